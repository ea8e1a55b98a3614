import PyProof.Rows.All
import Wide.All
import OpenK.AllK
import Wide.FinOn
import KE.KPairComp
import KE.KLcTest
import KE.KSortTup
import PyProof.FactsAll.int_1
import PyProof.StrReplace2
import Lean
import PySem.Challenge.RW_uy0018_01
set_option Elab.async false
set_option compiler.extract_closed false
set_option maxRecDepth 100000
namespace Mine
section
open PySem PySem.W PyProof.Rows
local macro_rules | `(tactic| refine $t) => do
  let mut hit := false
  let t' ← t.raw.rewriteBottomUpM fun s => do
    if s.getKind == ``Lean.Parser.Term.syntheticHole && s[1].getId == `hl then
      return (← `(by intro w; kernel_rfl)).raw
    return s
  if t' == t.raw then Lean.Macro.throwUnsupported
  `(tactic| refine $(⟨t'⟩))
set_option maxRecDepth 100000 in
theorem ws_d : looksOpen PySem.Challenge.rw_uy0018_01.row.prog = true := by
  unfold looksOpen
  repeat' (with_reducible refine look_both ?_ ?_)
  all_goals (decide +kernel)
set_option maxRecDepth 100000 in
theorem ws_e : PySem.Challenge.rw_uy0018_01.wellSaid = true := by
  unfold OpenLaw.wellSaid OpenRow.wellSaid OpenRow.partSaid
  repeat' (with_reducible refine look_both ?_ ?_)
  all_goals first | with_reducible exact ws_d | kernel_rfl
local macro_rules | `(tactic| o_law) => `(tactic| refine holds_law ws_e fun said => ?_)
set_option maxRecDepth 100000 in
set_option maxHeartbeats 8000000 in
open_top hd for PySem.Challenge.rw_uy0018_01
end
section
local macro_rules | `(tactic| omega) => `(tactic| first | lia | omega (config := {}))
section
open PySem PySem.W PySem.Calls PyProof.Rows
theorem fills_dm : fillsNumberSlot (.type "int") "divmod" = pure true :=
  fillsNumberSlot_of (id := "int.__divmod__") (r := some (.builtin "int.__rdivmod__")) (by rw [typeLookup_type, builtinLookup_eq_fast]; kernel_rfl) (by decide +kernel) (by rw [typeLookup_type, builtinLookup_eq_fast]; kernel_rfl)
theorem slot_dm : Slot "int" (dunder "divmod") "int.__divmod__" :=
  .of (owner := "int") (n := "__divmod__") (by rw [typeLookup_type, builtinLookup_eq_fast]; kernel_rfl) (by decide +kernel) (by decide +kernel) (by decide +kernel)
    (by first | exact .inl (by decide +kernel) | exact .inr (by decide +kernel)) (by rw [isSubtype_type]; kernel_rfl)
theorem entry_dm : entryFor table "int.__divmod__" = some Builtin.«int.__divmod__» := entryFor_of_fast (by kernel_rfl)
theorem args_dm (a b : Value) : argsOk "int.__divmod__" ⟨[a, b], []⟩ := by unfold argsOk; kernel_rfl
theorem kind_dvm : builtinKind "divmod" = none := by decide +kernel
theorem plain_dvm : plainId "divmod" = true := by decide +kernel
theorem entry_dvm : entryFor table "divmod" = some Builtin.«divmod» := entryFor_of_fast (by kernel_rfl)
theorem args_dvm (a b : Value) : argsOk "divmod" ⟨[a, b], []⟩ := by unfold argsOk; kernel_rfl

theorem dvm_eq (a b : Value) : Builtin.«divmod» ⟨[a, b], []⟩ = (Builtin.Builtins.binaryNamed "divmod()" "divmod" a b >>= fun v => ret v) := by kernel_rfl

section
variable {prog : Program} {w : World} {A : Around} {E : Value → Shared → Prop} {s : Shared} {h₀ : Heap} {L : Addr} {m : Str → Option Value} {news : List (Addr × Obj)}
abbrev tupO (vs : List Value) : Obj := { cls := .type "tuple", data := .seq vs.toArray }

theorem call_dm {a b : Int} {t u : Tok} {Q : Value → Shared → Prop} (hb : b ≠ 0) (hp : Builtin.divisionGoesByPylong a b = false)
    (h : wpAny (model prog w) A.in1.in1 (newTuple [.int (a.fdiv b) s.toks, .int (a.fmod b) (s.toks + 1)]) (fun v s' => v ≠ .notImplemented ∧ Q v s') E { s with toks := s.toks + 1 + 1 }) :
    wpAny (model prog w) A.in1 (call (.builtin "int.__divmod__") [.int a t, .int b u]) (fun v s' => v ≠ .notImplemented ∧ Q v s') E s := by
  refine wpAny_call_entry slot_dm (typeIs_int s a t) entry_dm ?_ (args_dm _ _)
  have hb' : (b == 0) = false := by simpa using hb
  show wpAny _ _ (do
    if b == 0 then rule "int.divmod.zero"; raiseError "ZeroDivisionError" "integer division or modulo by zero"
    Builtin.roomForPylong a b
    ret (← newTuple [← mkInt (a.fdiv b), ← mkInt (a.fmod b)])) _ _ s
  simp only [hb', Bool.false_eq_true, if_false, pure_bind]
  refine wpAny_bind (wpAny_roomForPylong (.inl hp) ?_)
  refine wpAny_bind (wpAny_mkInt (wpAny_bind (wpAny_mkInt (wpAny_bind (wpAny_mono h (fun v s' hv => ?_) fun _ _ e => e)))))
  exact wpAny_pure ⟨v, rfl, hv⟩

theorem divmod_K {a b : Int} {t u : Tok} {Q : Value → Shared → Prop} (F : Fr h₀ L s.heap m) (N : News h₀ L s.heap news) (hb : b ≠ 0) (hp : Builtin.divisionGoesByPylong a b = false)
    (h : ∀ D h', Fr h₀ L h' m → News h₀ L h' ((D, tupO [.int (a.fdiv b) s.toks, .int (a.fmod b) (s.toks + 1)]) :: news) → (∀ p ∈ news, p.1 < D) → Q (.ref D) { s with heap := h', toks := s.toks + 1 + 1 }) :
    wpAny (model prog w) A (call (.builtin "divmod") [.int a t, .int b u]) Q E s := by
  have k0 : wpAny (model prog w) A.in1.in1 (newTuple [.int (a.fdiv b) s.toks, .int (a.fmod b) (s.toks + 1)]) (fun v s' => v ≠ .notImplemented ∧ Q v s') E { s with toks := s.toks + 1 + 1 } := by
    refine newTuple_N (s := { s with toks := s.toks + 1 + 1 }) F N (fun h' F' N' => ⟨?_, ?_⟩) (by rw [sizeLine_eq]; exact Nat.le_of_ble_eq_true rfl)
    · intro e; cases e
    · exact h _ h' F' N' fun p hp => Heap.lt_size (N p hp).1
  have k1 := call_dm (t := t) (u := u) (A := A) hb hp k0
  have k2 : wpAny (model prog w) A.in1 (binaryOp1 "divmod" (.int a t) (.int b u)) (fun o s' => ∃ v, o = some v ∧ Q v s') E s := by
    refine wpAny_binaryOp1_same (T := "int") (nm := "divmod") (id := "int.__divmod__") ?_ ?_ ?_ ?_ ?_
    · exact typeIs_int s a t
    · exact typeIs_int s b u
    · exact fills_dm
    · exact slot_dm
    exact wpAny_mono k1 (fun v s' hv => ⟨hv.1, v, rfl, hv.2⟩) fun _ _ e => e
  have key : wpAny (model prog w) A.in1 (Builtin.Builtins.binaryNamed "divmod()" "divmod" (.int a t) (.int b u)) Q E s := by
    unfold Builtin.Builtins.binaryNamed
    with_reducible refine wpAny_holding ?_
    with_reducible refine wpAny_bind ?_
    refine wpAny_mono k2 (fun o s' ho => ?_) fun _ _ e => e
    obtain ⟨v, rfl, hv⟩ := ho
    exact wpAny_pure hv
  refine call_function_entry kind_dvm plain_dvm entry_dvm (args_dvm _ _) ?_
  rw [dvm_eq]
  refine wpAny_bind (wpAny_mono key (fun v s' hv => ?_) fun _ _ e => e)
  exact wpAny_pure ⟨v, rfl, hv⟩

theorem three_kept {h₀ h h' : Heap} {L : Addr} {m : Str → Option Value} {news : List (Addr × Obj)} (F : Fr h₀ L h m) (N : News h₀ L h news) (hold : ∀ d o, h.get? d = some o → h'.get? d = some o) : Fr h₀ L h' m ∧ News h₀ L h' news :=
  ⟨F.keeps hold, N.grown hold⟩

open PySem.Flt in
theorem max3 {a b c : UInt64} {ta tb tc : Tok} {Q : Value → Shared → Prop} (hh : A.handled = none) (F : Fr h₀ L s.heap m) (N : News h₀ L s.heap news)
    (h : ∀ z h' tk t, z = maxOfBits [a, b, c] → Fr h₀ L h' m → News h₀ L h' news → (ta ≠ 0 → tb ≠ 0 → tc ≠ 0 → t ≠ 0) → Q (.float z t) { s with heap := h', toks := tk }) :
    wpAny (model prog w) A (call (.builtin "max") [.float a ta, .float b tb, .float c tc]) Q E s := by
  have hf : FloatsAre [.float a ta, .float b tb, .float c tc] [a, b, c] := .cons _ _ (.cons _ _ (.cons _ _ .nil))
  have hT : (s.heap.push { cls := .type "tuple", data := .seq #[.float a ta, .float b tb, .float c tc] }).IsTuple s.heap.objs.size #[.float a ta, .float b tb, .float c tc] := ⟨_, Heap.get?_push_size _ rfl, rfl, 0, rfl⟩
  refine call_max_three (wpAny_pyIter_tuple hT ?_)
  have hsz : (s.heap.push { cls := .type "tuple", data := .seq #[.float a ta, .float b tb, .float c tc] }).objs.size = s.heap.objs.size + 1 := Heap.size_push ..
  refine ⟨_, [_, s.heap.objs.size], [_], _, _, _, fun i j => gtB ([a, b, c].getD i 0) ([a, b, c].getD j 0), rfl, Walks.tuple (A := A.in1) hh _ s.heap.objs.size (by rw [hsz]; exact Nat.ne_of_lt (Nat.lt_succ_self _)) #[.float a ta, .float b tb, .float c tc],
    ⟨⟨_, Heap.get?_push_size _ rfl, rfl, rfl⟩, hT.push _⟩, fun d hd => ?_, by simp, fun i j vi vj s Q E hi hj h => ?_, fun v h' tk hP hk => ?_⟩
  · show d < ((s.heap.push _).push _).objs.size
    rw [Heap.size_push, hsz]
    rcases List.mem_cons.mp hd with rfl | hd
    · rw [hsz]; exact Nat.lt_succ_self _
    · rcases List.mem_cons.mp hd with rfl | hd
      · exact Nat.lt_succ_of_lt (Nat.lt_succ_self _)
      · cases hd
  · obtain ⟨b, t, rfl, e1⟩ := hf.at i vi (by simpa using hi)
    obtain ⟨c, u, rfl, e2⟩ := hf.at j vj (by simpa using hj)
    simp only [List.getD_eq_getElem?_getD, e1, e2, Option.getD_some] at h
    exact AutoFloatOps.gt_0 (by rw [cmp_gt]; exact h)
  · have hold : ∀ d o, s.heap.get? d = some o → h'.get? d = some o := fun d o e => by
      refine hk d o (fun hm => ?_) (Heap.get?_push_of_some _ (Heap.get?_push_of_some _ e))
      rcases List.mem_cons.mp hm with e1 | hm
      · have := Heap.lt_size e; rw [e1, hsz] at this; exact Nat.lt_irrefl _ (Nat.lt_of_succ_lt this)
      · cases hm
    obtain ⟨b', t, rfl, e1⟩ := hf.at _ v ((List.getElem?_toArray).symm.trans hP)
    have e2 := argBest_bits gtB [a, b, c] 2 (by simp)
    rw [List.take_of_length_le (by simp)] at e2
    have e1' : [a, b, c][argBest (fun i j => gtB ([a, b, c].getD i 0) ([a, b, c].getD j 0)) 2]? = some b' := e1
    rw [List.getD_eq_getElem?_getD, e1', Option.getD_some] at e2
    obtain ⟨F', N'⟩ := three_kept F N hold
    refine h b' h' tk t e2 F' N' fun ha hb hc => ?_
    have hm := Array.mem_of_getElem? hP
    simp only [List.mem_toArray, List.mem_cons, Value.float.injEq, List.not_mem_nil, or_false] at hm
    rcases hm with ⟨_, q⟩ | ⟨_, q⟩ | ⟨_, q⟩ <;> rw [q] <;> assumption

open PySem.Flt in
theorem min3 {a b c : UInt64} {ta tb tc : Tok} {Q : Value → Shared → Prop} (hh : A.handled = none) (F : Fr h₀ L s.heap m) (N : News h₀ L s.heap news)
    (h : ∀ z h' tk t, z = minOfBits [a, b, c] → Fr h₀ L h' m → News h₀ L h' news → Q (.float z t) { s with heap := h', toks := tk }) :
    wpAny (model prog w) A (call (.builtin "min") [.float a ta, .float b tb, .float c tc]) Q E s := by
  have hf : FloatsAre [.float a ta, .float b tb, .float c tc] [a, b, c] := .cons _ _ (.cons _ _ (.cons _ _ .nil))
  have hT : (s.heap.push { cls := .type "tuple", data := .seq #[.float a ta, .float b tb, .float c tc] }).IsTuple s.heap.objs.size #[.float a ta, .float b tb, .float c tc] := ⟨_, Heap.get?_push_size _ rfl, rfl, 0, rfl⟩
  refine call_min_three (wpAny_pyIter_tuple hT ?_)
  have hsz : (s.heap.push { cls := .type "tuple", data := .seq #[.float a ta, .float b tb, .float c tc] }).objs.size = s.heap.objs.size + 1 := Heap.size_push ..
  refine ⟨_, [_, s.heap.objs.size], [_], _, _, _, fun i j => ltB ([a, b, c].getD i 0) ([a, b, c].getD j 0), rfl, Walks.tuple (A := A.in1) hh _ s.heap.objs.size (by rw [hsz]; exact Nat.ne_of_lt (Nat.lt_succ_self _)) #[.float a ta, .float b tb, .float c tc],
    ⟨⟨_, Heap.get?_push_size _ rfl, rfl, rfl⟩, hT.push _⟩, fun d hd => ?_, by simp, fun i j vi vj s Q E hi hj h => ?_, fun v h' tk hP hk => ?_⟩
  · show d < ((s.heap.push _).push _).objs.size
    rw [Heap.size_push, hsz]
    rcases List.mem_cons.mp hd with rfl | hd
    · rw [hsz]; exact Nat.lt_succ_self _
    · rcases List.mem_cons.mp hd with rfl | hd
      · exact Nat.lt_succ_of_lt (Nat.lt_succ_self _)
      · cases hd
  · obtain ⟨b, t, rfl, e1⟩ := hf.at i vi (by simpa using hi)
    obtain ⟨c, u, rfl, e2⟩ := hf.at j vj (by simpa using hj)
    simp only [List.getD_eq_getElem?_getD, e1, e2, Option.getD_some] at h
    exact AutoFloatOps.lt_0 h
  · have hold : ∀ d o, s.heap.get? d = some o → h'.get? d = some o := fun d o e => by
      refine hk d o (fun hm => ?_) (Heap.get?_push_of_some _ (Heap.get?_push_of_some _ e))
      rcases List.mem_cons.mp hm with e1 | hm
      · have := Heap.lt_size e; rw [e1, hsz] at this; exact Nat.lt_irrefl _ (Nat.lt_of_succ_lt this)
      · cases hm
    obtain ⟨b', t, rfl, e1⟩ := hf.at _ v ((List.getElem?_toArray).symm.trans hP)
    have e2 := argBest_bits ltB [a, b, c] 2 (by simp)
    rw [List.take_of_length_le (by simp)] at e2
    have e1' : [a, b, c][argBest (fun i j => ltB ([a, b, c].getD i 0) ([a, b, c].getD j 0)) 2]? = some b' := e1
    rw [List.getD_eq_getElem?_getD, e1', Option.getD_some] at e2
    obtain ⟨F', N'⟩ := three_kept F N hold
    exact h b' h' tk t e2 F' N'
end
section
variable {prog : Program} {w : World} {A : Around} {E : Value → Shared → Prop} {s : Shared} {a b c : Int} {t u : Tok} {Q : Value → Shared → Prop}
theorem fdiv_known (hb : b ≠ 0) (e : a.fdiv b = c) (hp : Builtin.divisionGoesByPylong a b = false) (h : Q (.int c s.toks) { s with toks := s.toks + 1 }) :
    wpAny (model prog w) A (binaryOp .FloorDiv (.int a t) (.int b u)) Q E s := floordiv_int hb (by rw [e]; exact h) (.inl hp)
end
section
variable {prog : Program} {w : World} {A : Around} {E : Value → Shared → Prop} {s : Shared} {a b c : Int} {t u : Tok} {Q : Value → Shared → Prop}
theorem rsh_known (hb : 0 ≤ b) (e : a.fdiv (2 ^ b.toNat) = c) (h : Q (.int c s.toks) { s with toks := s.toks + 1 }) :
    wpAny (model prog w) A (binaryOp .RShift (.int a t) (.int b u)) Q E s := rshift_int hb (by rw [e]; exact h)
theorem lsh_known (hb : 0 ≤ b) (hb2 : b ≤ 1000000) (ha : a.natAbs < 2 ^ 64) (e : a * 2 ^ b.toNat = c) (h : Q (.int c s.toks) { s with toks := s.toks + 1 }) :
    wpAny (model prog w) A (binaryOp .LShift (.int a t) (.int b u)) Q E s := lshift_int_small hb hb2 ha (by rw [e]; exact h)
theorem xor_known (e : Builtin.bitXor a b = c) (h : Q (.int c s.toks) { s with toks := s.toks + 1 }) :
    wpAny (model prog w) A (binaryOp .BitXor (.int a t) (.int b u)) Q E s := xor_int (by rw [e]; exact h)
theorem mul_known (h1 : -(2 ^ 64) < b) (h2 : b < 2 ^ 64) (e : a * b = c) (h : Q (.int c s.toks) { s with toks := s.toks + 1 }) :
    wpAny (model prog w) A (binaryOp .Mult (.int a t) (.int b u)) Q E s := mul_int (by rw [e]; exact h) (IntMulOk.of_right (intBits_le_64 h1 h2))
end
section
variable {prog : Program} {w : World} {A : Around} {E : Value → Shared → Prop} {s : Shared} {Q : Value → Shared → Prop} {h₀ : Heap} {L : Addr} {m : Str → Option Value} {news : List (Addr × Obj)}
theorem list_base {l : Addr} {its : Array Value} (F : Fr h₀ L s.heap m) (x : h₀.IsList l its) : s.heap.IsList l its := stays_list F.keep x
theorem list_news {l : Addr} {its : Array Value} {n : Nat} (N : News h₀ L s.heap news) (x : (l, W.listOf its n) ∈ news) : s.heap.IsList l its := ⟨_, (N _ x).1, rfl, n, rfl⟩
theorem item_known {value slice : Expr} {l : Addr} {items : Array Value} {k : Int} {u : Tok} {v : Value} (hl : s.heap.IsList l items) (h0 : 0 ≤ k) (hk : k < 2 ^ 63) (e : items[k.toNat]? = some v) (h : Q v s)
    (hs : subscripted slice false (.ref l) (.int k u) = operate [.ref l, .int k u] (getItem (.ref l) (.int k u))) (hg : ∀ r, letTemporaryGo value (.ref l) r = pure ()) :
    wpAny (model prog w) A (subscriptTail value slice (.ref l) (.int k u)) Q E s :=
  subscriptTail_builtin hl.typeIs slot_list_getitem.lookup (wpAny_getItem_list hl h0 hk e h) hs hg
end
section
variable {prog : Program} {w : World} {A : Around} {E : Value → Shared → Prop} {s : Shared} {a b c : Int} {t u : Tok} {Q : Value → Shared → Prop}
theorem add_known (e : a + b = c) (h : Q (.int c s.toks) { s with toks := s.toks + 1 }) : wpAny (model prog w) A (binaryOp .Add (.int a t) (.int b u)) Q E s := add_int (by rw [e]; exact h)
end
theorem bitlen_known {prog : Program} {w : World} {A : Around} {E : Value → Shared → Prop} {s : Shared} {a c : Int} {t : Tok} {Q : Value → Shared → Prop} (e : ((Builtin.Int.intBits a : Nat) : Int) = c) (h : Q (.int c s.toks) { s with toks := s.toks + 1 }) :
    wpAny (model prog w) A (call (.builtin "int.bit_length") [.int a t]) Q E s := call_int_bit_length (by rw [e]; exact h)
end
section
open PySem PySem.W PySem.Calls PyProof.Rows
section
open PySem.Float64

/-- x is the number k / 1024, to the last place -/
def Is (x : UInt64) (k : Int) : Prop := ∃ a m e, decode x = .fin a m e ∧ val x = k * ((2 ^ 1064 : Nat) : Int)

theorem rep_ex (n : Nat) (h : n < 2 ^ 53) : ∃ t, t < infMag ∧ V t = n * 2 ^ 1064 := by
  by_cases h0 : n = 0
  · subst h0
    exact ⟨0, by decide, by rw [V_zero, Nat.zero_mul]⟩
  · have hl : n.log2 < 53 := (Nat.log2_lt h0).mpr h
    have h1 : 2 ^ n.log2 ≤ n := Nat.log2_self_le h0
    have h2 : n < 2 ^ (n.log2 + 1) := Nat.lt_log2_self
    obtain ⟨j, hj⟩ : ∃ j, n.log2 + j = 52 := ⟨52 - n.log2, by omega⟩
    have hj52 : j ≤ 52 := by omega
    have q1 : 2 ^ 52 ≤ n * 2 ^ j := by
      rw [← hj, Nat.pow_add]
      exact Nat.mul_le_mul_right _ h1
    have q2 : n * 2 ^ j < 2 ^ 53 := by
      have : 2 ^ 53 = 2 ^ (n.log2 + 1) * 2 ^ j := by
        rw [← Nat.pow_add]; congr 1; omega
      rw [this]
      exact Nat.mul_lt_mul_of_pos_right h2 (Nat.two_pow_pos j)
    refine ⟨(1064 - j) * 2 ^ 52 + n * 2 ^ j, ?_, ?_⟩
    · have : (1064 - j) * 2 ^ 52 ≤ 1064 * 2 ^ 52 := Nat.mul_le_mul_right _ (by omega)
      unfold infMag
      omega
    · rw [V_at (by omega) (.inl q1), Nat.mul_assoc, ← Nat.pow_add]
      congr 2
      omega

theorem dist_zero {a b : Nat} (h : dist a b = 0) : a = b := by
  unfold dist at h; omega
theorem dist_self (a : Nat) : dist a a = 0 := by unfold dist; omega

theorem right_exact {r : UInt64} {neg : Bool} {n D : Nat} (hD : 0 < D) (hn : n < 2 ^ 53) (h : Right r neg (n * 2 ^ 1064 * D) D) :
    ∃ m e, decode r = .fin neg m e ∧ val r = sgn neg (n * 2 ^ 1064) := by
  obtain ⟨t, rfl, hle, hinf, hnear⟩ := h
  obtain ⟨t0, ht0, hV⟩ := rep_ex n hn
  have hlt : t < infMag := by
    rcases Nat.lt_or_ge t infMag with h | h
    · exact h
    · exfalso
      have e : t = infMag := Nat.le_antisymm hle h
      have := hinf.mp e
      have h2 : D * ((2 ^ 54 - 1) * 2 ^ 2045) ≤ D * (2 * (n * 2 ^ 1064)) := by
        have e2 : 2 * (n * 2 ^ 1064 * D) = D * (2 * (n * 2 ^ 1064)) := by
          generalize n * 2 ^ 1064 = z
          rw [Nat.mul_comm z D, ← Nat.mul_assoc, Nat.mul_comm 2 D, Nat.mul_assoc]
        rw [← e2]; exact this
      have h3 := Nat.le_of_mul_le_mul_left h2 hD
      have e4 : (2 : Nat) ^ 2045 = 2 ^ 981 * 2 ^ 1064 := by rw [← Nat.pow_add]
      rw [e4, ← Nat.mul_assoc, ← Nat.mul_assoc] at h3
      have h5 := Nat.le_of_mul_le_mul_right h3 (Nat.two_pow_pos 1064)
      have h6 : 2 * 2 ^ 53 ≤ 2 ^ 981 := by
        have : (2 : Nat) * 2 ^ 53 = 2 ^ 54 := rfl
        rw [this]
        exact Nat.pow_le_pow_right (by decide) (by decide)
      have h7 : 2 ^ 981 ≤ (2 ^ 54 - 1) * 2 ^ 981 := Nat.le_mul_of_pos_left _ (by decide)
      omega
  have hd := (hnear hlt t0).1
  have e1 : D * V t0 = n * 2 ^ 1064 * D := by rw [hV, Nat.mul_comm]
  rw [e1, dist_self] at hd
  have e2 := dist_zero (Nat.le_zero.mp hd)
  have e3 : V t = n * 2 ^ 1064 := by
    rw [Nat.mul_comm _ D] at e2
    exact (Nat.eq_of_mul_eq_mul_left hD e2).symm
  obtain ⟨m, e, hdec, hv⟩ := decode_pack neg hlt
  exact ⟨m, e, hdec, by rw [val_pack neg hlt, e3]⟩

theorem sgn_int (k : Int) : sgn (decide (k < 0)) k.natAbs = k := by
  unfold sgn
  by_cases h : k < 0
  · simp only [h, decide_true, if_true]; omega
  · simp only [h, decide_false, Bool.false_eq_true, if_false]; omega

theorem is_of_right {r : UInt64} {k : Int} {neg : Bool} {W D : Nat} (hD : 0 < D) (hk : k.natAbs < 2 ^ 53) (hneg : sgn neg k.natAbs = k) (hW : W = k.natAbs * 2 ^ 1064 * D) (h : Right r neg W D) : Is r k := by
  rw [hW] at h
  obtain ⟨m, e, hd, hv⟩ := right_exact hD hk h
  refine ⟨neg, m, e, hd, ?_⟩
  rw [hv, sgn_mul, hneg]

theorem is_zero (b : Bool) : Is (zero b) 0 := by
  obtain ⟨m, e, hd, _⟩ := decode_pack b (t := 0) (by decide)
  refine ⟨b, m, e, hd, ?_⟩
  have h := val_pack b (t := 0) (by decide)
  rw [V_zero] at h
  rw [Int.zero_mul]
  refine h.trans ?_
  cases b <;> rfl

theorem natAbs_mulK (k : Int) (K : Nat) : (k * (K : Int)).natAbs = k.natAbs * K := by rw [Int.natAbs_mul, Int.natAbs_natCast]
theorem neg_mulK (k : Int) {K : Nat} (hK : 0 < K) : decide (k * (K : Int) < 0) = decide (k < 0) := by
  have hK' : (0 : Int) < K := Int.ofNat_lt.mpr hK
  by_cases h : k < 0
  · rw [decide_eq_true h, decide_eq_true (Int.mul_neg_of_neg_of_pos h hK')]
  · rw [decide_eq_false h, decide_eq_false (Int.not_lt.mpr (Int.mul_nonneg (Int.not_lt.mp h) (Int.le_of_lt hK')))]
theorem zero_mulK (k : Int) {K : Nat} (hK : 0 < K) : k * (K : Int) = 0 ↔ k = 0 := by
  constructor
  · intro h
    rcases Int.mul_eq_zero.mp h with h | h
    · exact h
    · omega
  · rintro rfl; exact Int.zero_mul _

theorem is_add {x y : UInt64} {j k : Int} (hx : Is x j) (hy : Is y k) (hb : (j + k).natAbs < 2 ^ 53) : Is (add x y) (j + k) := by
  obtain ⟨a, m, e, dx, vx⟩ := hx
  obtain ⟨b, n, f, dy, vy⟩ := hy
  obtain ⟨h0, h1⟩ := add_right dx dy
  have hs : val x + val y = (j + k) * ((2 ^ 1064 : Nat) : Int) := by rw [vx, vy, Int.add_mul]
  rw [hs] at h0 h1
  have hK : 0 < 2 ^ 1064 := Nat.two_pow_pos _
  by_cases hz : j + k = 0
  · rw [h0 ((zero_mulK _ hK).mpr hz), hz]; exact is_zero _
  · have h2 := h1 (fun q => hz ((zero_mulK _ hK).mp q))
    rw [neg_mulK _ hK, natAbs_mulK] at h2
    exact is_of_right (D := 1) (by decide) hb (sgn_int _) (by rw [Nat.mul_one]) h2
theorem is_sub {x y : UInt64} {j k : Int} (hx : Is x j) (hy : Is y k) (hb : (j - k).natAbs < 2 ^ 53) : Is (sub x y) (j - k) := by
  obtain ⟨a, m, e, dx, vx⟩ := hx
  obtain ⟨b, n, f, dy, vy⟩ := hy
  obtain ⟨h0, h1⟩ := sub_right dx dy
  have hs : val x - val y = (j - k) * ((2 ^ 1064 : Nat) : Int) := by rw [vx, vy, Int.sub_mul]
  rw [hs] at h0 h1
  have hK : 0 < 2 ^ 1064 := Nat.two_pow_pos _
  by_cases hz : j - k = 0
  · rw [h0 ((zero_mulK _ hK).mpr hz), hz]; exact is_zero _
  · have h2 := h1 (fun q => hz ((zero_mulK _ hK).mp q))
    rw [neg_mulK _ hK, natAbs_mulK] at h2
    exact is_of_right (D := 1) (by decide) hb (sgn_int _) (by rw [Nat.mul_one]) h2

theorem K74 : (2 : Nat) ^ 1074 = 2 ^ 1064 * 1024 := by
  rw [show (1024 : Nat) = 2 ^ 10 by decide, ← Nat.pow_add]

theorem dec_sgn {x : UInt64} {a : Bool} {m : Nat} {e : Int} {j : Int} (dx : decode x = .fin a m e) (vx : val x = j * ((2 ^ 1064 : Nat) : Int)) : sgn a j.natAbs = j ∧ (j = 0 → m = 0) := by
  have hK : 0 < 2 ^ 1064 := Nat.two_pow_pos _
  have h1 := val_eq dx
  have h2 := val_natAbs dx
  rw [vx] at h1 h2
  rw [natAbs_mulK] at h2
  have hp : 0 < 2 ^ (e + 1074).toNat := Nat.two_pow_pos _
  generalize 2 ^ (e + 1074).toNat = P at *
  generalize 2 ^ 1064 = K at *
  constructor
  · cases a with
    | false =>
      unfold sgn at h1 ⊢
      simp only [Bool.false_eq_true, if_false] at h1 ⊢
      have : 0 ≤ j * (K : Int) := by rw [h1]; exact Int.natCast_nonneg _
      have : 0 ≤ j := by
        rcases Int.lt_or_le j 0 with q | q
        · have := Int.mul_neg_of_neg_of_pos q (Int.ofNat_lt.mpr hK); omega
        · exact q
      omega
    | true =>
      unfold sgn at h1 ⊢
      simp only [if_true] at h1 ⊢
      have : j * (K : Int) ≤ 0 := by rw [h1]; omega
      have : j ≤ 0 := by
        rcases Int.lt_or_le 0 j with q | q
        · have := Int.mul_pos q (Int.ofNat_lt.mpr hK); omega
        · exact q
      omega
  · rintro rfl
    simp only [Int.natAbs_zero, Nat.zero_mul] at h2
    rcases Nat.mul_eq_zero.mp h2.symm with q | q
    · exact q
    · omega
theorem sgn_xor (a b : Bool) (m n : Nat) : sgn (a != b) (m * n) = sgn a m * sgn b n := by
  unfold sgn
  cases a <;> cases b <;> simp [Int.mul_neg, Int.neg_mul]

theorem is_mul {x y : UInt64} {j k l : Int} (hx : Is x j) (hy : Is y k) (hl : j * k = l * 1024) (hb : l.natAbs < 2 ^ 53) : Is (mul x y) l := by
  obtain ⟨a, m, e, dx, vx⟩ := hx
  obtain ⟨b, n, f, dy, vy⟩ := hy
  have h := mul_right dx dy
  rw [vx, vy, natAbs_mulK, natAbs_mulK] at h
  have hab : j.natAbs * k.natAbs = l.natAbs * 1024 := by
    have := congrArg Int.natAbs hl
    rw [Int.natAbs_mul, Int.natAbs_mul] at this
    exact this
  refine is_of_right (D := 2 ^ 1074) (Nat.two_pow_pos _) hb ?_ ?_ h
  · have e1 := (dec_sgn dx vx).1
    have e2 := (dec_sgn dy vy).1
    have e3 : sgn (a != b) (l.natAbs * 1024) = l * 1024 := by rw [← hab, sgn_xor, e1, e2, hl]
    rw [sgn_mul] at e3
    have : sgn (a != b) l.natAbs * ((1024 : Nat) : Int) = l * ((1024 : Nat) : Int) := e3
    exact Int.eq_of_mul_eq_mul_right (by decide) this
  · rw [K74]
    generalize 2 ^ 1064 = K
    calc j.natAbs * K * (k.natAbs * K) = j.natAbs * k.natAbs * (K * K) := by ac_rfl
      _ = l.natAbs * 1024 * (K * K) := by rw [hab]
      _ = l.natAbs * K * (K * 1024) := by ac_rfl
theorem is_div {x y : UInt64} {j k l : Int} (hx : Is x j) (hy : Is y k) (hk : k ≠ 0) (hl : j * 1024 = l * k) (hb : l.natAbs < 2 ^ 53) : Is (div x y) l := by
  obtain ⟨a, m, e, dx, vx⟩ := hx
  obtain ⟨b, n, f, dy, vy⟩ := hy
  have hn : n ≠ 0 := by
    rintro rfl
    have := val_natAbs dy
    rw [vy, natAbs_mulK, Nat.zero_mul] at this
    rcases Nat.mul_eq_zero.mp this with q | q
    · omega
    · exact absurd q (Nat.ne_of_gt (Nat.two_pow_pos _))
  have h := div_right dx dy hn
  rw [vx, vy, natAbs_mulK, natAbs_mulK] at h
  have hab : j.natAbs * 1024 = l.natAbs * k.natAbs := by
    have := congrArg Int.natAbs hl
    rw [Int.natAbs_mul, Int.natAbs_mul] at this
    exact this
  refine is_of_right (D := k.natAbs * 2 ^ 1064) (Nat.mul_pos (by omega) (Nat.two_pow_pos _)) hb ?_ ?_ h
  · have e1 := (dec_sgn dx vx).1
    have e2 := (dec_sgn dy vy).1
    have e3 : sgn (a != b) (j.natAbs * k.natAbs) = j * k := by rw [sgn_xor, e1, e2]
    have e4 : sgn (a != b) (l.natAbs * (k.natAbs * k.natAbs)) = l * (k * k) := by
      rw [← Nat.mul_assoc, ← hab, Nat.mul_right_comm, sgn_mul, e3]
      show j * k * 1024 = _
      rw [Int.mul_right_comm, hl, Int.mul_assoc]
    rw [sgn_mul] at e4
    have e5 : ((k.natAbs * k.natAbs : Nat) : Int) = k * k := by rw [Int.natCast_mul]; exact Int.natAbs_mul_self' k
    rw [e5] at e4
    exact Int.eq_of_mul_eq_mul_right (by intro q; rcases Int.mul_eq_zero.mp q with q | q <;> exact hk q) e4
  · rw [K74]
    generalize 2 ^ 1064 = K
    calc j.natAbs * K * (K * 1024) = j.natAbs * 1024 * (K * K) := by ac_rfl
      _ = l.natAbs * k.natAbs * (K * K) := by rw [hab]
      _ = l.natAbs * K * (k.natAbs * K) := by ac_rfl

theorem is_ofInt (i : Int) (hb : (i * 1024).natAbs < 2 ^ 53) : Is (ofInt i) (i * 1024) := by
  have h := ofInt_right i
  have hs : decide (i < 0) = decide (i * 1024 < 0) := by
    by_cases q : i < 0
    · rw [decide_eq_true q, decide_eq_true (by omega)]
    · rw [decide_eq_false q, decide_eq_false (by omega)]
  refine is_of_right (D := 1) (by decide) hb (by rw [hs]; exact sgn_int _) ?_ h
  rw [Int.natAbs_mul, K74, Nat.mul_one]
  show _ = i.natAbs * 1024 * 2 ^ 1064
  generalize 2 ^ 1064 = K
  ac_rfl

theorem cmp_scale (p q : Int) {K : Nat} (hK : 0 < K) : compare (p * (K : Int)) (q * (K : Int)) = compare p q := by
  have hK' : (0 : Int) < K := Int.ofNat_lt.mpr hK
  rcases Int.lt_trichotomy p q with h | h | h
  · rw [Int.compare_eq_lt.mpr h, Int.compare_eq_lt.mpr (Int.mul_lt_mul_of_pos_right h hK')]
  · subst h; simp
  · rw [Int.compare_eq_gt.mpr h, Int.compare_eq_gt.mpr (Int.mul_lt_mul_of_pos_right h hK')]
theorem is_cmp {x y : UInt64} {j k : Int} (hx : Is x j) (hy : Is y k) : cmp x y = some (compare j k) := by
  obtain ⟨a, m, e, dx, vx⟩ := hx
  obtain ⟨b, n, f, dy, vy⟩ := hy
  rw [cmp_right dx dy, vx, vy, cmp_scale _ _ (Nat.two_pow_pos _)]
theorem is_cmpInt {x : UInt64} {j : Int} (hx : Is x j) (i : Int) : cmpInt x i = some (compare j (i * 1024)) := by
  obtain ⟨a, m, e, dx, vx⟩ := hx
  rw [cmpInt_right dx, vx]
  have e : i * 2 ^ 1074 = i * 1024 * ((2 ^ 1064 : Nat) : Int) := by
    have : (2 : Int) ^ 1074 = 1024 * ((2 ^ 1064 : Nat) : Int) := by
      have := congrArg (Nat.cast (R := Int)) K74
      rw [Int.natCast_mul, Int.mul_comm] at this
      show ((2 : Nat) : Int) ^ 1074 = ((1024 : Nat) : Int) * _
      rw [← this, Int.natCast_pow]
    rw [this, Int.mul_assoc]
  rw [e, cmp_scale _ _ (Nat.two_pow_pos _)]
theorem is_finite {x : UInt64} {j : Int} (hx : Is x j) : isFinite x = true := by
  obtain ⟨a, m, e, dx, vx⟩ := hx
  unfold isFinite; rw [dx]
theorem is_nan {x : UInt64} {j : Int} (hx : Is x j) : Float64.isNaN x = false := by
  obtain ⟨a, m, e, dx, vx⟩ := hx
  unfold Float64.isNaN; rw [dx]
theorem is_inf {x : UInt64} {j : Int} (hx : Is x j) : isInf x = false := by
  obtain ⟨a, m, e, dx, vx⟩ := hx
  unfold isInf; rw [dx]

theorem is_trunc {x : UInt64} {j : Int} (hx : Is x j) (h0 : 0 ≤ j) : Flt.toInt truncOf x = j / 1024 := by
  obtain ⟨a, m, e, dx, vx⟩ := hx
  have hs := dec_sgn dx vx
  have he := decode_ge dx
  have hn := val_natAbs dx
  rw [vx, natAbs_mulK] at hn
  unfold Flt.toInt
  rw [dx]
  obtain ⟨n, rfl⟩ : ∃ n : Nat, j = n := ⟨j.toNat, by omega⟩
  rw [Int.natAbs_natCast] at hn
  have fl : floorOf false m e = ((n / 1024 : Nat) : Int) := by
    unfold floorOf sgn
    simp only [Bool.false_eq_true, if_false]
    by_cases h : e ≥ 0
    · rw [if_pos h]
      have e1 : (e + 1074).toNat = e.toNat + 1074 := by omega
      rw [e1, Nat.pow_add, K74, ← Nat.mul_assoc, ← Nat.mul_assoc, Nat.mul_right_comm] at hn
      have e2 : n = m * 2 ^ e.toNat * 1024 := Nat.eq_of_mul_eq_mul_right (Nat.two_pow_pos 1064) hn
      rw [e2, Nat.mul_div_cancel _ (by decide), Int.natCast_mul, Int.natCast_pow]
      rfl
    · rw [if_neg h]
      obtain ⟨d, hd⟩ : ∃ d : Nat, (-e).toNat = d := ⟨_, rfl⟩
      have e1 : (e + 1074).toNat + d = 1074 := by omega
      have e2 : n * 2 ^ d * 2 ^ 1064 = m * 1024 * 2 ^ 1064 := by
        have : n * 2 ^ 1064 * 2 ^ d = m * 2 ^ (e + 1074).toNat * 2 ^ d := by rw [hn]
        rw [Nat.mul_assoc m, ← Nat.pow_add, e1, K74] at this
        rw [Nat.mul_right_comm, this]
        generalize 2 ^ 1064 = K
        ac_rfl
      have e3 : n * 2 ^ d = m * 1024 := Nat.eq_of_mul_eq_mul_right (Nat.two_pow_pos 1064) e2
      rw [hd]
      have e4 : ((2 : Int) ^ d) = ((2 ^ d : Nat) : Int) := by rw [Int.natCast_pow]; rfl
      rw [e4, Int.fdiv_eq_ediv_of_nonneg _ (Int.natCast_nonneg _), ← Int.natCast_ediv]
      congr 1
      rw [← Nat.mul_div_mul_right m (2 ^ d) (show 0 < 1024 by decide), ← e3, Nat.mul_comm n, Nat.mul_div_mul_left _ _ (Nat.two_pow_pos d)]
  have goal : ((n : Int) / 1024) = ((n / 1024 : Nat) : Int) := rfl
  rw [goal]
  cases a with
  | false => exact fl
  | true =>
    have hj : n = 0 := by
      have := hs.1
      unfold sgn at this
      simp only [if_true, Int.natAbs_natCast] at this
      omega
    subst hj
    have hm := hs.2 rfl
    subst hm
    show ceilOf true 0 e = _
    unfold ceilOf
    show -floorOf false 0 e = _
    rw [fl]
    rfl
end
end
section
open PySem PySem.W PySem.Calls PyProof.Rows
section
open PySem.Float64

theorem is_c6 : Is 4618441417868443648 6144 := by
  have e : ofInt 6 = 4618441417868443648 := by decide +kernel
  exact e ▸ is_ofInt 6 (by decide)
theorem is_c1 : Is 4607182418800017408 1024 := by
  have e : ofInt 1 = 4607182418800017408 := by decide +kernel
  exact e ▸ is_ofInt 1 (by decide)
theorem is_c2 : Is 4611686018427387904 2048 := by
  have e : ofInt 2 = 4611686018427387904 := by decide +kernel
  exact e ▸ is_ofInt 2 (by decide)
theorem is_c4 : Is 4616189618054758400 4096 := by
  have e : ofInt 4 = 4616189618054758400 := by decide +kernel
  exact e ▸ is_ofInt 4 (by decide)
theorem is_c0 : Is 0 0 := by
  have e : ofInt 0 = 0 := by decide +kernel
  exact e ▸ is_ofInt 0 (by decide)
theorem is_c05 : Is 4602678819172646912 512 := by
  have e : Float64.div 4607182418800017408 4611686018427387904 = 4602678819172646912 := by decide +kernel
  exact e ▸ is_div is_c1 is_c2 (by decide) (by decide) (by decide)

theorem is_isZero {x : UInt64} {j : Int} (hx : Is x j) : isZero x = decide (j = 0) := by
  have h := Flt.isZero_eq x
  rw [is_cmpInt hx 0] at h
  rw [h]
  rcases Int.lt_trichotomy j 0 with q | q | q
  · rw [Int.zero_mul, Int.compare_eq_lt.mpr q, decide_eq_false (by omega)]; rfl
  · subst q; rfl
  · rw [Int.zero_mul, Int.compare_eq_gt.mpr q, decide_eq_false (by omega)]; rfl
theorem is_eqB {x y : UInt64} {j k : Int} (hx : Is x j) (hy : Is y k) : (cmp x y == some .eq) = decide (j = k) := by
  rw [is_cmp hx hy]
  rcases Int.lt_trichotomy j k with q | q | q
  · rw [Int.compare_eq_lt.mpr q, decide_eq_false (by omega)]; rfl
  · subst q; simp
  · rw [Int.compare_eq_gt.mpr q, decide_eq_false (by omega)]; rfl
theorem is_ltB {x y : UInt64} {j k : Int} (hx : Is x j) (hy : Is y k) : (cmp x y == some .lt) = decide (j < k) := by
  rw [is_cmp hx hy]
  rcases Int.lt_trichotomy j k with q | q | q
  · rw [Int.compare_eq_lt.mpr q, decide_eq_true q]; rfl
  · subst q; simp
  · rw [Int.compare_eq_gt.mpr q, decide_eq_false (by omega)]; rfl
theorem is_max {a b c : UInt64} {i j k : Int} (ha : Is a i) (hb : Is b j) (hc : Is c k) : Is (Flt.maxOfBits [a, b, c]) (max (max i j) k) := by
  show Is (Flt.bestBits Flt.gtB a [b, c]) _
  have e : Flt.bestBits Flt.gtB a [b, c] = (if Flt.gtB c (if Flt.gtB b a = true then b else a) = true then c else (if Flt.gtB b a = true then b else a)) := rfl
  rw [e]
  have h1 : Is (if Flt.gtB b a = true then b else a) (max i j) := by
    unfold Flt.gtB
    rw [is_ltB ha hb]
    by_cases q : i < j
    · rw [decide_eq_true q, if_pos rfl, show max i j = j by omega]; exact hb
    · rw [decide_eq_false q, if_neg (by simp), show max i j = i by omega]; exact ha
  generalize (if Flt.gtB b a = true then b else a) = z at *
  unfold Flt.gtB
  rw [is_ltB h1 hc]
  by_cases q : max i j < k
  · rw [decide_eq_true q, if_pos rfl, show max (max i j) k = k by omega]; exact hc
  · rw [decide_eq_false q, if_neg (by simp), show max (max i j) k = max i j by omega]; exact h1
theorem is_min {a b c : UInt64} {i j k : Int} (ha : Is a i) (hb : Is b j) (hc : Is c k) : Is (Flt.minOfBits [a, b, c]) (min (min i j) k) := by
  show Is (Flt.bestBits Flt.ltB a [b, c]) _
  have e : Flt.bestBits Flt.ltB a [b, c] = (if Flt.ltB c (if Flt.ltB b a = true then b else a) = true then c else (if Flt.ltB b a = true then b else a)) := rfl
  rw [e]
  have h1 : Is (if Flt.ltB b a = true then b else a) (min i j) := by
    unfold Flt.ltB
    rw [is_ltB hb ha]
    by_cases q : j < i
    · rw [decide_eq_true q, if_pos rfl, show min i j = j by omega]; exact hb
    · rw [decide_eq_false q, if_neg (by simp), show min i j = i by omega]; exact ha
  generalize (if Flt.ltB b a = true then b else a) = z at *
  unfold Flt.ltB
  rw [is_ltB hc h1]
  by_cases q : k < min i j
  · rw [decide_eq_true q, if_pos rfl, show min (min i j) k = k by omega]; exact hc
  · rw [decide_eq_false q, if_neg (by simp), show min (min i j) k = min i j by omega]; exact h1

theorem is_fmod {x : UInt64} {j : Int} (hx : Is x j) (hj : j.natAbs < 1024) : Is (fmod x 4607182418800017408) j := by
  have hd : decode 4607182418800017408 = .fin false (2 ^ 52) (-52) := by kernel_rfl
  obtain ⟨a, m, e, dx, vx⟩ := hx
  have hs := (dec_sgn dx vx).1
  have he := decode_ge dx
  have hn := val_natAbs dx
  rw [vx, natAbs_mulK] at hn
  have h1 : fmod x 4607182418800017408 = ofBin a ((align false m e false (2 ^ 52) (-52)).1.toNat % (align false m e false (2 ^ 52) (-52)).2.1.toNat) (align false m e false (2 ^ 52) (-52)).2.2 := by
    unfold fmod
    rw [dx, hd]
    rfl
  rw [h1]
  have h2 : align false m e false (2 ^ 52) (-52) = (((m * 2 ^ (e - min e (-52)).toNat : Nat) : Int), ((2 ^ 52 * 2 ^ (-52 - min e (-52)).toNat : Nat) : Int), min e (-52)) := rfl
  rw [h2]
  simp only [Int.toNat_natCast]
  generalize hg : min e (-52) = g
  have g1 : g ≤ e := hg ▸ Int.min_le_left _ _
  have g2 : g ≤ -52 := hg ▸ Int.min_le_right _ _
  have g3 : -1074 ≤ g := hg ▸ Int.le_min.mpr ⟨he, by decide⟩
  clear hg
  have g4 : 0 ≤ g + 1074 := Int.add_le_add_right g3 1074
  have tn : ∀ {x y z : Int}, 0 ≤ x → 0 ≤ y → x + y = z → x.toNat + y.toNat = z.toNat := by
    intro x y z hx hy e
    rw [← e]
    exact (Int.toNat_add hx hy).symm
  have e1 : (e - g).toNat + (g + 1074).toNat = (e + 1074).toNat := tn (Int.sub_nonneg.mpr g1) g4 (by omega)
  have e2 : 52 + (-52 - g).toNat + (g + 1074).toNat = 1074 := by
    rw [Nat.add_assoc, tn (Int.sub_nonneg.mpr g2) g4 (show -52 - g + (g + 1074) = 1022 by omega)]
    rfl
  have hlt : m * 2 ^ (e - g).toNat < 2 ^ 52 * 2 ^ (-52 - g).toNat := by
    refine Nat.lt_of_mul_lt_mul_right (a := 2 ^ (g + 1074).toNat) ?_
    rw [Nat.mul_assoc, ← Nat.pow_add, e1, ← hn, ← Nat.pow_add, ← Nat.pow_add, e2, K74, Nat.mul_comm (2 ^ 1064)]
    exact Nat.mul_lt_mul_of_pos_right hj (Nat.two_pow_pos _)
  rw [Nat.mod_eq_of_lt hlt]
  have hR : Right (ofBin a (m * 2 ^ (e - g).toNat) g) a (j.natAbs * 2 ^ 1064 * 1) 1 := by
    have hb : ofBin a (m * 2 ^ (e - g).toNat) g = ofFrac a (shift (m * 2 ^ (e - g).toNat) 1 g).1 (shift (m * 2 ^ (e - g).toNat) 1 g).2 := rfl
    rw [hb]
    refine ofFrac_right (shift_pos _ _ _ (by decide)) ?_ (by decide)
    have := shift_one (m * 2 ^ (e - g).toNat) g 1074 (by omega)
    rw [Nat.mul_one, this, Nat.mul_one, hn, Nat.mul_assoc m, ← Nat.pow_add]
    have e3 : (g + ((1074 : Nat) : Int)).toNat = (g + 1074).toNat := rfl
    rw [e3, e1]
  exact is_of_right (D := 1) (by decide) (by omega) hs rfl hR

theorem is_mod1 {x : UInt64} {j : Int} (hx : Is x j) (hj : j.natAbs < 1024) : Is (divmod x 4607182418800017408).2 (j % 1024) := by
  have hm := is_fmod hx hj
  unfold divmod
  simp only
  generalize fmod x 4607182418800017408 = z at *
  have hz := is_isZero hm
  by_cases q0 : j = 0
  · rw [hz, decide_eq_true q0, if_pos rfl, q0]
    show Is (copysign (zero false) 4607182418800017408) 0
    have : copysign (zero false) 4607182418800017408 = zero false := by decide +kernel
    rw [this]; exact is_zero _
  · rw [hz, decide_eq_false q0, if_neg (by simp)]
    have l1 : lt 4607182418800017408 (zero false) = false := by decide +kernel
    have l2 : lt z (zero false) = decide (j < 0) := by unfold lt; exact is_ltB hm (is_zero false)
    rw [l1, l2]
    by_cases q : j < 0
    · rw [decide_eq_true q, if_pos (by decide)]
      rw [show j % 1024 = j + 1024 by omega]
      exact is_add hm is_c1 (by omega)
    · rw [decide_eq_false q, if_neg (by decide)]
      rw [show j % 1024 = j by omega]
      exact hm
end

/-- a divisor that is not nought -/
def NZ (x : UInt64) : Prop := ¬ Float64.isZero x = true
/-- a number that is no infinity and no nan -/
def NF (x : UInt64) : Prop := ∃ j, Is x j
theorem NZ.of {x : UInt64} {j : Int} (hx : Is x j) (h : j ≠ 0) : NZ x := by
  unfold NZ
  rw [is_isZero hx, decide_eq_false h]; exact Bool.false_ne_true

section
variable {prog : Program} {w : World} {A : Around} {E : Value → Shared → Prop} {s : Shared} {Q : Value → Shared → Prop}
theorem div_nz {a b : UInt64} {t u : Tok} (hA : A.handled = none) (h : Q (.float (Float64.div a b) s.toks) { s with toks := s.toks + 1 }) (hz : NZ b) :
    wpAny (model prog w) A (binaryOp .Div (.float a t) (.float b u)) Q E s :=
  truediv_float_or hA (fun q => absurd q hz) fun _ => h
theorem mod_nz {a b : UInt64} {t u : Tok} (hA : A.handled = none) (h : Q (.float (Float64.divmod a b).2 s.toks) { s with toks := s.toks + 1 }) (hz : NZ b) :
    wpAny (model prog w) A (binaryOp .Mod (.float a t) (.float b u)) Q E s :=
  Flt.mod_ff hA (fun q => absurd q hz) fun _ => h
theorem int_nf {a : UInt64} {t : Tok} (hA : A.handled = none) (h : Q (.int (Flt.toInt Float64.truncOf a) s.toks) { s with toks := s.toks + 1 }) (hz : NF a) :
    wpAny (model prog w) A (call (.type "int") [.float a t]) Q E s := by
  obtain ⟨j, hj⟩ := hz
  exact Flt.call_int_float3 hA (fun q => by rw [is_nan hj] at q; cases q) (fun q => by rw [is_inf hj] at q; cases q) fun _ => h
theorem subfi_nf {a : UInt64} {n : Int} {t u : Tok} (hA : A.handled = none) (h : Q (.float (Float64.sub a (Float64.ofInt n)) s.toks) { s with toks := s.toks + 1 }) (hz : n.natAbs < 2 ^ 40) :
    wpAny (model prog w) A (binaryOp .Sub (.float a t) (.int n u)) Q E s :=
  sub_fi_sharp hA (fun q => absurd (Nat.lt_of_le_of_lt q hz) (by
    have : (2 : Nat) ^ 40 ≤ 2 ^ 1024 - 2 ^ 970 := by
      have e : (2 : Nat) ^ 1024 = 2 ^ 970 * 2 ^ 54 := by rw [← Nat.pow_add]
      have h2 : (2 : Nat) ^ 40 ≤ 2 ^ 970 := Nat.pow_le_pow_right (by decide) (by decide)
      have h3 : (2 : Nat) ^ 970 * 2 ≤ 2 ^ 970 * 2 ^ 54 := Nat.mul_le_mul_left _ (by decide)
      omega
    omega)) fun _ => h
theorem cmpEq_is {a b : UInt64} {i j : Int} {t u : Tok} (ha : Is a i) (hb : Is b j) (h : Q (.bool (decide (i = j))) s) :
    wpAny (model prog w) A (compareOp .Eq (.float a t) (.float b u)) Q E s :=
  AutoFloatOps.eq_0 (by rw [is_eqB ha hb]; exact h)
theorem cmpLt_is {a b : UInt64} {i j : Int} {t u : Tok} (ha : Is a i) (hb : Is b j) (h : Q (.bool (decide (i < j))) s) :
    wpAny (model prog w) A (compareOp .Lt (.float a t) (.float b u)) Q E s :=
  AutoFloatOps.lt_0 (by rw [is_ltB ha hb]; exact h)
theorem int_is {a : UInt64} {j : Int} {t : Tok} (hA : A.handled = none) (ha : Is a j) (h0 : 0 ≤ j) (h : Q (.int (j / 1024) s.toks) { s with toks := s.toks + 1 }) :
    wpAny (model prog w) A (call (.type "int") [.float a t]) Q E s :=
  int_nf hA (by rw [is_trunc ha h0]; exact h) ⟨j, ha⟩
theorem cmpEq_yes {a b : UInt64} {i j : Int} {t u : Tok} (ha : Is a i) (hb : Is b j) (e : i = j) (h : Q (.bool true) s) :
    wpAny (model prog w) A (compareOp .Eq (.float a t) (.float b u)) Q E s :=
  cmpEq_is ha hb (by rw [decide_eq_true e]; exact h)
theorem cmpEq_no {a b : UInt64} {i j : Int} {t u : Tok} (ha : Is a i) (hb : Is b j) (e : i ≠ j) (h : Q (.bool false) s) :
    wpAny (model prog w) A (compareOp .Eq (.float a t) (.float b u)) Q E s :=
  cmpEq_is ha hb (by rw [decide_eq_false e]; exact h)
end
theorem dvd_bd {x : UInt64} {R V D c : Int} {z r : UInt64} (hz : Is z V) (hr : Is r D) (hx : Is x R) (hD : 0 < D) (e : (V - R) * 16 = c * D) (c0 : 0 ≤ c) (c16 : c ≤ 16) (hb : (V - R).natAbs < 2 ^ 53) : Is (Float64.div (Float64.sub z x) r) (64 * c) :=
  is_div (is_sub hz hx hb) hr (by omega) (by rw [Int.mul_assoc, ← e]; omega) (by omega)
theorem zero_iff {V r c D : Int} (e : (V - r) * 16 = c * D) (hD : 0 < D) : r = V ↔ c = 0 := by
  constructor
  · rintro rfl
    rw [Int.sub_self, Int.zero_mul] at e
    rcases Int.mul_eq_zero.mp e.symm with q | q
    · exact q
    · omega
  · rintro rfl
    rw [Int.zero_mul] at e
    omega
theorem rng_is {V D : Int} {z y : UInt64} (hz : Is z V) (hy : Is y (V - D)) (hb : D.natAbs < 2 ^ 53) : Is (Float64.sub z y) D := by
  have := is_sub hz hy (by rw [Int.sub_sub_self]; exact hb)
  rwa [Int.sub_sub_self] at this
theorem mod_hue {x : UInt64} {k : Int} (hx : Is x (384 * k)) (k0 : -16 < k) (k1 : k < 16) : Is (Float64.divmod (Float64.div x 4618441417868443648) 4607182418800017408).2 (64 * (k % 16)) := by
  have h1 : Is (Float64.div x 4618441417868443648) (64 * k) := is_div hx is_c6 (by decide) (by omega) (by omega)
  have h2 := is_mod1 h1 (by omega)
  rwa [show 64 * k % 1024 = 64 * (k % 16) by omega] at h2
section
variable {z y xr xg xb : UInt64} {r g b V D cr cg cb k : Int}
theorem hue_r (hz : Is z V) (hy : Is y (V - D)) (hg : Is xg g) (hb : Is xb b) (hD : 0 < D) (hB : V ≤ 1024 ∧ D ≤ 1024 ∧ (V - g).natAbs < 2 ^ 20 ∧ (V - b).natAbs < 2 ^ 20)
    (eg : (V - g) * 16 = cg * D) (eb : (V - b) * 16 = cb * D) (cg0 : 0 ≤ cg) (cb0 : 0 ≤ cb) (cg1 : cg ≤ 16) (cb1 : cb ≤ 16) (hk : 6 * k = cb - cg) (k0 : -16 < k) (k1 : k < 16) :
    Is (Float64.divmod (Float64.div (Float64.sub (Float64.div (Float64.sub z xb) (Float64.sub z y)) (Float64.div (Float64.sub z xg) (Float64.sub z y))) 4618441417868443648) 4607182418800017408).2 (64 * (k % 16)) := by
  have hr := rng_is hz hy (by omega)
  refine mod_hue ?_ k0 k1
  have := is_sub (dvd_bd hz hr hb hD eb cb0 cb1 (by omega)) (dvd_bd hz hr hg hD eg cg0 cg1 (by omega)) (by omega)
  rwa [show 64 * cb - 64 * cg = 384 * k by omega] at this
theorem hue_g (hz : Is z V) (hy : Is y (V - D)) (hg : Is xr r) (hb : Is xb b) (hD : 0 < D) (hB : V ≤ 1024 ∧ D ≤ 1024 ∧ (V - r).natAbs < 2 ^ 20 ∧ (V - b).natAbs < 2 ^ 20)
    (eg : (V - r) * 16 = cr * D) (eb : (V - b) * 16 = cb * D) (cg0 : 0 ≤ cr) (cb0 : 0 ≤ cb) (cg1 : cr ≤ 16) (cb1 : cb ≤ 16) (hk : 6 * k = 32 + cr - cb) (k0 : -16 < k) (k1 : k < 16) :
    Is (Float64.divmod (Float64.div (Float64.sub (Float64.add 4611686018427387904 (Float64.div (Float64.sub z xr) (Float64.sub z y))) (Float64.div (Float64.sub z xb) (Float64.sub z y))) 4618441417868443648) 4607182418800017408).2 (64 * (k % 16)) := by
  have hr := rng_is hz hy (by omega)
  refine mod_hue ?_ k0 k1
  have := is_sub (is_add is_c2 (dvd_bd hz hr hg hD eg cg0 cg1 (by omega)) (by omega)) (dvd_bd hz hr hb hD eb cb0 cb1 (by omega)) (by omega)
  rwa [show 2048 + 64 * cr - 64 * cb = 384 * k by omega] at this
theorem hue_b (hz : Is z V) (hy : Is y (V - D)) (hg : Is xg g) (hb : Is xr r) (hD : 0 < D) (hB : V ≤ 1024 ∧ D ≤ 1024 ∧ (V - g).natAbs < 2 ^ 20 ∧ (V - r).natAbs < 2 ^ 20)
    (eg : (V - g) * 16 = cg * D) (eb : (V - r) * 16 = cr * D) (cg0 : 0 ≤ cg) (cb0 : 0 ≤ cr) (cg1 : cg ≤ 16) (cb1 : cr ≤ 16) (hk : 6 * k = 64 + cg - cr) (k0 : -16 < k) (k1 : k < 16) :
    Is (Float64.divmod (Float64.div (Float64.sub (Float64.add 4616189618054758400 (Float64.div (Float64.sub z xg) (Float64.sub z y))) (Float64.div (Float64.sub z xr) (Float64.sub z y))) 4618441417868443648) 4607182418800017408).2 (64 * (k % 16)) := by
  have hr := rng_is hz hy (by omega)
  refine mod_hue ?_ k0 k1
  have := is_sub (is_add is_c4 (dvd_bd hz hr hg hD eg cg0 cg1 (by omega)) (by omega)) (dvd_bd hz hr hb hD eb cb0 cb1 (by omega)) (by omega)
  rwa [show 4096 + 64 * cg - 64 * cr = 384 * k by omega] at this
end
section
variable {prog : Program} {w : World} {A : Around} {E : Value → Shared → Prop} {s : Shared} {Q : Value → Shared → Prop} {h₀ : Heap} {L : Addr} {m : Str → Option Value} {news : List (Addr × Obj)}
theorem max3_is {a b c : UInt64} {i j k v : Int} {ta tb tc : Tok} (hh : A.handled = none) (F : Fr h₀ L s.heap m) (N : News h₀ L s.heap news) (ha : Is a i) (hb : Is b j) (hc : Is c k) (hv : max (max i j) k = v)
    (h : ∀ z h' tk t, Is z v → Fr h₀ L h' m → News h₀ L h' news → Q (.float z t) { s with heap := h', toks := tk }) :
    wpAny (model prog w) A (call (.builtin "max") [.float a ta, .float b tb, .float c tc]) Q E s :=
  max3 hh F N fun z h' tk t e F' N' _ => h z h' tk t (by rw [e, ← hv]; exact is_max ha hb hc) F' N'
theorem max3_isT {a b c : UInt64} {i j k v : Int} {ta tb tc : Tok} (hh : A.handled = none) (F : Fr h₀ L s.heap m) (N : News h₀ L s.heap news) (ha : Is a i) (hb : Is b j) (hc : Is c k) (hv : max (max i j) k = v) (na : ta ≠ 0) (nb : tb ≠ 0) (nc : tc ≠ 0)
    (h : ∀ z h' tk t, Is z v → t ≠ 0 → Fr h₀ L h' m → News h₀ L h' news → Q (.float z t) { s with heap := h', toks := tk }) :
    wpAny (model prog w) A (call (.builtin "max") [.float a ta, .float b tb, .float c tc]) Q E s :=
  max3 hh F N fun z h' tk t e F' N' q => h z h' tk t (by rw [e, ← hv]; exact is_max ha hb hc) (q na nb nc) F' N'
theorem min3_is {a b c : UInt64} {i j k v : Int} {ta tb tc : Tok} (hh : A.handled = none) (F : Fr h₀ L s.heap m) (N : News h₀ L s.heap news) (ha : Is a i) (hb : Is b j) (hc : Is c k) (hv : min (min i j) k = v)
    (h : ∀ z h' tk t, Is z v → Fr h₀ L h' m → News h₀ L h' news → Q (.float z t) { s with heap := h', toks := tk }) :
    wpAny (model prog w) A (call (.builtin "min") [.float a ta, .float b tb, .float c tc]) Q E s :=
  min3 hh F N fun z h' tk t e F' N' => h z h' tk t (by rw [e, ← hv]; exact is_min ha hb hc) F' N'
end
theorem mul_bd {a b A B : Int} (a0 : 0 ≤ a) (aA : a ≤ A) (b0 : 0 ≤ b) (bB : b ≤ B) : 0 ≤ a * b ∧ a * b ≤ A * B :=
  ⟨Int.mul_nonneg a0 b0, Int.mul_le_mul aA bB b0 (Int.le_trans a0 aA)⟩
theorem rngs {r g b V D : Int} (hmx : max (max r g) b = V) (hmn : min (min r g) b = V - D) (hDV : D ≤ V) (hV1 : V ≤ 1024) :
    V ≤ 1024 ∧ D ≤ 1024 ∧ (V - r).natAbs < 2 ^ 20 ∧ (V - g).natAbs < 2 ^ 20 ∧ (V - b).natAbs < 2 ^ 20 := by
  have a1 : r ≤ V := hmx ▸ Int.le_trans (Int.le_max_left r g) (Int.le_max_left _ b)
  have a2 : g ≤ V := hmx ▸ Int.le_trans (Int.le_max_right r g) (Int.le_max_left _ b)
  have a3 : b ≤ V := hmx ▸ Int.le_max_right _ b
  have m1 : V - D ≤ r := hmn ▸ Int.le_trans (Int.min_le_left _ b) (Int.min_le_left r g)
  have m2 : V - D ≤ g := hmn ▸ Int.le_trans (Int.min_le_left _ b) (Int.min_le_right r g)
  have m3 : V - D ≤ b := hmn ▸ Int.min_le_right _ b
  clear hmx hmn
  have k : ∀ x : Int, x ≤ V → V - D ≤ x → (V - x).natAbs < 2 ^ 20 := fun x _ _ => by omega
  exact ⟨hV1, Int.le_trans hDV hV1, k _ a1 m1, k _ a2 m2, k _ a3 m3⟩
/-- a fact that omega does not see -/
def Hid (p : Prop) : Prop := p
theorem Hid.un {p : Prop} (h : Hid p) : p := h
theorem hide {p : Prop} (h : p) : Hid p := h
theorem D_nz {V D : Int} (hD : 0 < D) (hDV : D ≤ V) (hV1 : V ≤ 1024) : D.natAbs < 2 ^ 53 ∧ D ≠ 0 ∧ V ≠ 0 := ⟨by omega, by omega, by omega⟩
theorem L_nz {V D lm : Int} (hD : 0 < D) (hDV : D ≤ V) (hV1 : V ≤ 1024) (hL : 2 * lm = V + (V - D)) :
    (V + (V - D)).natAbs < 2 ^ 53 ∧ V + (V - D) ≠ 0 ∧ (2048 - V).natAbs < 2 ^ 53 ∧ (2048 - V - (V - D)).natAbs < 2 ^ 53 ∧ 2048 - V - (V - D) ≠ 0 ∧ (V + (V - D)) * 1024 = lm * 2048 ∧ lm.natAbs < 2 ^ 53 :=
  ⟨by omega, by omega, by omega, by omega, by omega, by omega, by omega⟩
end
section
open PySem PySem.W PySem.Calls PyProof.Rows
section
variable {prog : Program} {w : World} {A : Around} {s : Shared} {K : Frag} {p : Program} {loose : List Str} {mean : ExcName → Option Value} {mg mb : Str → Option Value}
  {R : Result → Shared → Prop} {name qual : Str} {params : Arguments} {body : List Stmt} {scope : Scope} {dV kV doc pm cdv ct oc : Value} {an od : Option Addr} {osl : Array (Option Value)} {f : Addr} {args : Args} {binds : List (Str × Value)}
  {news : List (Addr × Obj)}

theorem ghost_out {h : Heap} {as : List Addr} {b : Addr} {o : Obj} (e : (hideAll h as).get? b = some o) : h.get? b = some o := of_hideAll as e

/-- entering a def of the top, its ledger the objects that it may change -/
theorem enterP {as : List Addr} (has : news.map (·.1) = as) (hN : ∀ q ∈ news, s.heap.get? q.1 = some q.2) (X : K.In (hideAll s.heap as)) (T : Top p loose mean mg mb (hideAll s.heap as))
    (ho : K.lookup f = some ⟨oc, od, .func (fnOf name qual params body scope dV kV doc pm an cdv ct), osl⟩) (hcd : codeIn K cdv qual = true) (hroom : A.depth < recursionLimit)
    (hbind : BindsTo s (fnOf name qual params body scope dV kV doc pm an cdv ct) args binds) (hloc : ∀ y ∈ binds, scope.names.lookup y.1 = some .local)
    (h : ∀ L h₁, Fr (hideAll s.heap as) L h₁ (fun y => binds.reverse.lookup y) → News (hideAll s.heap as) L h₁ news → (∀ q ∈ news, q.1 < L) →
      wpAny (model prog w) (A.deeper (envOf qual scope L f cdv)) (execs body (envOf qual scope L f cdv))
        (fun fl s' => R (.ok (.ret (match fl with | .ret v => v | _ => .none))) s') (fun _ _ => False)
        { s with heap := h₁, toks := s.toks + binds.length })
    (hco : scope.isCoroutine = false) (hgen : scope.isGenerator = false) (hk : scope.kind = .function)
    (hcell : ∀ x ∈ scope.names, x.2 ≠ .cell) : codeAny (model prog w) A (.call (.ref f) args) R s := by
  subst has
  have lift : ∀ b o, (hideAll s.heap (news.map (·.1))).get? b = some o → s.heap.get? b = some o := fun b o e => ghost_out e
  refine codeAny_call_def (fd := fnOf name qual params body scope dV kV doc pm an cdv ct) (body := body) (binds := binds) hroom (lift _ _ (X _ _ ho)) rfl (T.nolimit.keeps lift) ((codeRec_of X hcd).keeps lift) rfl hbind hcell hloc (fun h₁ hns hk₁ => ?_) hco hgen hk
  refine wpAny_mono (h s.heap.objs.size h₁ ⟨hns, fun b o e => hk₁ b o (lift b o e), Nat.le_of_eq (hideAll_size _ _)⟩ (fun q hq => ⟨hk₁ _ _ (hN q hq), ?_, hideAll_none _ (List.mem_map_of_mem hq)⟩) fun q hq => Heap.lt_size (hN q hq)) (fun _ _ x => x) (fun _ _ x => x.elim)
  exact Nat.ne_of_lt (Heap.lt_size (hN q hq))

/-- the same for a def with cells -/
theorem enterC {as : List Addr} (has : news.map (·.1) = as) (hN : ∀ q ∈ news, s.heap.get? q.1 = some q.2) (X : K.In (hideAll s.heap as)) (T : Top p loose mean mg mb (hideAll s.heap as))
    (ho : K.lookup f = some ⟨oc, od, .func (fnOf name qual params body scope dV kV doc pm an cdv ct), osl⟩) (hcd : codeIn K cdv qual = true) (hroom : A.depth < recursionLimit)
    (hbind : BindsTo s (fnOf name qual params body scope dV kV doc pm an cdv ct) args binds) (hkind : (binds.all fun y => scope.names.lookup y.1 == some .local || scope.names.lookup y.1 == some .cell) = true)
    (hnd : ((cellsFrom 0 scope.names []).map (·.1)).Nodup)
    (h : ∀ L h₁ tk cells, Fr (hideAll s.heap as) L h₁ (bindL (envOfC qual scope L f cdv).kindOf binds fun _ => none) → News (hideAll s.heap as) L h₁ (cells ++ news) →
      CellsAre (bindC (envOfC qual scope L f cdv).kindOf binds fun _ => none) (cellsFrom (L + 1) scope.names []) cells → (∀ q ∈ news, q.1 < L) →
      wpAny (model prog w) (A.deeper (envOfC qual scope L f cdv)) (execs body (envOfC qual scope L f cdv))
        (fun fl s' => R (.ok (.ret (match fl with | .ret v => v | _ => .none))) s') (fun _ _ => False)
        { s with heap := h₁, toks := tk })
    (hco : scope.isCoroutine = false) (hgen : scope.isGenerator = false) (hk : scope.kind = .function) : codeAny (model prog w) A (.call (.ref f) args) R s := by
  subst has
  have lift : ∀ b o, (hideAll s.heap (news.map (·.1))).get? b = some o → s.heap.get? b = some o := fun b o e => ghost_out e
  refine codeAny_call_function hroom (lift _ _ (X _ _ ho)) rfl hco hgen rfl ((codeRec_of X hcd).keeps lift) (hbind _ _ _ _ ?_)
  refine wpAny_newFunctionEnv_cells hk (kindsX hkind _) fun env' he s' x => ?_
  subst he
  refine ⟨(T.nolimit.keeps lift).keeps x.toInCall.keep, codeAny_func ?_⟩
  obtain ⟨h₁, tk, rfl, _⟩ := x.done
  have hk₁ := x.toInCall.keep
  obtain ⟨cells, NC, Y⟩ := Cl.news (h₀ := s.heap) (Nat.le_refl _) fun n c hm => ⟨x.cell n c (lookup_of_mem_nodup (cellsFrom_names scope.names 0 (s.heap.objs.size + 1) [] [] rfl ▸ hnd) hm), x.above n c hm⟩
  refine wpAny_mono (h s.heap.objs.size h₁ tk cells ⟨x.toInCall.ns, fun b o e => hk₁ b o (lift b o e), Nat.le_of_eq (hideAll_size _ _)⟩ (fun q hq => ?_) Y fun q hq => Heap.lt_size (hN q hq)) (fun _ _ x => x) (fun _ _ x => x.elim)
  rcases List.mem_append.mp hq with hq | hq
  · refine ⟨(NC q hq).1, (NC q hq).2.1, ?_⟩
    cases z : (hideAll s.heap (news.map (·.1))).get? q.1 with
    | none => rfl
    | some o => have := lift _ _ z; rw [(NC q hq).2.2] at this; cases this
  · exact ⟨hk₁ _ _ (hN q hq), Nat.ne_of_lt (Heap.lt_size (hN q hq)), hideAll_none _ (List.mem_map_of_mem hq)⟩
end

section
variable {prog : Program} {w : World} {A : Around} {s : Shared} {h₀ : Heap} {L : Addr} {m : Str → Option Value} {news : List (Addr × Obj)} {K : Frag} {p : Program} {loose : List Str} {mean : ExcName → Option Value} {mg mb : Str → Option Value}
  {R : Result → Shared → Prop} {name qual : Str} {params : Arguments} {body : List Stmt} {scope : Scope} {dV kV doc pm cdv ct : Value} {an : Option Addr} {f : Addr} {args : Args} {binds : List (Str × Value)} {cl : List (Str × Addr)} {fo : Obj}

theorem step_ground (F : Fr h₀ L s.heap m) (N : News h₀ L s.heap news) :
    h₀.StaysIn (hideAll s.heap (news.map (·.1))) ∧ ∀ v s', LeaveK h₀ L m (hideAll s.heap (news.map (·.1))) R v s' → R (.ok (.ret v)) s' := by
  have out : ∀ b o, h₀.get? b = some o → b ∉ news.map (·.1) := fun b o e hb => by
    obtain ⟨q, hq, rfl⟩ := List.mem_map.mp hb
    have := (N q hq).2.2
    rw [e] at this; cases this
  have stays : h₀.StaysIn (hideAll s.heap (news.map (·.1))) := fun b o e => hideAll_get _ (F.keep b o e) (out b o e)
  refine ⟨stays, fun v s' hl => ?_⟩
  obtain ⟨oL, es, ep, hL, hd, hk, hf⟩ := F.ns
  have offL : L ∉ news.map (·.1) := fun hb => by
    obtain ⟨q, hq, e⟩ := List.mem_map.mp hb
    exact (N q hq).2.1 e
  have gL := hideAll_get (news.map (·.1)) hL offL
  obtain ⟨L', m', news', F', N', k⟩ := hl
  have F'' : Fr h₀ L s'.heap m := ⟨⟨oL, es, ep, F'.keep L oL gL, hd, hk, hf⟩, fun b o e => F'.keep b o (stays b o e), F.above⟩
  refine k F'' fun q hq => ⟨(N' q hq).1, fun e => ?_, ?_⟩
  · have z := (N' q hq).2.2
    rw [e, gL] at z; cases z
  · cases e : h₀.get? q.1 with
    | none => rfl
    | some o => have z := (N' q hq).2.2; rw [stays _ _ e] at z; cases z

/-- entering a def that the call has made: no exception leaves it -/
theorem enterX (F : Fr h₀ L s.heap m) (X₀ : K.In h₀) (N : News h₀ L s.heap news) (T : Top p loose mean mg mb h₀)
    (ho : s.heap.get? f = some fo) (hd : fo.data = .func (fnX name qual params body scope cl dV kV doc pm an cdv ct)) (hcd : s.heap.CodeRec cdv qual) (hroom : A.depth < recursionLimit)
    (hbind : BindsTo s (fnX name qual params body scope cl dV kV doc pm an cdv ct) args binds) (hloc : ∀ y ∈ binds, scope.names.lookup y.1 = some .local)
    (h : ∀ g L' h₁, Fr g L' h₁ (fun y => binds.reverse.lookup y) → News g L' h₁ news → K.In g → Top p loose mean mg mb g → h₀.StaysIn g → (∀ q ∈ news, q.1 < L') →
      wpAny (model prog w) (A.deeper (envX qual scope L' f cdv cl)) (execs body (envX qual scope L' f cdv cl))
        (fun fl s' => LeaveK h₀ L m g R (match fl with | .ret v => v | _ => .none) s') (fun _ _ => False)
        { s with heap := h₁, toks := s.toks + binds.length })
    (hcell : ∀ x ∈ scope.names, x.2 ≠ .cell) (hco : scope.isCoroutine = false) (hgen : scope.isGenerator = false) (hk : scope.kind = .function) : codeAny (model prog w) A (.call (.ref f) args) R s := by
  obtain ⟨st, lv⟩ := step_ground (R := R) F N
  refine codeAny_call_def (fd := fnX name qual params body scope cl dV kV doc pm an cdv ct) (body := body) (binds := binds) hroom ho hd (T.nolimit.keeps F.keep) hcd rfl hbind hcell hloc (fun h₁ hns hk₁ => ?_) hco hgen hk
  refine wpAny_mono (h _ s.heap.objs.size h₁ ⟨hns, fun b o e => hk₁ b o (ghost_out e), Nat.le_of_eq (hideAll_size _ _)⟩ (fun q hq => ?_) (X₀.keeps st) (T.keeps st) st fun q hq => Heap.lt_size (N q hq).1) (fun fl s' hl => lv _ _ hl) fun _ _ y => y.elim
  exact ⟨hk₁ _ _ (N q hq).1, Nat.ne_of_lt (Heap.lt_size (N q hq).1), hideAll_none _ (List.mem_map_of_mem hq)⟩
end
end
section
open PySem PySem.W PySem.Calls PyProof.Rows
abbrev PR : Program := PySem.Challenge.rw_uy0018_01.row.prog

abbrev Ar (dp un : Nat) (fr : Option (List Env)) (gd : Option (List Code)) : Around := { handled := none, depth := dp, frames := fr, guards := gd, units := un }
def Ext (h h' : Heap) : Prop := ∀ b o, h.get? b = some o → h'.get? b = some o

section
variable {prog : Program} {w : World} {A : Around} {s : Shared} {K : Frag} {p : Program} {loose : List Str} {mean : ExcName → Option Value} {mg mb : Str → Option Value}
theorem enter_ok {R : Result → Shared → Prop} {name qual : Str} {params : Arguments} {body : List Stmt} {scope : Scope} {dV kV doc pm cdv ct oc : Value} {an od : Option Addr} {osl : Array (Option Value)} {f : Addr} {args : Args} {binds : List (Str × Value)}
    (X : K.In s.heap) (T : Top p loose mean mg mb s.heap)
    (ho : K.lookup f = some ⟨oc, od, .func (fnOf name qual params body scope dV kV doc pm an cdv ct), osl⟩) (hcd : codeIn K cdv qual = true) (hroom : A.depth < recursionLimit)
    (hbind : BindsTo s (fnOf name qual params body scope dV kV doc pm an cdv ct) args binds) (hloc : ∀ y ∈ binds, scope.names.lookup y.1 = some .local)
    (h : ∀ L h₁, Fr s.heap L h₁ (fun y => binds.reverse.lookup y) → News s.heap L h₁ [] → 
      wpAny (model prog w) (A.deeper (envOf qual scope L f cdv)) (execs body (envOf qual scope L f cdv))
        (fun fl s' => R (.ok (.ret (match fl with | .ret v => v | _ => .none))) s') (fun _ _ => False)
        { s with heap := h₁, toks := s.toks + binds.length })
    (hco : scope.isCoroutine = false) (hgen : scope.isGenerator = false) (hk : scope.kind = .function)
    (hcell : ∀ x ∈ scope.names, x.2 ≠ .cell) : codeAny (model prog w) A (.call (.ref f) args) R s := by
  refine codeAny_call_def (fd := fnOf name qual params body scope dV kV doc pm an cdv ct) (body := body) (binds := binds) hroom (X _ _ ho) rfl T.nolimit (codeRec_of X hcd) rfl hbind hcell hloc (fun h₁ hns hk₁ => ?_) hco hgen hk
  exact wpAny_mono (h s.heap.objs.size h₁ ⟨hns, hk₁, Nat.le_refl _⟩ (fun _ hp => nomatch hp)) (fun _ _ x => x) (fun _ _ x => x.elim)
end



theorem but_tab {h h' : Heap} {L P : Addr} {m : Str → Option Value} (F : Fr (hideAll h [P]) L h' m) : ∀ b o, b ≠ P → h.get? b = some o → h'.get? b = some o :=
  fun b o hb e => F.keep b o (hideAll_get _ e (by simpa using hb))
theorem ext_tab {h h' : Heap} {L P : Addr} {m : Str → Option Value} {o : Obj} (F : Fr (hideAll h [P]) L h' m) (e : h.get? P = some o) (e' : h'.get? P = some o) : Ext h h' := fun b ob hb => by
  by_cases q : b = P
  · subst q; rw [e] at hb; cases hb; exact e'
  · exact but_tab F b ob q hb
theorem fresh_tab {h : Heap} {P D : Addr} (e : (hideAll h [P]).get? D = none) (hne : D ≠ P) : h.get? D = none := by
  cases q : h.get? D with
  | none => rfl
  | some o => rw [hideAll_get _ q (by simpa using hne)] at e; cases e

def AllNe (d : Addr) : List (Addr × Obj) → Prop
  | [] => True
  | p :: r => @Ne Nat p.1 d ∧ AllNe d r
theorem allNe_of {d : Addr} : ∀ {l : List (Addr × Obj)}, (∀ p ∈ l, p.1 ≠ d) → AllNe d l
  | [], _ => trivial
  | p :: _, h => ⟨h p (.head _), allNe_of fun q hq => h q (.tail _ hq)⟩
theorem new_ne {h₀ h : Heap} {L D : Addr} {news : List (Addr × Obj)} (N : News h₀ L h news) (hf : h.get? D = none) : ∀ p ∈ news, p.1 ≠ D := fun p hp e => by
  have := (N p hp).1
  rw [e, hf] at this; cases this
theorem fresh_base {h₀ h : Heap} {L D : Addr} {m : Str → Option Value} (F : Fr h₀ L h m) (hf : h.get? D = none) : h₀.get? D = none := by
  cases q : h₀.get? D with
  | none => rfl
  | some o => have := F.keep _ _ q; rw [hf] at this; cases this
theorem fresh_L {h₀ h : Heap} {L D : Addr} {m : Str → Option Value} (F : Fr h₀ L h m) (hf : h.get? D = none) : D ≠ L := fun e => by
  obtain ⟨o, _, _, ho, _⟩ := F.ns
  rw [← e, hf] at ho; cases ho
/-- behind a call that changes nothing and hands back a new object -/
theorem after1 {h₀ h h' : Heap} {L D : Addr} {o : Obj} {m : Str → Option Value} {news : List (Addr × Obj)} (F : Fr h₀ L h m) (N : News h₀ L h news) (hx : Ext h h') (hf : h.get? D = none) (hg : h'.get? D = some o) :
    Fr h₀ L h' m ∧ News h₀ L h' ((D, o) :: news) ∧ AllNe D news := by
  refine ⟨F.keeps hx, fun p hp => ?_, allNe_of (new_ne N hf)⟩
  rcases List.mem_cons.mp hp with rfl | hp
  · exact ⟨hg, fresh_L F hf, fresh_base F hf⟩
  · exact ⟨hx _ _ (N p hp).1, (N p hp).2⟩
theorem after0 {h₀ h h' : Heap} {L : Addr} {m : Str → Option Value} {news : List (Addr × Obj)} (F : Fr h₀ L h m) (N : News h₀ L h news) (hx : Ext h h') :
    Fr h₀ L h' m ∧ News h₀ L h' news := ⟨F.keeps hx, N.grown hx⟩
theorem base_hide {h₀ h : Heap} {L P : Addr} {m : Str → Option Value} (F : Fr h₀ L h m) (n : h₀.get? P = none) : ∀ b o, h₀.get? b = some o → (hideAll h [P]).get? b = some o := fun b o e =>
  hideAll_get _ (F.keep b o e) (by intro hm; rw [List.mem_singleton.mp hm, n] at e; cases e)
/-- behind a call that changes the table P alone and leaves a code object -/
theorem afterT {h₀ h h' : Heap} {L P c : Addr} {o o' oc : Obj} {m : Str → Option Value} {news : List (Addr × Obj)} {g : Obj → List (Addr × Obj)} (F : Fr h₀ L h m) (N : News h₀ L h news) (U : UpdF P o news g)
    (hx : ∀ b ob, b ≠ P → h.get? b = some ob → h'.get? b = some ob) (hP : h'.get? P = some o') (hc : h'.get? c = some oc) (fc : h.get? c = none) :
    Fr h₀ L h' m ∧ News h₀ L h' ((c, oc) :: g o') ∧ AllNe c (g o') := by
  obtain ⟨own, rest, rfl, hg, h1, h2⟩ := U.split
  have hm := N (P, o) (List.mem_append_right _ (.head _))
  have F' : Fr h₀ L h' m := by
    obtain ⟨oL, es, ep, hL, r⟩ := F.ns
    exact ⟨⟨oL, es, ep, hx _ _ (Ne.symm hm.2.1) hL, r⟩, fun b ob e => hx b ob (fun q => by rw [q, hm.2.2] at e; cases e) (F.keep b ob e), F.above⟩
  have N' : News h₀ L h' (g o') := by
    rw [hg]
    intro p hp
    rcases List.mem_append.mp hp with hp | hp
    · have n := N p (List.mem_append_left _ hp)
      exact ⟨hx _ _ (h1 p hp) n.1, n.2⟩
    · rcases List.mem_cons.mp hp with rfl | hp
      · exact ⟨hP, hm.2⟩
      · have n := N p (List.mem_append_right _ (.tail _ hp))
        exact ⟨hx _ _ (h2 p hp) n.1, n.2⟩
  have ne : ∀ p ∈ g o', p.1 ≠ c := by
    rw [hg]
    intro p hp e
    have hz : ∃ ob, h.get? p.1 = some ob := by
      rcases List.mem_append.mp hp with hp | hp
      · exact ⟨_, (N p (List.mem_append_left _ hp)).1⟩
      · rcases List.mem_cons.mp hp with rfl | hp
        · exact ⟨_, hm.1⟩
        · exact ⟨_, (N p (List.mem_append_right _ (.tail _ hp))).1⟩
    obtain ⟨ob, hz⟩ := hz
    rw [e, fc] at hz; cases hz
  refine ⟨F', fun p hp => ?_, allNe_of ne⟩
  rcases List.mem_cons.mp hp with rfl | hp
  · exact ⟨hc, fresh_L F fc, fresh_base F fc⟩
  · exact N' p hp

theorem afterD {h₀ h : Heap} {L D : Addr} {o : Obj} {m : Str → Option Value} {news : List (Addr × Obj)} (F : Fr h₀ L h m) (N : News h₀ L h news) (hg : h.get? D = some o) (hL : D ≠ L) (h0 : h₀.get? D = none) (hne : AllNe D news) :
    Fr h₀ L h m ∧ News h₀ L h ((D, o) :: news) ∧ AllNe D news := by
  refine ⟨F, fun p hp => ?_, hne⟩
  rcases List.mem_cons.mp hp with rfl | hp
  · exact ⟨hg, hL, h0⟩
  · exact N p hp
/-- the same, and a new object handed back -/
theorem afterTD {h₀ h h' : Heap} {L P c D : Addr} {o o' oc oD : Obj} {m : Str → Option Value} {news : List (Addr × Obj)} {g : Obj → List (Addr × Obj)} (F : Fr h₀ L h m) (N : News h₀ L h news) (U : UpdF P o news g)
    (hx : ∀ b ob, b ≠ P → h.get? b = some ob → h'.get? b = some ob) (hP : h'.get? P = some o') (hc : h'.get? c = some oc) (fc : h.get? c = none) (hD : h'.get? D = some oD) (fD : h.get? D = none) (hne : c ≠ D) :
    Fr h₀ L h' m ∧ News h₀ L h' ((D, oD) :: (c, oc) :: g o') ∧ AllNe c (g o') ∧ AllNe D ((c, oc) :: g o') := by
  obtain ⟨F', N', l1⟩ := afterT F N U hx hP hc fc
  obtain ⟨_, N2, l2⟩ := afterT F N U hx hP hD fD
  refine ⟨F', fun p hp => ?_, l1, ⟨hne, l2⟩⟩
  rcases List.mem_cons.mp hp with rfl | hp
  · exact N2 _ (.head _)
  · exact N' p hp
theorem list_hide {h₀ h : Heap} {L P D : Addr} {n : Nat} {its : Array Value} {news : List (Addr × Obj)} (N : News h₀ L h news) (hm : (D, W.listOf its n) ∈ news) (hne : D ≠ P) : (hideAll h [P]).IsList D its :=
  ⟨_, hideAll_get _ (N _ hm).1 (by simpa using hne), rfl, n, rfl⟩
theorem but_two {h h' : Heap} {L P P2 : Addr} {m : Str → Option Value} (F : Fr (hideAll h [P2, P]) L h' m) : ∀ b o, b ≠ P → b ≠ P2 → h.get? b = some o → h'.get? b = some o :=
  fun b o hb hb2 e => F.keep b o (hideAll_get _ e (by simp [hb, hb2]))
theorem ext_two {h h' : Heap} {L P P2 : Addr} {m : Str → Option Value} {o o2 : Obj} (F : Fr (hideAll h [P2, P]) L h' m) (e2 : h.get? P2 = some o2) (e : h.get? P = some o) (e2' : h'.get? P2 = some o2) (e' : h'.get? P = some o) : Ext h h' := fun b ob hb => by
  by_cases q : b = P
  · subst q; rw [e] at hb; cases hb; exact e'
  · by_cases q2 : b = P2
    · subst q2; rw [e2] at hb; cases hb; exact e2'
    · exact but_two F b ob q q2 hb
theorem fresh_two {h : Heap} {P P2 D : Addr} (e : (hideAll h [P2, P]).get? D = none) (hne : D ≠ P) (hne2 : D ≠ P2) : h.get? D = none := by
  cases q : h.get? D with
  | none => rfl
  | some o => rw [hideAll_get _ q (by simp [hne, hne2])] at e; cases e

theorem Ext.trans {a b c : Heap} (x : Ext a b) (y : Ext b c) : Ext a c := fun q o e => y q o (x q o e)
theorem Ext.refl (a : Heap) : Ext a a := fun _ _ e => e
end
section
open PySem PySem.W PySem.Calls PyProof.Rows
/-- what is left to do, as a word: the goal's continuation stands under no binder -/
def Kont {α β : Type} (M : Model) (A : Around) (T : α → Sem β) (Q : β → Shared → Prop) (E : Value → Shared → Prop) (v : α) (s : Shared) : Prop := wpAny M A (T v) Q E s
def KontF {α β γ : Type} (M : Model) (A : Around) (T : α → Sem β) (f : α → β → γ) (Q : γ → Shared → Prop) (E : Value → Shared → Prop) (v : α) (s : Shared) : Prop := wpAny M A (T v) (fun b s' => Q (f v b) s') E s
def Kont2 {α β γ : Type} (M M' : Model) (A A' : Around) (T : α → Sem β) (U : α → β → Sem γ) (Q : γ → Shared → Prop) (E E' : Value → Shared → Prop) (v : α) (s : Shared) : Prop := wpAny M A (T v) (Kont M' A' (U v) Q E') E s
def KQ {α γ : Type} (f : α → γ) (Q : γ → Shared → Prop) (v : α) (s : Shared) : Prop := Q (f v) s
section
variable {α β γ : Type} {M M' M₂ : Model} {A A' A₂ : Around} {t : Sem α} {T : α → Sem β} {f : α → β → γ} {U : α → β → Sem γ} {E E' E₂ : Value → Shared → Prop} {s : Shared} {v : α}
theorem toK {Q : β → Shared → Prop} (h : wpAny M A t (Kont M' A' T Q E') E s) : wpAny M A t (fun v s' => wpAny M' A' (T v) Q E' s') E s := h
theorem ofK {Q : β → Shared → Prop} (h : wpAny M A (T v) Q E s) : Kont M A T Q E v s := h
theorem toKF {Q : γ → Shared → Prop} (h : wpAny M A t (KontF M' A' T f Q E') E s) : wpAny M A t (fun v s' => wpAny M' A' (T v) (fun b s'' => Q (f v b) s'') E' s') E s := h
theorem ofKF {Q : γ → Shared → Prop} (h : wpAny M A (T v) (KQ (f v) Q) E s) : KontF M A T f Q E v s := h
theorem toK2 {Q : γ → Shared → Prop} (h : wpAny M A t (Kont2 M' M₂ A' A₂ T U Q E' E₂) E s) : wpAny M A t (fun v s' => wpAny M' A' (T v) (fun b s'' => wpAny M₂ A₂ (U v b) Q E₂ s'') E' s') E s := h
theorem ofK2 {Q : γ → Shared → Prop} (h : wpAny M A (T v) (Kont M' A' (U v) Q E') E s) : Kont2 M M' A A' T U Q E E' v s := h
theorem ofKQ {g : α → γ} {Q : γ → Shared → Prop} (h : Q (g v) s) : KQ g Q v s := h
end
theorem foldM {h₀ : Heap} {L : Addr} {h : Heap} {m : Str → Option Value} {P : Prop} (F : Fr h₀ L h m) (k : let mk := m; Fr h₀ L h mk → P) : P := k F
theorem foldN {h₀ : Heap} {L : Addr} {h : Heap} {news : List (Addr × Obj)} {P : Prop} (N : News h₀ L h news) (k : let nk := news; News h₀ L h nk → P) : P := k N
/-- all of a ledger's addresses are less than this one -/
structure Lts (news : List (Addr × Obj)) (d : Addr) : Prop where
  all : ∀ p ∈ news, p.1 < d
theorem ltsOf {news : List (Addr × Obj)} {y : Addr} (l : ∀ p ∈ news, p.1 < y) : Lts news y := ⟨l⟩
theorem lt_mem {news : List (Addr × Obj)} {x y : Addr} {o : Obj} (l : Lts news y) (m : (x, o) ∈ news) : @LT.lt Nat _ x y := l.1 _ m
theorem lt_memT {news : List (Addr × Obj)} {x y z : Addr} {o : Obj} (l : Lts news y) (m : (z, o) ∈ news) (h : @LT.lt Nat _ x z) : @LT.lt Nat _ x y := Nat.lt_trans h (l.1 _ m)
theorem self_ne {a : Nat} (h : False) : a ≠ a := h.elim
theorem lt_lit {a n : Nat} (h : False) : a < OfNat.ofNat n := h.elim
theorem room0 {d k l : Nat} (h : d + (k + 0) < l) : d < l := Nat.lt_of_le_of_lt (Nat.add_le_add_left (Nat.le_add_left 0 k) d) h
theorem room1 {d k l : Nat} (h : d + (k + 1) < l) : d + 1 < l := Nat.lt_of_le_of_lt (Nat.add_le_add_left (Nat.le_add_left 1 k) d) h
theorem room2 {d k l : Nat} (h : d + (k + 2) < l) : d + 1 + 1 < l := Nat.lt_of_le_of_lt (Nat.add_le_add_left (Nat.le_add_left 2 k) d) h
theorem room3 {d k l : Nat} (h : d + (k + 3) < l) : d + 1 + 1 + 1 < l := Nat.lt_of_le_of_lt (Nat.add_le_add_left (Nat.le_add_left 3 k) d) h
theorem room10 {d k l : Nat} (h : d + (k + 11) < l) : d + 1 + 10 < l := Nat.lt_of_le_of_lt (Nat.add_le_add_left (Nat.le_add_left 11 k) d) h
theorem room20 {d k l : Nat} (h : d + (k + 21) < l) : d + 1 + 20 < l := Nat.lt_of_le_of_lt (Nat.add_le_add_left (Nat.le_add_left 21 k) d) h
theorem room30 {d k l : Nat} (h : d + (k + 31) < l) : d + 1 + 30 < l := Nat.lt_of_le_of_lt (Nat.add_le_add_left (Nat.le_add_left 31 k) d) h
theorem room40 {d k l : Nat} (h : d + (k + 41) < l) : d + 1 + 40 < l := Nat.lt_of_le_of_lt (Nat.add_le_add_left (Nat.le_add_left 41 k) d) h
theorem room50 {d k l : Nat} (h : d + (k + 51) < l) : d + 1 + 50 < l := Nat.lt_of_le_of_lt (Nat.add_le_add_left (Nat.le_add_left 51 k) d) h
/-- here the walk stands still -/
def Stop (P : Prop) : Prop := P
theorem Stop.mk {P : Prop} (h : Stop P) : P := h
theorem ofStop {P : Prop} (h : P) : Stop P := h
theorem orNe {a d i x : Nat} (z : a = d ∨ a < i) (h1 : d ≠ x) (h2 : i ≤ x) : a ≠ x := z.elim (fun e => e ▸ h1) fun l => Nat.ne_of_lt (Nat.lt_of_lt_of_le l h2)
end
section
open PySem PySem.W PySem.Calls PyProof.Rows
local macro_rules | `(tactic| fail "K1") => `(tactic| first | (with_reducible refine ofK ?_; (try dsimp only)) | (with_reducible refine ofKF ?_; (try dsimp only)) | (with_reducible refine ofK2 ?_; (try dsimp only)) | (with_reducible refine ofKQ ?_))
local macro_rules | `(tactic| fail "K2") => `(tactic| with_reducible first | refine toK ?_ | refine toKF ?_ | refine toK2 ?_)
local macro_rules | `(tactic| fail "K3") => `(tactic| first | (k_unfold; (try dsimp only)) | (k_end; wrow_close))
local macro_rules | `(tactic| fail "K4") => `(tactic| first | walk1 | (dsimp only; walk1) | (leave1; walk_say "STEP leave1"; try dsimp only) | fail "no step")
local macro_rules | `(tactic| k_steps) => `(tactic| repeat' first | fail "K1" | fail "K3" | fail "K2" | k_gentoks | fail "K4")
local macro_rules | `(tactic| k_lt $h) => `(tactic| (replace $h := ltsOf $h; (try dsimp only [List.cons_append, List.nil_append] at $h:ident)))
local macro_rules | `(tactic| fail "lt?") => `(tactic| first
    | with_reducible assumption
    | with_reducible exact Nat.lt_succ_self _
    | (with_reducible refine Nat.lt_succ_of_lt ?_; fail "lt?")
    | (with_reducible refine' lt_mem ?ltl ?ltm; (case ltl => with_reducible assumption); (case ltm => k_dflt k_mem))
    | (with_reducible refine' lt_memT ?ltl ?ltm ?lta; (case ltl => with_reducible assumption); (case ltm => with_reducible exact List.Mem.head _); (case lta => fail "lt?"))
    | (with_reducible refine' Nat.lt_trans ?lta ?ltb; (case ltb => with_reducible assumption); (case lta => fail "lt?")))
local macro_rules | `(tactic| fail "lt&") => `(tactic| repeat (rename Lts _ _ => l9; have l8 := allLt_of l9.1; clear l9; simp only [AllLt, and_true] at l8))
local macro_rules | `(tactic| fail "ne?") => `(tactic| first
    | with_reducible assumption
    | ((with_reducible refine Nat.ne_of_lt ?_); (fail_if_success (with_reducible refine lt_lit ?_)); fail "lt?")
    | ((with_reducible refine Nat.ne_of_gt ?_); (fail_if_success (with_reducible refine lt_lit ?_)); fail "lt?")
    | decide)
local macro_rules | `(tactic| k_ne) => `(tactic| (refine neN ?_; (try dsimp only); (fail_if_success (with_reducible refine self_ne ?_)); first | fail "ne?" | (fail "lt&"; omega)))
section
open PySem PySem.W PySem.Calls PyProof.Rows
local macro_rules | `(tactic| k_room) => `(tactic| ((try simp only [depth_under_make, depth_under_kw, depth_in1, depth_deeper, depth_caller, Ar]); with_reducible first | exact room0 (by assumption) | exact room1 (by assumption) | exact room2 (by assumption) | exact room3 (by assumption) | exact room10 (by assumption) | exact room20 (by assumption) | exact room30 (by assumption) | exact room40 (by assumption) | exact room50 (by assumption) | (simp only [recursionLimit] at *; omega)))
local macro_rules | `(tactic| walk_at "binaryOp Div float float") => `(tactic| refine div_nz rfl ?_ ?_)
local macro_rules | `(tactic| walk_at "binaryOp Mod float float") => `(tactic| refine mod_nz rfl ?_ ?_)
local macro_rules | `(tactic| walk_at "binaryOp Sub float int") => `(tactic| refine subfi_nf rfl ?_ (by omega))
local macro_rules | `(tactic| walk_at "call type:int") => `(tactic| ((with_reducible show wpAny _ _ (call _ [Value.float _ _]) _ _ _); refine int_is rfl (by assumption) (by omega) ?_))
local macro_rules | `(tactic| walk_at "compareOp Eq float float") => `(tactic| first | refine cmpEq_yes (by assumption) (by assumption) (by omega) ?_ | refine cmpEq_no (by assumption) (by assumption) (by omega) ?_ | refine cmpEq_is (by assumption) (by assumption) ?_)
section
theorem rs1 : True := by
  w_top off
  exact trivial
def mc1 : Lean.MacroM Lean.Syntax := `(tactic| repeat' first | fail "K1" | fail "K3" | fail "K2" | fail "K4")
local macro_rules | `(tactic| k_steps) => mc1
def rgbOf (N sh va : Int) : Int × Int × Int :=
  let f := 6 * N % 16
  let i := 6 * N / 16 % 6
  let V := 128 * va
  let p := 16 * (va * (8 - sh))
  let q := va * (128 - sh * f)
  let t := va * (128 - sh * (16 - f))
  if i = 0 then (V, t, p) else if i = 1 then (q, V, p) else if i = 2 then (p, V, t) else if i = 3 then (p, q, V) else if i = 4 then (t, p, V) else (V, p, q)

section
variable {N sh va : Int}
theorem rgb_at0 (h : 6 * N / 16 % 6 = 0) : rgbOf N sh va = (128 * va, va * (128 - sh * (16 - 6 * N % 16)), 16 * (va * (8 - sh))) := by
  simp only [rgbOf, h, if_true]
theorem rgb_at1 (h : 6 * N / 16 % 6 = 1) : rgbOf N sh va = (va * (128 - sh * (6 * N % 16)), 128 * va, 16 * (va * (8 - sh))) := by
  simp only [rgbOf, h]; rfl
theorem rgb_at2 (h : 6 * N / 16 % 6 = 2) : rgbOf N sh va = (16 * (va * (8 - sh)), 128 * va, va * (128 - sh * (16 - 6 * N % 16))) := by
  simp only [rgbOf, h]; rfl
theorem rgb_at3 (h : 6 * N / 16 % 6 = 3) : rgbOf N sh va = (16 * (va * (8 - sh)), va * (128 - sh * (6 * N % 16)), 128 * va) := by
  simp only [rgbOf, h]; rfl
theorem rgb_at4 (h : 6 * N / 16 % 6 = 4) : rgbOf N sh va = (va * (128 - sh * (16 - 6 * N % 16)), 16 * (va * (8 - sh)), 128 * va) := by
  simp only [rgbOf, h]; rfl
theorem rgb_at5 (h : 6 * N / 16 % 6 = 5) : rgbOf N sh va = (128 * va, 16 * (va * (8 - sh)), va * (128 - sh * (6 * N % 16))) := by
  simp only [rgbOf, h]; rfl
theorem six {x y : Int} (e : x = y % 6) (h0 : ¬ x = 0) (h1 : ¬ x = 1) (h2 : ¬ x = 2) (h3 : ¬ x = 3) (h4 : ¬ x = 4) (h5 : ¬ x = 5) : False := by
  have a := Int.emod_nonneg y (b := 6) (by decide)
  have b := Int.emod_lt_of_pos y (b := 6) (by decide)
  rw [← e] at a b
  have c1 : (1 : Int) ≤ x := Int.lt_iff_le_and_ne.mpr ⟨a, Ne.symm h0⟩
  have c2 : (2 : Int) ≤ x := Int.lt_iff_le_and_ne.mpr ⟨c1, Ne.symm h1⟩
  have c3 : (3 : Int) ≤ x := Int.lt_iff_le_and_ne.mpr ⟨c2, Ne.symm h2⟩
  have c4 : (4 : Int) ≤ x := Int.lt_iff_le_and_ne.mpr ⟨c3, Ne.symm h3⟩
  have c5 : (5 : Int) ≤ x := Int.lt_iff_le_and_ne.mpr ⟨c4, Ne.symm h4⟩
  have c6 : (6 : Int) ≤ x := Int.lt_iff_le_and_ne.mpr ⟨c5, Ne.symm h5⟩
  exact Int.lt_irrefl _ (Int.lt_of_lt_of_le b c6)
theorem five {x y : Int} (e : x = y % 6) (h0 : ¬ x = 0) (h1 : ¬ x = 1) (h2 : ¬ x = 2) (h3 : ¬ x = 3) (h4 : ¬ x = 4) : x = 5 := Decidable.byContradiction fun h5 => six e h0 h1 h2 h3 h4 h5
theorem nb {x : Int} (h0 : 0 ≤ x) (h1 : x ≤ 2000000) : x.natAbs < 2 ^ 53 := by omega
theorem hsv_f {xs xv F : UInt64} {f : Int} (hF : Is F (64 * f)) (hs : Is xs (128 * sh)) (hv : Is xv (128 * va)) (f0 : 0 ≤ f) (f1 : f < 16) (s1 : 1 ≤ sh) (s8 : sh ≤ 8) (v1 : 1 ≤ va) (v8 : va ≤ 8) :
    Is (Float64.mul xv (Float64.sub 4607182418800017408 xs)) (16 * (va * (8 - sh))) ∧
    Is (Float64.mul xv (Float64.sub 4607182418800017408 (Float64.mul xs F))) (va * (128 - sh * f)) ∧
    Is (Float64.mul xv (Float64.sub 4607182418800017408 (Float64.mul xs (Float64.sub 4607182418800017408 F)))) (va * (128 - sh * (16 - f))) := by
  have s0 : 0 ≤ sh := Int.le_trans (by decide) s1
  have v0 : 0 ≤ va := Int.le_trans (by decide) v1
  have g0 : 0 ≤ 16 - f := Int.sub_nonneg.mpr (Int.le_of_lt f1)
  have g1 : 16 - f ≤ 16 := Int.sub_le_self _ f0
  obtain ⟨a0, a1⟩ := mul_bd (a := sh) (b := f) (A := 8) (B := 16) s0 s8 f0 (Int.le_of_lt f1)
  obtain ⟨b0, b1⟩ := mul_bd (a := sh) (b := 16 - f) (A := 8) (B := 16) s0 s8 g0 g1
  have k0 : 0 ≤ 8 - sh := Int.sub_nonneg.mpr s8
  have k1 : 8 - sh ≤ 8 := Int.sub_le_self _ s0
  obtain ⟨c0, c1⟩ := mul_bd (a := va) (b := 8 - sh) (A := 8) (B := 8) v0 v8 k0 k1
  have p0 : ∀ x : Int, 0 ≤ x → x ≤ 8 * 16 → 0 ≤ 128 - x ∧ 128 - x ≤ 128 := fun x h h' => ⟨Int.sub_nonneg.mpr h', Int.sub_le_self _ h⟩
  obtain ⟨d0, d1⟩ := mul_bd (a := va) (b := 128 - sh * f) (A := 8) (B := 128) v0 v8 (p0 _ a0 a1).1 (p0 _ a0 a1).2
  obtain ⟨e0, e1⟩ := mul_bd (a := va) (b := 128 - sh * (16 - f)) (A := 8) (B := 128) v0 v8 (p0 _ b0 b1).1 (p0 _ b0 b1).2
  have q0 : ∀ x : Int, 0 ≤ x → x ≤ 8 * 16 → (1024 - 8 * x).natAbs < 2 ^ 53 ∧ (8 * x).natAbs < 2 ^ 53 := fun x h h' => ⟨by omega, by omega⟩
  have sub1 : Is (Float64.sub 4607182418800017408 xs) (1024 - 128 * sh) := is_sub is_c1 hs (by omega)
  refine ⟨is_mul hv sub1 (by grind) (by omega), is_mul hv (is_sub is_c1 (is_mul hs hF (l := 8 * (sh * f)) (by grind) (q0 _ a0 a1).2) (q0 _ a0 a1).1) (by grind) (nb d0 (Int.le_trans d1 (by decide))), ?_⟩
  have hF1 : Is (Float64.sub 4607182418800017408 F) (64 * (16 - f)) := by
    have := is_sub is_c1 hF (by omega)
    rwa [show 1024 - 64 * f = 64 * (16 - f) by omega] at this
  exact is_mul hv (is_sub is_c1 (is_mul hs hF1 (l := 8 * (sh * (16 - f))) (by grind) (q0 _ b0 b1).2) (q0 _ b0 b1).1) (by grind) (nb e0 (Int.le_trans e1 (by decide)))
theorem hsv_fl {xh xs xv : UInt64} (hh : Is xh (64 * N)) (hs : Is xs (128 * sh)) (hv : Is xv (128 * va)) (N0 : 0 ≤ N) (N1 : N < 4096) (s1 : 1 ≤ sh) (s8 : sh ≤ 8) (v1 : 1 ≤ va) (v8 : va ≤ 8) :
    Is (Float64.mul xh 4618441417868443648) (384 * N) ∧ (384 * N / 1024).fmod 6 = 6 * N / 16 % 6 ∧ (384 * N / 1024).natAbs < 2 ^ 40 ∧ 0 ≤ 384 * N ∧ 128 * sh ≠ 0 ∧
    Is (Float64.mul xv (Float64.sub 4607182418800017408 xs)) (16 * (va * (8 - sh))) ∧
    Is (Float64.mul xv (Float64.sub 4607182418800017408 (Float64.mul xs (Float64.sub (Float64.mul xh 4618441417868443648) (Float64.ofInt (384 * N / 1024)))))) (va * (128 - sh * (6 * N % 16))) ∧
    Is (Float64.mul xv (Float64.sub 4607182418800017408 (Float64.mul xs (Float64.sub 4607182418800017408 (Float64.sub (Float64.mul xh 4618441417868443648) (Float64.ofInt (384 * N / 1024))))))) (va * (128 - sh * (16 - 6 * N % 16))) := by
  have hm : Is (Float64.mul xh 4618441417868443648) (384 * N) := is_mul hh is_c6 (by omega) (by omega)
  have e0 : 384 * N / 1024 = 6 * N / 16 := by omega
  have e1 : 384 * N - 6 * N / 16 * 1024 = 64 * (6 * N % 16) := by omega
  have f0 : 0 ≤ 6 * N % 16 := Int.emod_nonneg _ (by decide)
  have f1 : 6 * N % 16 < 16 := Int.emod_lt_of_pos _ (by decide)
  rw [e0]
  have i1 : (6 * N / 16).natAbs < 2 ^ 40 := by omega
  have hF : Is (Float64.sub (Float64.mul xh 4618441417868443648) (Float64.ofInt (6 * N / 16))) (64 * (6 * N % 16)) := by
    have := is_sub hm (is_ofInt (6 * N / 16) (by omega)) (by rw [e1]; exact nb (Int.mul_nonneg (by decide) f0) (by omega))
    rwa [e1] at this
  exact ⟨hm, Int.fmod_eq_emod_of_nonneg _ (by decide), i1, Int.mul_nonneg (by decide) N0, by omega, hsv_f hF hs hv f0 f1 s1 s8 v1 v8⟩
end
set_option maxHeartbeats 8000000 in
theorem hsv_ok {w : World} {p : Program} {loose : List Str} {mean : ExcName → Option Value} {mg mb : Str → Option Value} {dp un : Nat} {fr : Option (List Env)} {gd : Option (List Code)} {s : Shared} {R : Result → Shared → Prop}
    (X : (hd.heap_1 w.params).In s.heap) (T : Top p loose mean mg mb s.heap) (hdp : dp + 10 < recursionLimit)
    {xh xs xv : UInt64} {th ts tv : Tok} {N sh va : Int} (hh : Is xh (64 * N)) (hs : Is xs (128 * sh)) (hv : Is xv (128 * va)) (N0 : 0 ≤ N) (N1 : N < 4096) (s1 : 1 ≤ sh) (s8 : sh ≤ 8) (v1 : 1 ≤ va) (v8 : va ≤ 8)
    (nv : tv ≠ 0)
    (hR : ∀ xr xg xb tr tg tb D h' tk, Ext s.heap h' → s.heap.get? D = none → h'.get? D = some (tupO [.float xr tr, .float xg tg, .float xb tb]) →
      Is xr (rgbOf N sh va).1 → Is xg (rgbOf N sh va).2.1 → Is xb (rgbOf N sh va).2.2 → tr ≠ 0 → tg ≠ 0 → tb ≠ 0 → R (.ok (.ret (.ref D))) { s with heap := h', toks := tk }) :
    codeAny (model PR w) (Ar dp un fr gd) (.call (.ref 35) ⟨[.float xh th, .float xs ts, .float xv tv], []⟩) R s := by
  unfold PR; revert X; k_fill; intro X
  have c1 := is_c1
  have c0 := is_c0
  obtain ⟨hm, hi6, hi7, hi8, hi9, hP, hQ, hT⟩ := hsv_fl hh hs hv N0 N1 s1 s8 v1 v8
  clear N0 N1 s1 s8 v1 v8
  refine' enter_ok X T ?k6 ?k7 ?k8 ?k9 ?kB ?_ ?c2 ?c3 ?c4 ?c5
  (case k6 => k_is)
  (case k7 => k_is)
  (case k8 => k_room)
  (case k9 => exact BindsTo.of_eq rfl)
  (case kB => exact locs rfl)
  (case c2 => exact rfl)
  (case c3 => exact rfl)
  (case c4 => exact rfl)
  (case c5 => decide)
  intro L h₁ F N
  dsimp only
  k_fold
  k_steps
  all_goals first
    | (exfalso; exact six hi6 (by assumption) (by assumption) (by assumption) (by assumption) (by assumption) (by assumption))
    | (rename Fr _ _ _ _ => F9
       rename News _ _ _ _ => N9
       refine hR _ _ _ _ _ _ _ _ _ F9.keep (News.fresh N9 (List.Mem.head _)) (News.get N9 (List.Mem.head _)) ?_ ?_ ?_ ?_ ?_ ?_
       all_goals first
         | with_reducible assumption
         | with_reducible exact Nat.succ_ne_zero _
         | (first
            | rw [rgb_at0 (hi6.symm.trans (by assumption))]
            | rw [rgb_at1 (hi6.symm.trans (by assumption))]
            | rw [rgb_at2 (hi6.symm.trans (by assumption))]
            | rw [rgb_at3 (hi6.symm.trans (by assumption))]
            | rw [rgb_at4 (hi6.symm.trans (by assumption))]
            | rw [rgb_at5 (hi6.symm.trans (five hi6 (by assumption) (by assumption) (by assumption) (by assumption) (by assumption)))]
            assumption))
end
section
theorem rs2 : True := by
  w_top off
  exact trivial
local macro_rules | `(tactic| k_steps) => mc1
def mc2 : Lean.MacroM Lean.Syntax := `(tactic| ((with_reducible refine wpAny_execs_cons ?_); try dsimp only))
local macro_rules | `(tactic| walk_at "execs cons") => mc2
def mc3 : Lean.MacroM Lean.Syntax := `(tactic| ((with_reducible refine wpAny_execs_nil ?_); try dsimp only))
local macro_rules | `(tactic| walk_at "execs nil") => mc3
local macro_rules | `(tactic| walk_at "call builtin:max") => `(tactic| refine Stop.mk ?_)
local macro_rules | `(tactic| walk_at "call builtin:min") => `(tactic| refine Stop.mk ?_)
set_option maxHeartbeats 8000000 in
theorem tohsv_ok {w : World} {p : Program} {loose : List Str} {mean : ExcName → Option Value} {mg mb : Str → Option Value} {dp un : Nat} {fr : Option (List Env)} {gd : Option (List Code)} {s0 : Shared} {R : Result → Shared → Prop}
    (X : (hd.heap_1 w.params).In s0.heap) (T : Top p loose mean mg mb s0.heap) (hdp : dp + 10 < recursionLimit)
    {xr xg xb : UInt64} {tr tg tb : Tok} {r g b V D S cr cg cb k : Int} (hr : Is xr r) (hg : Is xg g) (hb : Is xb b)
    (hmx : max (max r g) b = V) (hmn : min (min r g) b = V - D) (hD : 0 < D) (hV : 0 < V) (hDV : D ≤ V) (hV1 : V ≤ 1024) (hS : D * 1024 = S * V) (hS0 : 0 ≤ S) (hS1 : S ≤ 1024)
    (er : (V - r) * 16 = cr * D) (eg : (V - g) * 16 = cg * D) (eb : (V - b) * 16 = cb * D) (cr0 : 0 ≤ cr) (cg0 : 0 ≤ cg) (cb0 : 0 ≤ cb) (cr1 : cr ≤ 16) (cg1 : cg ≤ 16) (cb1 : cb ≤ 16)
    (hk : 6 * k = if cr = 0 then cb - cg else if cg = 0 then 32 + cr - cb else 64 + cg - cr) (k0 : -16 < k) (k1 : k < 16)
    (nr : tr ≠ 0) (ng : tg ≠ 0) (nb : tb ≠ 0)
    (hR : ∀ h s v th ts tv D h' tk, Ext s0.heap h' → s0.heap.get? D = none → h'.get? D = some (tupO [.float h th, .float s ts, .float v tv]) →
      Is h (64 * (k % 16)) → Is s S → Is v V → th ≠ 0 → ts ≠ 0 → tv ≠ 0 → R (.ok (.ret (.ref D))) { s0 with heap := h', toks := tk }) :
    codeAny (model PR w) (Ar dp un fr gd) (.call (.ref 28) ⟨[.float xr tr, .float xg tg, .float xb tb], []⟩) R s0 := by
  unfold PR; revert X; k_fill; intro X
  have c6 := is_c6
  have c1 := is_c1
  have c0 := is_c0
  have c2 := is_c2
  have c4 := is_c4
  have B9 := rngs hmx hmn hDV hV1
  have D9 := D_nz hD hDV hV1
  obtain ⟨d1, d2, d3⟩ := D9
  replace B9 := hide B9
  replace hmx := hide hmx
  replace hmn := hide hmn
  replace hk := hide hk
  replace er := hide er
  replace eg := hide eg
  replace eb := hide eb
  replace hS := hide hS
  refine' enter_ok X T ?k6 ?k7 ?k8 ?k9 ?kB ?_ ?c2 ?c3 ?c4 ?c5
  (case k6 => k_is)
  (case k7 => k_is)
  (case k8 => k_room)
  (case k9 => exact BindsTo.of_eq rfl)
  (case kB => exact locs rfl)
  (case c2 => exact rfl)
  (case c3 => exact rfl)
  (case c4 => exact rfl)
  (case c5 => decide)
  intro L h₁ F N
  dsimp only
  k_fold
  k_steps
  all_goals (try (refine ofStop ?_; (with_reducible show wpAny _ _ (call (Value.builtin "max") [Value.float _ _, Value.float _ _, Value.float _ _]) _ _ _); k_dflt (refine' max3_isT ?z1_hh ?z1_F ?z1_N ?z1_a ?z1_b ?z1_c ?z1_v ?z1_n1 ?z1_n2 ?z1_n3 ?_; (case z1_n1 => assumption); (case z1_n2 => assumption); (case z1_n3 => assumption); (case z1_hh => rfl); (case z1_F => k_asm); (case z1_N => k_asm); (case z1_a => assumption); (case z1_b => assumption); (case z1_c => assumption); (case z1_v => assumption); k_whole); intro z' h' tk' t' e' n' F' N'; (try k_sweep); k_steps))
  all_goals (try (refine ofStop ?_; (with_reducible show wpAny _ _ (call (Value.builtin "min") [Value.float _ _, Value.float _ _, Value.float _ _]) _ _ _); k_dflt (refine' min3_is ?z2_hh ?z2_F ?z2_N ?z2_a ?z2_b ?z2_c ?z2_v ?_; (case z2_hh => rfl); (case z2_F => k_asm); (case z2_N => k_asm); (case z2_a => assumption); (case z2_b => assumption); (case z2_c => assumption); (case z2_v => assumption); k_whole); intro z' h' tk' t' e' F' N'; (try k_sweep); k_steps))
  all_goals (try (first | exact NZ.of c1 (by decide) | exact NZ.of c6 (by decide) | exact NZ.of (rng_is (by assumption) (by assumption) d1) d2 | exact NZ.of (by assumption) d3))
  all_goals (
    rename Fr _ _ _ _ => F9
    rename News _ _ _ _ => N9
    rename Is _ V => hz
    rename Is _ (V - D) => hy
    replace hk := hk.un
    replace B9 := B9.un
    have zr := zero_iff er hD
    have zg := zero_iff eg hD
    have hs9 : Is (Float64.div (Float64.sub _ _) _) S := is_div (rng_is hz hy d1) hz d3 hS (by omega)
    refine hR _ _ _ _ _ _ _ _ _ F9.keep (News.fresh N9 (List.Mem.head _)) (News.get N9 (List.Mem.head _)) ?_ hs9 hz ?_ ?_ ?_)
  all_goals (try (first | assumption | exact Nat.succ_ne_zero _))
  · have : cr = 0 := zr.mp (by assumption)
    rw [if_pos this] at hk
    exact hue_r hz hy hg hb hD ⟨B9.1, B9.2.1, B9.2.2.2.1, B9.2.2.2.2⟩ eg eb cg0 cb0 cg1 cb1 hk k0 k1
  · have : ¬ cr = 0 := fun q => absurd (zr.mpr q) (by assumption)
    rw [if_neg this, if_pos (zg.mp (by assumption))] at hk
    exact hue_g hz hy hr hb hD ⟨B9.1, B9.2.1, B9.2.2.1, B9.2.2.2.2⟩ er eb cr0 cb0 cr1 cb1 hk k0 k1
  · have : ¬ cr = 0 := fun q => absurd (zr.mpr q) (by assumption)
    have h2 : ¬ cg = 0 := fun q => absurd (zg.mpr q) (by assumption)
    rw [if_neg this, if_neg h2] at hk
    exact hue_b hz hy hg hr hD ⟨B9.1, B9.2.1, B9.2.2.2.1, B9.2.2.1⟩ eg er cg0 cr0 cg1 cr1 hk k0 k1
end
section
theorem rs3 : True := by
  w_top off
  exact trivial
local macro_rules | `(tactic| walk_at "call builtin:max") => `(tactic| refine Stop.mk ?_)
local macro_rules | `(tactic| walk_at "call builtin:min") => `(tactic| refine Stop.mk ?_)
set_option maxHeartbeats 8000000 in
theorem tohls_ok {w : World} {p : Program} {loose : List Str} {mean : ExcName → Option Value} {mg mb : Str → Option Value} {dp un : Nat} {fr : Option (List Env)} {gd : Option (List Code)} {s0 : Shared} {R : Result → Shared → Prop}
    (X : (hd.heap_1 w.params).In s0.heap) (T : Top p loose mean mg mb s0.heap) (hdp : dp + 10 < recursionLimit)
    {xr xg xb : UInt64} {tr tg tb : Tok} {r g b V D lm cr cg cb k : Int} (hr : Is xr r) (hg : Is xg g) (hb : Is xb b)
    (hmx : max (max r g) b = V) (hmn : min (min r g) b = V - D) (hD : 0 < D) (hV : 0 < V) (hDV : D ≤ V) (hV1 : V ≤ 1024) (hL : 2 * lm = V + (V - D))
    (er : (V - r) * 16 = cr * D) (eg : (V - g) * 16 = cg * D) (eb : (V - b) * 16 = cb * D) (cr0 : 0 ≤ cr) (cg0 : 0 ≤ cg) (cb0 : 0 ≤ cb) (cr1 : cr ≤ 16) (cg1 : cg ≤ 16) (cb1 : cb ≤ 16)
    (hk : 6 * k = if cr = 0 then cb - cg else if cg = 0 then 32 + cr - cb else 64 + cg - cr) (k0 : -16 < k) (k1 : k < 16)
    (hR : ∀ h l v th tl tv D h' tk, Ext s0.heap h' → s0.heap.get? D = none → h'.get? D = some (tupO [.float h th, .float l tl, .float v tv]) →
      Is h (64 * (k % 16)) → Is l lm → R (.ok (.ret (.ref D))) { s0 with heap := h', toks := tk }) :
    codeAny (model PR w) (Ar dp un fr gd) (.call (.ref 21) ⟨[.float xr tr, .float xg tg, .float xb tb], []⟩) R s0 := by
  unfold PR; revert X; k_fill; intro X
  have c6 := is_c6
  have c1 := is_c1
  have c0 := is_c0
  have c2 := is_c2
  have c4 := is_c4
  have B9 := rngs hmx hmn hDV hV1
  have D9 := D_nz hD hDV hV1
  have L9 := L_nz hD hDV hV1 hL
  obtain ⟨d1, d2, d3⟩ := D9
  obtain ⟨e1, e2, e3, e4, e5, e6, e7⟩ := L9
  replace B9 := hide B9
  replace hmx := hide hmx
  replace hmn := hide hmn
  replace hk := hide hk
  replace er := hide er
  replace eg := hide eg
  replace eb := hide eb
  refine' enter_ok X T ?k6 ?k7 ?k8 ?k9 ?kB ?_ ?c2 ?c3 ?c4 ?c5
  (case k6 => k_is)
  (case k7 => k_is)
  (case k8 => k_room)
  (case k9 => exact BindsTo.of_eq rfl)
  (case kB => exact locs rfl)
  (case c2 => exact rfl)
  (case c3 => exact rfl)
  (case c4 => exact rfl)
  (case c5 => decide)
  intro L h₁ F N
  dsimp only
  k_fold
  k_steps
  all_goals (try (refine ofStop ?_; (with_reducible show wpAny _ _ (call (Value.builtin "max") [Value.float _ _, Value.float _ _, Value.float _ _]) _ _ _); k_dflt (refine' max3_is ?z1_hh ?z1_F ?z1_N ?z1_a ?z1_b ?z1_c ?z1_v ?_; (case z1_hh => rfl); (case z1_F => k_asm); (case z1_N => k_asm); (case z1_a => assumption); (case z1_b => assumption); (case z1_c => assumption); (case z1_v => assumption); k_whole); intro z' h' tk' t' e' F' N'; (try k_sweep); k_steps))
  all_goals (try (refine ofStop ?_; (with_reducible show wpAny _ _ (call (Value.builtin "min") [Value.float _ _, Value.float _ _, Value.float _ _]) _ _ _); k_dflt (refine' min3_is ?z2_hh ?z2_F ?z2_N ?z2_a ?z2_b ?z2_c ?z2_v ?_; (case z2_hh => rfl); (case z2_F => k_asm); (case z2_N => k_asm); (case z2_a => assumption); (case z2_b => assumption); (case z2_c => assumption); (case z2_v => assumption); k_whole); intro z' h' tk' t' e' F' N'; (try k_sweep); k_steps))
  all_goals (try (first | exact NZ.of c1 (by decide) | exact NZ.of c2 (by decide) | exact NZ.of c6 (by decide) | exact NZ.of (rng_is (by assumption) (by assumption) d1) d2 | exact NZ.of (is_add (by assumption) (by assumption) e1) e2))
  all_goals (try (
    rename Is _ V => hz
    rename Is _ (V - D) => hy
    exact NZ.of (is_sub (is_sub c2 hz e3) hy e4) e5))
  all_goals (
    rename Fr _ _ _ _ => F9
    rename News _ _ _ _ => N9
    rename Is _ V => hz
    rename Is _ (V - D) => hy
    replace hk := hk.un
    replace B9 := B9.un
    have zr := zero_iff er hD
    have zg := zero_iff eg hD
    have hl9 : Is (Float64.div (Float64.add _ _) _) lm := is_div (is_add hz hy e1) c2 (by decide) e6 e7
    refine hR _ _ _ _ _ _ _ _ _ F9.keep (News.fresh N9 (List.Mem.head _)) (News.get N9 (List.Mem.head _)) ?_ hl9
    first
    | (have h1 : cr = 0 := zr.mp (by assumption)
       rw [if_pos h1] at hk
       exact hue_r hz hy hg hb hD ⟨B9.1, B9.2.1, B9.2.2.2.1, B9.2.2.2.2⟩ eg eb cg0 cb0 cg1 cb1 hk k0 k1)
    | (have h1 : ¬ cr = 0 := fun q => absurd (zr.mpr q) (by assumption)
       rw [if_neg h1, if_pos (zg.mp (by assumption))] at hk
       exact hue_g hz hy hr hb hD ⟨B9.1, B9.2.1, B9.2.2.1, B9.2.2.2.2⟩ er eb cr0 cb0 cr1 cb1 hk k0 k1)
    | (have h1 : ¬ cr = 0 := fun q => absurd (zr.mpr q) (by assumption)
       have h2 : ¬ cg = 0 := fun q => absurd (zg.mpr q) (by assumption)
       rw [if_neg h1, if_neg h2] at hk
       exact hue_b hz hy hg hr hD ⟨B9.1, B9.2.1, B9.2.2.2.1, B9.2.2.1⟩ eg er cg0 cr0 cg1 cr1 hk k0 k1))
end
section
open PySem PySem.W PySem.Calls PyProof.Rows
local macro_rules | `(tactic| walk_at "call builtin:divmod") => `(tactic| (k_here; k_dflt (refine' divmod_K ?F ?N ?b ?p ?_; (case F => k_asm); (case N => k_asm); (case b => first | assumption | omega); (case p => first | assumption | exact PyProof.noPylong_small (by omega)); k_whole); intro D' h' F' N' l1; (try k_lt l1); (try k_sweep)))
local macro_rules | `(tactic| walk_at "binaryOp FloorDiv int int") => `(tactic| (k_here; refine fdiv_known (by omega) (by assumption) (PyProof.noPylong_small (by omega)) ?_))
local macro_rules | `(tactic| walk_at "call ref") => `(tactic| (k_here; kn_here; k_dflt (refine wpAny_call ?_; refine' enterX ?k1 ?k2 ?k3 ?k4 ?k5 ?k6 ?k7 ?k8 ?k9 ?kB ?_ ?c1 ?c2 ?c3 ?c4; (case k1 => k_asm); (case k2 => k_asm); (case k3 => k_asm); (case k4 => k_asm); (case k5 => exact News.get (by k_asm) (by k_mem)); (case k6 => exact rfl); (case k7 => first | exact codeRec_news (by k_asm) (by k_mem) (by assumption) (by assumption) | exact PySem.Heap.CodeRec.keeps (by assumption) (Fr.keep (by k_asm))); (case k8 => k_room); (case k9 => exact BindsTo.of_eq rfl); (case kB => exact locs rfl); (case c1 => decide); (case c2 => exact rfl); (case c3 => exact rfl); (case c4 => exact rfl); k_whole; intro g' L' h' F' N' X' T' st' l1; (try k_lt l1); (try (have cR' := PySem.Heap.CodeRec.keeps (by assumption) st')); (try (have lL' := stays_list st' (by assumption))); (try dsimp only); (try k_fold))))
section
theorem rs4 : True := by
  w_top off
  exact trivial
set_option maxHeartbeats 8000000 in
theorem div2n1n_ok {w : World} {p : Program} {loose : List Str} {mean : ExcName → Option Value} {mg mb : Str → Option Value} {dp un : Nat} {fr : Option (List Env)} {gd : Option (List Code)} {s0 : Shared} {R : Result → Shared → Prop}
    (X : (hd.heap_1 w.params).In s0.heap) (T : Top p loose mean mg mb s0.heap) (hdp : dp + 10 < recursionLimit)
    {a b n : Int} {ta tb tn : Tok} {q r : Int} (hq : a.fdiv b = q) (hr : a.fmod b = r) (hb : b ≠ 0) (hs : ((Builtin.Int.intBits a : Nat) : Int) - n ≤ 4000) (hp : Builtin.divisionGoesByPylong a b = false)
    (hR : ∀ D t1 t2 h' tk, Ext s0.heap h' → s0.heap.get? D = none → h'.get? D = some (tupO [.int q t1, .int r t2]) → R (.ok (.ret (.ref D))) { s0 with heap := h', toks := tk }) :
    codeAny (model PR w) (Ar dp un fr gd) (.call (.ref 42) ⟨[.int a ta, .int b tb, .int n tn], []⟩) R s0 := by
  unfold PR; revert X; k_fill; intro X
  refine' enter_ok X T ?k6 ?k7 ?k8 ?k9 ?kB ?_ ?c2 ?c3 ?c4 ?c5
  (case k6 => k_is)
  (case k7 => k_is)
  (case k8 => k_room)
  (case k9 => exact BindsTo.of_eq rfl)
  (case kB => exact locs rfl)
  (case c2 => exact rfl)
  (case c3 => exact rfl)
  (case c4 => exact rfl)
  (case c5 => decide)
  intro L h₁ F N
  dsimp only
  k_fold
  k_steps
  all_goals first
    | (exfalso; omega)
    | (rename Fr _ _ _ _ => F9
       rename News _ _ _ _ => N9
       rw [hq, hr] at N9
       exact hR _ _ _ _ _ F9.keep (News.fresh N9 (List.Mem.head _)) (News.get N9 (List.Mem.head _)))
end
section
open PySem PySem.W PySem.Calls PyProof.Rows
local macro_rules | `(tactic| walk_at "eval Name") => `(tactic| (k_here; k_dflt (first
  | (refine' nameX_L ?F ?v ?_ ?a ?b; (case b => exact rfl); (case a => exact rfl); (case F => k_asm); (case v => first | exact rfl | assumption); k_whole)
  | (refine' nameX_F ?N ?c ?m ?d ?_ ?a ?b; (case b => exact rfl); (case a => exact rfl); (case N => k_asm); (case c => exact rfl); (case m => k_mem); (case d => k_asm); k_whole)
  | (refine' nameX_C ?N ?c ?m ?d ?_ ?a ?b; (case b => exact rfl); (case a => exact rfl); (case N => k_asm); (case c => exact rfl); (case m => k_mem); (case d => k_asm); k_whole)
  | (refine' nameX_K ?F ?X ?T ?e ?_ ?a ?b; (case b => exact rfl); (case a => exact rfl); (case F => k_asm); (case X => k_asm); (case T => k_asm); (case e => k_is); k_whole))))
section
theorem rs5 : True := by
  w_top off
  exact trivial
def mc4 : Lean.MacroM Lean.Syntax := `(tactic| (k_here; k_dflt (first | refine rsh_known (c := 1) (by omega) (by decide) ?_ | refine rsh_known (by omega) (by assumption) ?_)))
local macro_rules | `(tactic| walk_at "binaryOp RShift int int") => mc4
def mc5 : Lean.MacroM Lean.Syntax := `(tactic| (k_here; k_dflt (refine lsh_known (by omega) (by omega) (by first | omega | assumption) (by assumption) ?_)))
local macro_rules | `(tactic| walk_at "binaryOp LShift int int") => mc5
local macro_rules | `(tactic| walk_at "binaryOp BitXor int int") => `(tactic| (k_here; k_dflt (refine xor_known (by assumption) ?_)))
def mc6 : Lean.MacroM Lean.Syntax := `(tactic| (k_here; k_dflt (refine mul_known (by omega) (by omega) (by assumption) ?_)))
local macro_rules | `(tactic| walk_at "binaryOp Mult int int") => mc6
set_option maxHeartbeats 8000000 in
theorem i2d_cold0 {w : World} {p : Program} {loose : List Str} {mean : ExcName → Option Value} {mg mb : Str → Option Value} {dp un : Nat} {fr : Option (List Env)} {gd : Option (List Code)} {s0 : Shared} {R : Result → Shared → Prop}
    (X : (hd.heap_1 w.params).In (hideAll s0.heap [51])) (T : Top p loose mean mg mb (hideAll s0.heap [51])) (C51 : CodeHd (hideAll s0.heap [51]) 55 51) (hdp : dp + 10 < recursionLimit)
    (h51 : s0.heap.get? 51 = some (tabObj #[]))
    {n : Int} {ta tn : Tok} (hn : 1 ≤ n) (hn2 : n ≤ 64) (hbi : Builtin.Int.intBits 0 ≤ 64) (hk : (((Builtin.Int.intBits 0 : Nat) : Int) + n - 1).fdiv n = 0) 
    (hR : ∀ D n' h' tk c oc vs tq, (∀ b o, b ≠ 51 → s0.heap.get? b = some o → h'.get? b = some o) → h'.get? 51 = some (tabObj #[rawInt 96, rawInt 4, .ref c]) → h'.get? c = some oc → oc.data = .fields vs →
      vs[1]? = some (.str (PySem.Str.ofString "_int2digits" ++ PySem.Str.ofString ".<locals>." ++ PySem.Str.ofString "inner") tq) → c ≠ 51 → s0.heap.get? c = none → s0.heap.get? D = none → h'.get? D = some (listOf #[] n') → c ≠ D → R (.ok (.ret (.ref D))) { s0 with heap := h', toks := tk }) :
    codeAny (model PR w) (Ar dp un fr gd) (.call (.ref 56) ⟨[.int 0 ta, .int n tn], []⟩) R s0 := by
  unfold PR; revert X; k_fill; intro X
  refine' enterC (as := [51]) (news := [(51, tabObj #[])]) rfl ?hN X T ?k6 ?k7 ?k8 ?k9 ?kB ?kD ?_ ?c2 ?c3 ?c4
  (case hN => intro q hq; rw [List.mem_singleton.mp hq]; exact h51)
  (case k6 => k_is)
  (case k7 => k_is)
  (case k8 => k_room)
  (case k9 => exact BindsTo.of_eq rfl)
  (case kB => exact rfl)
  (case kD => decide +kernel)
  (case c2 => exact rfl)
  (case c3 => exact rfl)
  (case c4 => exact rfl)
  intro L' h' tk' cells' F' N' Y' l1
  k_lt l1
  k_cells Y'
  (try simp only [List.cons_append, List.nil_append] at N')
  (try dsimp only)
  k_unmd
  k_fold
  k_steps
  all_goals (try dsimp only)
  all_goals (try show R (.ok (.ret (.ref _))) _)
  all_goals first
    | (exfalso; omega)
    | (rename Fr _ _ _ _ => F9
       rename News _ _ _ _ => N9
       refine' hR _ _ _ _ _ _ _ _ (but_tab F9) ?c1 ?c2 ?c3 ?c4 ?c5 ?c6 ?c7 ?c8 ?c9
       (case c1 => exact News.get N9 (by k_mem))
       (case c2 => exact News.get N9 (by k_mem))
       (case c3 => assumption)
       (case c4 => assumption)
       (case c8 => exact News.get N9 (by k_mem))
       (case c5 => k_ne)
       (case c6 => exact fresh_tab (News.fresh N9 (by k_mem)) (by k_ne))
       (case c7 => exact fresh_tab (News.fresh N9 (by k_mem)) (by k_ne))
       (case c9 => k_ne))
set_option maxHeartbeats 8000000 in
theorem i2d_cold1 {w : World} {p : Program} {loose : List Str} {mean : ExcName → Option Value} {mg mb : Str → Option Value} {dp un : Nat} {fr : Option (List Env)} {gd : Option (List Code)} {s0 : Shared} {R : Result → Shared → Prop}
    (X : (hd.heap_1 w.params).In (hideAll s0.heap [51])) (T : Top p loose mean mg mb (hideAll s0.heap [51])) (C51 : CodeHd (hideAll s0.heap [51]) 55 51) (hdp : dp + 10 < recursionLimit)
    (h51 : s0.heap.get? 51 = some (tabObj #[]))
    {a n : Int} {ta tn : Tok} (hn : 1 ≤ n) (hn2 : n ≤ 64) (hbi : Builtin.Int.intBits a ≤ 64) (hk : (((Builtin.Int.intBits a : Nat) : Int) + n - 1).fdiv n = 1) (ha : a ≠ 0)
    (hR : ∀ D n' t0 h' tk c oc vs tq, (∀ b o, b ≠ 51 → s0.heap.get? b = some o → h'.get? b = some o) → h'.get? 51 = some (tabObj #[rawInt 96, rawInt 4, .ref c]) → h'.get? c = some oc → oc.data = .fields vs →
      vs[1]? = some (.str (PySem.Str.ofString "_int2digits" ++ PySem.Str.ofString ".<locals>." ++ PySem.Str.ofString "inner") tq) → c ≠ 51 → s0.heap.get? c = none → s0.heap.get? D = none → h'.get? D = some (listOf #[.int a t0] n') → c ≠ D → R (.ok (.ret (.ref D))) { s0 with heap := h', toks := tk }) :
    codeAny (model PR w) (Ar dp un fr gd) (.call (.ref 56) ⟨[.int a ta, .int n tn], []⟩) R s0 := by
  unfold PR; revert X; k_fill; intro X
  refine' enterC (as := [51]) (news := [(51, tabObj #[])]) rfl ?hN X T ?k6 ?k7 ?k8 ?k9 ?kB ?kD ?_ ?c2 ?c3 ?c4
  (case hN => intro q hq; rw [List.mem_singleton.mp hq]; exact h51)
  (case k6 => k_is)
  (case k7 => k_is)
  (case k8 => k_room)
  (case k9 => exact BindsTo.of_eq rfl)
  (case kB => exact rfl)
  (case kD => decide +kernel)
  (case c2 => exact rfl)
  (case c3 => exact rfl)
  (case c4 => exact rfl)
  intro L' h' tk' cells' F' N' Y' l1
  k_lt l1
  k_cells Y'
  (try simp only [List.cons_append, List.nil_append] at N')
  (try dsimp only)
  k_unmd
  k_fold
  k_steps
  all_goals (try dsimp only)
  all_goals (try show R (.ok (.ret (.ref _))) _)
  all_goals first
    | (exfalso; omega)
    | (rename Fr _ _ _ _ => F9
       rename News _ _ _ _ => N9
       refine' hR _ _ _ _ _ _ _ _ _ (but_tab F9) ?c1 ?c2 ?c3 ?c4 ?c5 ?c6 ?c7 ?c8 ?c9
       (case c1 => exact News.get N9 (by k_mem))
       (case c2 => exact News.get N9 (by k_mem))
       (case c3 => assumption)
       (case c4 => assumption)
       (case c8 => exact News.get N9 (by k_mem))
       (case c5 => k_ne)
       (case c6 => exact fresh_tab (News.fresh N9 (by k_mem)) (by k_ne))
       (case c7 => exact fresh_tab (News.fresh N9 (by k_mem)) (by k_ne))
       (case c9 => k_ne))
set_option maxHeartbeats 8000000 in
theorem i2d_warm0 {w : World} {p : Program} {loose : List Str} {mean : ExcName → Option Value} {mg mb : Str → Option Value} {dp un : Nat} {fr : Option (List Env)} {gd : Option (List Code)} {s0 : Shared} {R : Result → Shared → Prop}
    (X : (hd.heap_1 w.params).In (hideAll s0.heap [51])) (T : Top p loose mean mg mb (hideAll s0.heap [51])) (C51 : CodeHd (hideAll s0.heap [51]) 55 51) (hdp : dp + 10 < recursionLimit)
    {c51 : Addr} (h51 : s0.heap.get? 51 = some (tabObj #[rawInt 96, rawInt 4, .ref c51])) (hc51 : (hideAll s0.heap [51]).CodeRec (.ref c51) (PySem.Str.ofString "_int2digits" ++ PySem.Str.ofString ".<locals>." ++ PySem.Str.ofString "inner"))
    {n : Int} {ta tn : Tok} (hn : 1 ≤ n) (hn2 : n ≤ 64) (hbi : Builtin.Int.intBits 0 ≤ 64) (hk : (((Builtin.Int.intBits 0 : Nat) : Int) + n - 1).fdiv n = 0) 
    (hR : ∀ D n' h' tk, Ext s0.heap h' → s0.heap.get? D = none → h'.get? D = some (listOf #[] n') → R (.ok (.ret (.ref D))) { s0 with heap := h', toks := tk }) :
    codeAny (model PR w) (Ar dp un fr gd) (.call (.ref 56) ⟨[.int 0 ta, .int n tn], []⟩) R s0 := by
  unfold PR; revert X; k_fill; intro X
  refine' enterC (as := [51]) (news := [(51, tabObj #[rawInt 96, rawInt 4, .ref c51])]) rfl ?hN X T ?k6 ?k7 ?k8 ?k9 ?kB ?kD ?_ ?c2 ?c3 ?c4
  (case hN => intro q hq; rw [List.mem_singleton.mp hq]; exact h51)
  (case k6 => k_is)
  (case k7 => k_is)
  (case k8 => k_room)
  (case k9 => exact BindsTo.of_eq rfl)
  (case kB => exact rfl)
  (case kD => decide +kernel)
  (case c2 => exact rfl)
  (case c3 => exact rfl)
  (case c4 => exact rfl)
  intro L' h' tk' cells' F' N' Y' l1
  k_lt l1
  k_cells Y'
  (try simp only [List.cons_append, List.nil_append] at N')
  (try dsimp only)
  k_unmd
  k_fold
  k_steps
  all_goals (try dsimp only)
  all_goals (try show R (.ok (.ret (.ref _))) _)
  all_goals first
    | (exfalso; omega)
    | (rename Fr _ _ _ _ => F9
       rename News _ _ _ _ => N9
       refine' hR _ _ _ _ ?ce ?cf ?cg
       (case cg => exact News.get N9 (by k_mem))
       (case ce => exact ext_tab F9 h51 (News.get N9 (by k_mem)))
       (case cf => exact fresh_tab (News.fresh N9 (by k_mem)) (by k_ne)))
set_option maxHeartbeats 8000000 in
theorem i2d_warm1 {w : World} {p : Program} {loose : List Str} {mean : ExcName → Option Value} {mg mb : Str → Option Value} {dp un : Nat} {fr : Option (List Env)} {gd : Option (List Code)} {s0 : Shared} {R : Result → Shared → Prop}
    (X : (hd.heap_1 w.params).In (hideAll s0.heap [51])) (T : Top p loose mean mg mb (hideAll s0.heap [51])) (C51 : CodeHd (hideAll s0.heap [51]) 55 51) (hdp : dp + 10 < recursionLimit)
    {c51 : Addr} (h51 : s0.heap.get? 51 = some (tabObj #[rawInt 96, rawInt 4, .ref c51])) (hc51 : (hideAll s0.heap [51]).CodeRec (.ref c51) (PySem.Str.ofString "_int2digits" ++ PySem.Str.ofString ".<locals>." ++ PySem.Str.ofString "inner"))
    {a n : Int} {ta tn : Tok} (hn : 1 ≤ n) (hn2 : n ≤ 64) (hbi : Builtin.Int.intBits a ≤ 64) (hk : (((Builtin.Int.intBits a : Nat) : Int) + n - 1).fdiv n = 1) (ha : a ≠ 0)
    (hR : ∀ D n' t0 h' tk, Ext s0.heap h' → s0.heap.get? D = none → h'.get? D = some (listOf #[.int a t0] n') → R (.ok (.ret (.ref D))) { s0 with heap := h', toks := tk }) :
    codeAny (model PR w) (Ar dp un fr gd) (.call (.ref 56) ⟨[.int a ta, .int n tn], []⟩) R s0 := by
  unfold PR; revert X; k_fill; intro X
  refine' enterC (as := [51]) (news := [(51, tabObj #[rawInt 96, rawInt 4, .ref c51])]) rfl ?hN X T ?k6 ?k7 ?k8 ?k9 ?kB ?kD ?_ ?c2 ?c3 ?c4
  (case hN => intro q hq; rw [List.mem_singleton.mp hq]; exact h51)
  (case k6 => k_is)
  (case k7 => k_is)
  (case k8 => k_room)
  (case k9 => exact BindsTo.of_eq rfl)
  (case kB => exact rfl)
  (case kD => decide +kernel)
  (case c2 => exact rfl)
  (case c3 => exact rfl)
  (case c4 => exact rfl)
  intro L' h' tk' cells' F' N' Y' l1
  k_lt l1
  k_cells Y'
  (try simp only [List.cons_append, List.nil_append] at N')
  (try dsimp only)
  k_unmd
  k_fold
  k_steps
  all_goals (try dsimp only)
  all_goals (try show R (.ok (.ret (.ref _))) _)
  all_goals first
    | (exfalso; omega)
    | (rename Fr _ _ _ _ => F9
       rename News _ _ _ _ => N9
       refine' hR _ _ _ _ _ ?ce ?cf ?cg
       (case cg => exact News.get N9 (by k_mem))
       (case ce => exact ext_tab F9 h51 (News.get N9 (by k_mem)))
       (case cf => exact fresh_tab (News.fresh N9 (by k_mem)) (by k_ne)))
set_option maxHeartbeats 8000000 in
theorem i2d_warm2 {w : World} {p : Program} {loose : List Str} {mean : ExcName → Option Value} {mg mb : Str → Option Value} {dp un : Nat} {fr : Option (List Env)} {gd : Option (List Code)} {s0 : Shared} {R : Result → Shared → Prop}
    (X : (hd.heap_1 w.params).In (hideAll s0.heap [51])) (T : Top p loose mean mg mb (hideAll s0.heap [51])) (C51 : CodeHd (hideAll s0.heap [51]) 55 51) (hdp : dp + 10 < recursionLimit)
    {c51 : Addr} (h51 : s0.heap.get? 51 = some (tabObj #[rawInt 96, rawInt 4, .ref c51])) (hc51 : (hideAll s0.heap [51]).CodeRec (.ref c51) (PySem.Str.ofString "_int2digits" ++ PySem.Str.ofString ".<locals>." ++ PySem.Str.ofString "inner"))
    {a n : Int} {ta tn : Tok} (hn : 1 ≤ n) (hn2 : n ≤ 64) (hbi : Builtin.Int.intBits a ≤ 64) (hk : (((Builtin.Int.intBits a : Nat) : Int) + n - 1).fdiv n = 2) (ha : a ≠ 0) {hi hs lo : Int} (f1 : (1 - 0) * n = n) (f2 : a.fdiv (2 ^ n.toNat) = hi) (f3 : hi * 2 ^ n.toNat = hs) (f4 : Builtin.bitXor a hs = lo) (hi0 : 0 ≤ hi) (hi1 : hi < 2 ^ 60)
    (hR : ∀ D n' t0 t1 h' tk, Ext s0.heap h' → s0.heap.get? D = none → h'.get? D = some (listOf #[.int lo t0, .int hi t1] n') → R (.ok (.ret (.ref D))) { s0 with heap := h', toks := tk }) :
    codeAny (model PR w) (Ar dp un fr gd) (.call (.ref 56) ⟨[.int a ta, .int n tn], []⟩) R s0 := by
  unfold PR; revert X; k_fill; intro X
  refine' enterC (as := [51]) (news := [(51, tabObj #[rawInt 96, rawInt 4, .ref c51])]) rfl ?hN X T ?k6 ?k7 ?k8 ?k9 ?kB ?kD ?_ ?c2 ?c3 ?c4
  (case hN => intro q hq; rw [List.mem_singleton.mp hq]; exact h51)
  (case k6 => k_is)
  (case k7 => k_is)
  (case k8 => k_room)
  (case k9 => exact BindsTo.of_eq rfl)
  (case kB => exact rfl)
  (case kD => decide +kernel)
  (case c2 => exact rfl)
  (case c3 => exact rfl)
  (case c4 => exact rfl)
  intro L' h' tk' cells' F' N' Y' l1
  k_lt l1
  k_cells Y'
  (try simp only [List.cons_append, List.nil_append] at N')
  (try dsimp only)
  k_unmd
  k_fold
  k_steps
  all_goals (try dsimp only)
  all_goals (try show R (.ok (.ret (.ref _))) _)
  all_goals first
    | (exfalso; omega)
    | (rename Fr _ _ _ _ => F9
       rename News _ _ _ _ => N9
       refine' hR _ _ _ _ _ _ ?ce ?cf ?cg
       (case cg => exact News.get N9 (by k_mem))
       (case ce => exact ext_tab F9 h51 (News.get N9 (by k_mem)))
       (case cf => exact fresh_tab (News.fresh N9 (by k_mem)) (by k_ne)))
end
section
theorem rs6 : True := by
  w_top off
  exact trivial
local macro_rules | `(tactic| walk_at "binaryOp RShift int int") => mc4
local macro_rules | `(tactic| walk_at "binaryOp LShift int int") => mc5
local macro_rules | `(tactic| walk_at "binaryOp BitXor int int") => `(tactic| (k_here; k_dflt (refine xor_known (by assumption) ?_)))
local macro_rules | `(tactic| walk_at "binaryOp Mult int int") => mc6
def mc7 : Lean.MacroM Lean.Syntax := `(tactic| (k_here; (with_reducible show wpAny _ _ (subscriptTail _ _ (Value.ref _) (Value.int _ _)) _ _ _); k_dflt (refine' item_known ?kl ?k0 ?k1 ?ke ?_ ?ks ?kg; (case kl => first | exact list_base (by k_asm) (by assumption) | exact list_news (by k_asm) (by k_mem)); (case k0 => omega); (case k1 => omega); (case ke => exact rfl); (case ks => with_unfolding_all rfl); (case kg => intro _; with_unfolding_all rfl); k_whole)))
local macro_rules | `(tactic| walk_at "subscriptTail") => mc7
set_option maxHeartbeats 8000000 in
theorem d2i_cold0 {w : World} {p : Program} {loose : List Str} {mean : ExcName → Option Value} {mg mb : Str → Option Value} {dp un : Nat} {fr : Option (List Env)} {gd : Option (List Code)} {s0 : Shared} {R : Result → Shared → Prop}
    (X : (hd.heap_1 w.params).In (hideAll s0.heap [58])) (T : Top p loose mean mg mb (hideAll s0.heap [58])) (C58 : CodeHd (hideAll s0.heap [58]) 62 58) (hdp : dp + 10 < recursionLimit)
    (h58 : s0.heap.get? 58 = some (tabObj #[]))
    {Dg : Addr} {n : Int} {tn : Tok} (hdg : (hideAll s0.heap [58]).IsList Dg #[]) (hn : 1 ≤ n) (hn2 : n ≤ 64) 
    (hR : ∀ t h' tk c oc vs tq, (∀ b o, b ≠ 58 → s0.heap.get? b = some o → h'.get? b = some o) → h'.get? 58 = some (tabObj #[rawInt 111, rawInt 4, .ref c]) → h'.get? c = some oc → oc.data = .fields vs →
      vs[1]? = some (.str (PySem.Str.ofString "_digits2int" ++ PySem.Str.ofString ".<locals>." ++ PySem.Str.ofString "inner") tq) → c ≠ 58 → s0.heap.get? c = none → R (.ok (.ret (.int 0 t))) { s0 with heap := h', toks := tk }) :
    codeAny (model PR w) (Ar dp un fr gd) (.call (.ref 63) ⟨[.ref Dg, .int n tn], []⟩) R s0 := by
  unfold PR; revert X; k_fill; intro X
  refine' enterC (as := [58]) (news := [(58, tabObj #[])]) rfl ?hN X T ?k6 ?k7 ?k8 ?k9 ?kB ?kD ?_ ?c2 ?c3 ?c4
  (case hN => intro q hq; rw [List.mem_singleton.mp hq]; exact h58)
  (case k6 => k_is)
  (case k7 => k_is)
  (case k8 => k_room)
  (case k9 => exact BindsTo.of_eq rfl)
  (case kB => exact rfl)
  (case kD => decide +kernel)
  (case c2 => exact rfl)
  (case c3 => exact rfl)
  (case c4 => exact rfl)
  intro L' h' tk' cells' F' N' Y' l1
  k_lt l1
  k_cells Y'
  (try simp only [List.cons_append, List.nil_append] at N')
  (try dsimp only)
  k_unmd
  k_fold
  k_steps
  all_goals (try dsimp only)
  all_goals (try show R (.ok (.ret (.int _ _))) _)
  all_goals first
    | (rename Fr _ _ _ _ => F9
       rename News _ _ _ _ => N9
       refine' hR _ _ _ _ _ _ _ (but_tab F9) ?c1 ?c2 ?c3 ?c4 ?c5 ?c6
       (case c1 => exact News.get N9 (by k_mem))
       (case c2 => exact News.get N9 (by k_mem))
       (case c3 => assumption)
       (case c4 => assumption)
       (case c5 => k_ne)
       (case c6 => exact fresh_tab (News.fresh N9 (by k_mem)) (by k_ne)))
    | fail "end"
set_option maxHeartbeats 8000000 in
theorem d2i_cold1 {w : World} {p : Program} {loose : List Str} {mean : ExcName → Option Value} {mg mb : Str → Option Value} {dp un : Nat} {fr : Option (List Env)} {gd : Option (List Code)} {s0 : Shared} {R : Result → Shared → Prop}
    (X : (hd.heap_1 w.params).In (hideAll s0.heap [58])) (T : Top p loose mean mg mb (hideAll s0.heap [58])) (C58 : CodeHd (hideAll s0.heap [58]) 62 58) (hdp : dp + 10 < recursionLimit)
    (h58 : s0.heap.get? 58 = some (tabObj #[]))
    {Dg : Addr} {n : Int} {tn : Tok} {d0 : Int} {t0 : Tok} (hdg : (hideAll s0.heap [58]).IsList Dg #[.int d0 t0]) (hn : 1 ≤ n) (hn2 : n ≤ 64) 
    (hR : ∀ t h' tk c oc vs tq, (∀ b o, b ≠ 58 → s0.heap.get? b = some o → h'.get? b = some o) → h'.get? 58 = some (tabObj #[rawInt 111, rawInt 4, .ref c]) → h'.get? c = some oc → oc.data = .fields vs →
      vs[1]? = some (.str (PySem.Str.ofString "_digits2int" ++ PySem.Str.ofString ".<locals>." ++ PySem.Str.ofString "inner") tq) → c ≠ 58 → s0.heap.get? c = none → R (.ok (.ret (.int d0 t))) { s0 with heap := h', toks := tk }) :
    codeAny (model PR w) (Ar dp un fr gd) (.call (.ref 63) ⟨[.ref Dg, .int n tn], []⟩) R s0 := by
  unfold PR; revert X; k_fill; intro X
  refine' enterC (as := [58]) (news := [(58, tabObj #[])]) rfl ?hN X T ?k6 ?k7 ?k8 ?k9 ?kB ?kD ?_ ?c2 ?c3 ?c4
  (case hN => intro q hq; rw [List.mem_singleton.mp hq]; exact h58)
  (case k6 => k_is)
  (case k7 => k_is)
  (case k8 => k_room)
  (case k9 => exact BindsTo.of_eq rfl)
  (case kB => exact rfl)
  (case kD => decide +kernel)
  (case c2 => exact rfl)
  (case c3 => exact rfl)
  (case c4 => exact rfl)
  intro L' h' tk' cells' F' N' Y' l1
  k_lt l1
  k_cells Y'
  (try simp only [List.cons_append, List.nil_append] at N')
  (try dsimp only)
  k_unmd
  k_fold
  k_steps
  all_goals (try dsimp only)
  all_goals (try show R (.ok (.ret (.int _ _))) _)
  all_goals first
    | (rename Fr _ _ _ _ => F9
       rename News _ _ _ _ => N9
       refine' hR _ _ _ _ _ _ _ (but_tab F9) ?c1 ?c2 ?c3 ?c4 ?c5 ?c6
       (case c1 => exact News.get N9 (by k_mem))
       (case c2 => exact News.get N9 (by k_mem))
       (case c3 => assumption)
       (case c4 => assumption)
       (case c5 => k_ne)
       (case c6 => exact fresh_tab (News.fresh N9 (by k_mem)) (by k_ne)))
    | fail "end"
set_option maxHeartbeats 8000000 in
theorem d2i_warm0 {w : World} {p : Program} {loose : List Str} {mean : ExcName → Option Value} {mg mb : Str → Option Value} {dp un : Nat} {fr : Option (List Env)} {gd : Option (List Code)} {s0 : Shared} {R : Result → Shared → Prop}
    (X : (hd.heap_1 w.params).In (hideAll s0.heap [58])) (T : Top p loose mean mg mb (hideAll s0.heap [58])) (C58 : CodeHd (hideAll s0.heap [58]) 62 58) (hdp : dp + 10 < recursionLimit)
    {c58 : Addr} (h58 : s0.heap.get? 58 = some (tabObj #[rawInt 111, rawInt 4, .ref c58])) (hc58 : (hideAll s0.heap [58]).CodeRec (.ref c58) (PySem.Str.ofString "_digits2int" ++ PySem.Str.ofString ".<locals>." ++ PySem.Str.ofString "inner"))
    {Dg : Addr} {n : Int} {tn : Tok} (hdg : (hideAll s0.heap [58]).IsList Dg #[]) (hn : 1 ≤ n) (hn2 : n ≤ 64) 
    (hR : ∀ t h' tk, Ext s0.heap h' → R (.ok (.ret (.int 0 t))) { s0 with heap := h', toks := tk }) :
    codeAny (model PR w) (Ar dp un fr gd) (.call (.ref 63) ⟨[.ref Dg, .int n tn], []⟩) R s0 := by
  unfold PR; revert X; k_fill; intro X
  refine' enterC (as := [58]) (news := [(58, tabObj #[rawInt 111, rawInt 4, .ref c58])]) rfl ?hN X T ?k6 ?k7 ?k8 ?k9 ?kB ?kD ?_ ?c2 ?c3 ?c4
  (case hN => intro q hq; rw [List.mem_singleton.mp hq]; exact h58)
  (case k6 => k_is)
  (case k7 => k_is)
  (case k8 => k_room)
  (case k9 => exact BindsTo.of_eq rfl)
  (case kB => exact rfl)
  (case kD => decide +kernel)
  (case c2 => exact rfl)
  (case c3 => exact rfl)
  (case c4 => exact rfl)
  intro L' h' tk' cells' F' N' Y' l1
  k_lt l1
  k_cells Y'
  (try simp only [List.cons_append, List.nil_append] at N')
  (try dsimp only)
  k_unmd
  k_fold
  k_steps
  all_goals (try dsimp only)
  all_goals (try show R (.ok (.ret (.int _ _))) _)
  all_goals first
    | (rename Fr _ _ _ _ => F9
       rename News _ _ _ _ => N9
       refine' hR _ _ _ ?ce
       (case ce => exact ext_tab F9 h58 (News.get N9 (by k_mem))))
    | fail "end"
set_option maxHeartbeats 8000000 in
theorem d2i_warm1 {w : World} {p : Program} {loose : List Str} {mean : ExcName → Option Value} {mg mb : Str → Option Value} {dp un : Nat} {fr : Option (List Env)} {gd : Option (List Code)} {s0 : Shared} {R : Result → Shared → Prop}
    (X : (hd.heap_1 w.params).In (hideAll s0.heap [58])) (T : Top p loose mean mg mb (hideAll s0.heap [58])) (C58 : CodeHd (hideAll s0.heap [58]) 62 58) (hdp : dp + 10 < recursionLimit)
    {c58 : Addr} (h58 : s0.heap.get? 58 = some (tabObj #[rawInt 111, rawInt 4, .ref c58])) (hc58 : (hideAll s0.heap [58]).CodeRec (.ref c58) (PySem.Str.ofString "_digits2int" ++ PySem.Str.ofString ".<locals>." ++ PySem.Str.ofString "inner"))
    {Dg : Addr} {n : Int} {tn : Tok} {d0 : Int} {t0 : Tok} (hdg : (hideAll s0.heap [58]).IsList Dg #[.int d0 t0]) (hn : 1 ≤ n) (hn2 : n ≤ 64) 
    (hR : ∀ t h' tk, Ext s0.heap h' → R (.ok (.ret (.int d0 t))) { s0 with heap := h', toks := tk }) :
    codeAny (model PR w) (Ar dp un fr gd) (.call (.ref 63) ⟨[.ref Dg, .int n tn], []⟩) R s0 := by
  unfold PR; revert X; k_fill; intro X
  refine' enterC (as := [58]) (news := [(58, tabObj #[rawInt 111, rawInt 4, .ref c58])]) rfl ?hN X T ?k6 ?k7 ?k8 ?k9 ?kB ?kD ?_ ?c2 ?c3 ?c4
  (case hN => intro q hq; rw [List.mem_singleton.mp hq]; exact h58)
  (case k6 => k_is)
  (case k7 => k_is)
  (case k8 => k_room)
  (case k9 => exact BindsTo.of_eq rfl)
  (case kB => exact rfl)
  (case kD => decide +kernel)
  (case c2 => exact rfl)
  (case c3 => exact rfl)
  (case c4 => exact rfl)
  intro L' h' tk' cells' F' N' Y' l1
  k_lt l1
  k_cells Y'
  (try simp only [List.cons_append, List.nil_append] at N')
  (try dsimp only)
  k_unmd
  k_fold
  k_steps
  all_goals (try dsimp only)
  all_goals (try show R (.ok (.ret (.int _ _))) _)
  all_goals first
    | (rename Fr _ _ _ _ => F9
       rename News _ _ _ _ => N9
       refine' hR _ _ _ ?ce
       (case ce => exact ext_tab F9 h58 (News.get N9 (by k_mem))))
    | fail "end"
set_option maxHeartbeats 8000000 in
theorem d2i_warm2 {w : World} {p : Program} {loose : List Str} {mean : ExcName → Option Value} {mg mb : Str → Option Value} {dp un : Nat} {fr : Option (List Env)} {gd : Option (List Code)} {s0 : Shared} {R : Result → Shared → Prop}
    (X : (hd.heap_1 w.params).In (hideAll s0.heap [58])) (T : Top p loose mean mg mb (hideAll s0.heap [58])) (C58 : CodeHd (hideAll s0.heap [58]) 62 58) (hdp : dp + 10 < recursionLimit)
    {c58 : Addr} (h58 : s0.heap.get? 58 = some (tabObj #[rawInt 111, rawInt 4, .ref c58])) (hc58 : (hideAll s0.heap [58]).CodeRec (.ref c58) (PySem.Str.ofString "_digits2int" ++ PySem.Str.ofString ".<locals>." ++ PySem.Str.ofString "inner"))
    {Dg : Addr} {n : Int} {tn : Tok} {d0 d1 : Int} {t0 t1 : Tok} (hdg : (hideAll s0.heap [58]).IsList Dg #[.int d0 t0, .int d1 t1]) (hn : 1 ≤ n) (hn2 : n ≤ 64) {e1 : Int} (f1 : (1 - 0) * n = n) (f2 : d1 * 2 ^ n.toNat = e1) (d10 : d1.natAbs < 2 ^ 64)
    (hR : ∀ t h' tk, Ext s0.heap h' → R (.ok (.ret (.int (e1 + d0) t))) { s0 with heap := h', toks := tk }) :
    codeAny (model PR w) (Ar dp un fr gd) (.call (.ref 63) ⟨[.ref Dg, .int n tn], []⟩) R s0 := by
  unfold PR; revert X; k_fill; intro X
  refine' enterC (as := [58]) (news := [(58, tabObj #[rawInt 111, rawInt 4, .ref c58])]) rfl ?hN X T ?k6 ?k7 ?k8 ?k9 ?kB ?kD ?_ ?c2 ?c3 ?c4
  (case hN => intro q hq; rw [List.mem_singleton.mp hq]; exact h58)
  (case k6 => k_is)
  (case k7 => k_is)
  (case k8 => k_room)
  (case k9 => exact BindsTo.of_eq rfl)
  (case kB => exact rfl)
  (case kD => decide +kernel)
  (case c2 => exact rfl)
  (case c3 => exact rfl)
  (case c4 => exact rfl)
  intro L' h' tk' cells' F' N' Y' l1
  k_lt l1
  k_cells Y'
  (try simp only [List.cons_append, List.nil_append] at N')
  (try dsimp only)
  k_unmd
  k_fold
  k_steps
  all_goals (try dsimp only)
  all_goals (try show R (.ok (.ret (.int _ _))) _)
  all_goals first
    | (rename Fr _ _ _ _ => F9
       rename News _ _ _ _ => N9
       refine' hR _ _ _ ?ce
       (case ce => exact ext_tab F9 h58 (News.get N9 (by k_mem))))
    | fail "end"
end
section
theorem rs7 : True := by
  w_top off
  exact trivial
local macro_rules | `(tactic| walk_at "binaryOp RShift int int") => mc4
local macro_rules | `(tactic| walk_at "binaryOp LShift int int") => mc5
local macro_rules | `(tactic| walk_at "binaryOp BitXor int int") => `(tactic| (k_here; k_dflt (refine xor_known (by assumption) ?_)))
local macro_rules | `(tactic| walk_at "binaryOp Mult int int") => mc6
local macro_rules | `(tactic| walk_at "binaryOp Add int int") => `(tactic| (k_here; k_dflt (refine add_known (by assumption) ?_)))
local macro_rules | `(tactic| walk_at "subscriptTail") => mc7
local macro_rules | `(tactic| walk_at "call builtin:int.bit_length") => `(tactic| (k_here; k_dflt (refine bitlen_known (by assumption) ?_)))
def mc8 : Lean.MacroM Lean.Syntax := `(tactic| (k_here; (with_reducible show wpAny _ _ (call (Value.ref _) _) _ _ _); refine Stop.mk ?_))
local macro_rules | `(tactic| walk_at "call ref") => mc8
set_option maxHeartbeats 8000000 in
theorem dp_cold0 {w : World} {p : Program} {loose : List Str} {mean : ExcName → Option Value} {mg mb : Str → Option Value} {dp un : Nat} {fr : Option (List Env)} {gd : Option (List Code)} {s0 : Shared} {R : Result → Shared → Prop}
    (X : (hd.heap_1 w.params).In (hideAll s0.heap [58, 51])) (T : Top p loose mean mg mb (hideAll s0.heap [58, 51])) (C51 : CodeHd (hideAll s0.heap [58, 51]) 55 51) (C58 : CodeHd (hideAll s0.heap [58, 51]) 62 58) (hdp : dp + 20 < recursionLimit)
    (h51 : s0.heap.get? 51 = some (tabObj #[])) (h58 : s0.heap.get? 58 = some (tabObj #[]))
    {b n : Int} {tb : Tok} {ta : Tok} (hbn : ((Builtin.Int.intBits b : Nat) : Int) = n) (hb0 : 0 < b) (hb1 : b < 1000000) (hn : 1 ≤ n) (hn2 : n ≤ 64) (hbi : Builtin.Int.intBits 0 ≤ 64) (hk : (((Builtin.Int.intBits 0 : Nat) : Int) + n - 1).fdiv n = 0)
    
    (hR : ∀ D t1 t2 h' tk c51 o51 v51 q51 c58 o58 v58 q58, (∀ b o, b ≠ 51 → b ≠ 58 → s0.heap.get? b = some o → h'.get? b = some o) → h'.get? 51 = some (tabObj #[rawInt 96, rawInt 4, .ref c51]) → h'.get? 58 = some (tabObj #[rawInt 111, rawInt 4, .ref c58]) →
      h'.get? c51 = some o51 → o51.data = .fields v51 → v51[1]? = some (.str (PySem.Str.ofString "_int2digits" ++ PySem.Str.ofString ".<locals>." ++ PySem.Str.ofString "inner") q51) → h'.get? c58 = some o58 → o58.data = .fields v58 → v58[1]? = some (.str (PySem.Str.ofString "_digits2int" ++ PySem.Str.ofString ".<locals>." ++ PySem.Str.ofString "inner") q58) → s0.heap.get? c51 = none → s0.heap.get? c58 = none → s0.heap.get? D = none → D ≠ c51 → D ≠ c58 → c51 ≠ c58 →
      h'.get? D = some (tupO [.int 0 t1, .int 0 t2]) → R (.ok (.ret (.ref D))) { s0 with heap := h', toks := tk }) :
    codeAny (model PR w) (Ar dp un fr gd) (.call (.ref 70) ⟨[.int 0 ta, .int b tb], []⟩) R s0 := by
  unfold PR; revert X; k_fill; intro X
  refine' enterP (as := [58, 51]) (news := [(58, tabObj #[]), (51, tabObj #[])]) rfl ?hN X T ?k6 ?k7 ?k8 ?k9 ?kB ?_ ?c2 ?c3 ?c4 ?c5
  (case hN => intro q hq; rcases List.mem_cons.mp hq with rfl | hq; exact h58; rw [List.mem_singleton.mp hq]; exact h51)
  (case k6 => k_is)
  (case k7 => k_is)
  (case k8 => k_room)
  (case k9 => exact BindsTo.of_eq rfl)
  (case kB => exact locs rfl)
  (case c2 => exact rfl)
  (case c3 => exact rfl)
  (case c4 => exact rfl)
  (case c5 => decide)
  intro L' h' F' N' l1
  k_lt l1
  (try dsimp only)
  k_unmd
  k_fold
  k_steps
  all_goals (try (refine ofStop ?_; (with_reducible show wpAny _ _ (call (Value.ref 56) _) _ _ _); k_dflt (refine wpAny_call ?_; refine' i2d_cold0 ?z1_X ?z1_T ?z1_C ?z1_d ?z1_h51 ?z1_n1 ?z1_n2 ?z1_bi ?z1_k ?_; (case z1_X => exact Frag.In.keeps (by k_asm) (base_hide (P := 51) (by k_asm) (News.fresh (by k_asm) (by k_mem)))); (case z1_T => exact Top.keeps (by k_asm) (base_hide (P := 51) (by k_asm) (News.fresh (by k_asm) (by k_mem)))); (case z1_C => exact CodeHd.keeps (by assumption) (base_hide (P := 51) (by k_asm) (News.fresh (by k_asm) (by k_mem)))); (case z1_d => k_room); (case z1_h51 => exact News.get (by k_asm) (by k_mem)); (case z1_n1 => omega); (case z1_n2 => omega); (case z1_bi => assumption); (case z1_k => assumption); k_whole); intro D' n9' h' tk' c' oc' vs' tq' x' p' gc' d1' d2' nc' fc' f' g' ncD'; obtain ⟨F', N', l1, l2⟩ := afterTD (P := 51) (o := tabObj #[]) (by k_asm) (by k_asm) (by k_updF) x' p' gc' fc' g' f' ncD'; (try dsimp only at N' l1 l2); (try simp only [AllNe, and_true] at l1 l2); clear x' p' gc' fc' g' f' ncD'; (try k_sweep); (try dsimp only); k_steps))
  all_goals (try (refine ofStop ?_; (with_reducible show wpAny _ _ (call (Value.ref 63) _) _ _ _); k_dflt (refine wpAny_call ?_; refine' d2i_cold0 ?z2_X ?z2_T ?z2_C ?z2_d ?z2_h58 ?z2_dg ?z2_n1 ?z2_n2 ?_; (case z2_X => exact Frag.In.keeps (by k_asm) (base_hide (P := 58) (by k_asm) (News.fresh (by k_asm) (by k_mem)))); (case z2_T => exact Top.keeps (by k_asm) (base_hide (P := 58) (by k_asm) (News.fresh (by k_asm) (by k_mem)))); (case z2_C => exact CodeHd.keeps (by assumption) (base_hide (P := 58) (by k_asm) (News.fresh (by k_asm) (by k_mem)))); (case z2_d => k_room); (case z2_h58 => exact News.get (by k_asm) (by k_mem)); (case z2_dg => exact list_hide (by k_asm) (by k_mem) (by k_ne)); (case z2_n1 => omega); (case z2_n2 => omega); k_whole); intro t9' h' tk' c' oc' vs' tq' x' p' gc' d1' d2' nc' fc'; obtain ⟨F', N', l1⟩ := afterT (P := 58) (o := tabObj #[]) (by k_asm) (by k_asm) (by k_updF) x' p' gc' fc'; (try dsimp only at N' l1); (try simp only [AllNe, and_true] at l1); clear x' p' gc' fc'; (try k_sweep); (try dsimp only); k_steps))
  all_goals (try dsimp only)
  all_goals (try show R (.ok (.ret (.ref _))) _)
  all_goals first
    | (rename Fr _ _ _ _ => F9
       rename News _ _ _ _ => N9
       refine' hR _ _ _ _ _ _ _ _ _ _ _ _ _ (but_two F9) ?c1 ?c2 ?c3 ?c4 ?c5 ?c6 ?c7 ?c8 ?c9 ?c10 ?c11 ?c12 ?c13 ?c14 ?c15
       (case c1 => exact News.get N9 (by k_mem))
       (case c2 => exact News.get N9 (by k_mem))
       (case c3 => exact News.get N9 (by k_mem))
       (case c4 => assumption)
       (case c5 => assumption)
       (case c6 => exact News.get N9 (by k_mem))
       (case c7 => assumption)
       (case c8 => assumption)
       (case c15 => exact News.get N9 (by k_mem))
       (case c9 => exact fresh_two (News.fresh N9 (by k_mem)) (by k_ne) (by k_ne))
       (case c10 => exact fresh_two (News.fresh N9 (by k_mem)) (by k_ne) (by k_ne))
       (case c11 => exact fresh_two (News.fresh N9 (by k_mem)) (by k_ne) (by k_ne))
       (case c12 => k_ne)
       (case c13 => k_ne)
       (case c14 => k_ne))
    | fail "end"
set_option maxHeartbeats 8000000 in
theorem dp_cold1 {w : World} {p : Program} {loose : List Str} {mean : ExcName → Option Value} {mg mb : Str → Option Value} {dp un : Nat} {fr : Option (List Env)} {gd : Option (List Code)} {s0 : Shared} {R : Result → Shared → Prop}
    (X : (hd.heap_1 w.params).In (hideAll s0.heap [58, 51])) (T : Top p loose mean mg mb (hideAll s0.heap [58, 51])) (C51 : CodeHd (hideAll s0.heap [58, 51]) 55 51) (C58 : CodeHd (hideAll s0.heap [58, 51]) 62 58) (hdp : dp + 20 < recursionLimit)
    (h51 : s0.heap.get? 51 = some (tabObj #[])) (h58 : s0.heap.get? 58 = some (tabObj #[]))
    {a b n q0 r0 : Int} {tb : Tok} {ta : Tok} (hbn : ((Builtin.Int.intBits b : Nat) : Int) = n) (hb0 : 0 < b) (hb1 : b < 1000000) (hn : 1 ≤ n) (hn2 : n ≤ 64) (hbi : Builtin.Int.intBits a ≤ 64) (hk : (((Builtin.Int.intBits a : Nat) : Int) + n - 1).fdiv n = 1)
    (ha : a ≠ 0) (z0 : (0 : Int) * 2 ^ n.toNat = 0) (z1 : 0 + a = a) (g1 : a.fdiv b = q0) (g2 : a.fmod b = r0) (b1 : ((Builtin.Int.intBits a : Nat) : Int) - n ≤ 4000)
    (hR : ∀ D t1 t2 h' tk c51 o51 v51 q51 c58 o58 v58 q58, (∀ b o, b ≠ 51 → b ≠ 58 → s0.heap.get? b = some o → h'.get? b = some o) → h'.get? 51 = some (tabObj #[rawInt 96, rawInt 4, .ref c51]) → h'.get? 58 = some (tabObj #[rawInt 111, rawInt 4, .ref c58]) →
      h'.get? c51 = some o51 → o51.data = .fields v51 → v51[1]? = some (.str (PySem.Str.ofString "_int2digits" ++ PySem.Str.ofString ".<locals>." ++ PySem.Str.ofString "inner") q51) → h'.get? c58 = some o58 → o58.data = .fields v58 → v58[1]? = some (.str (PySem.Str.ofString "_digits2int" ++ PySem.Str.ofString ".<locals>." ++ PySem.Str.ofString "inner") q58) → s0.heap.get? c51 = none → s0.heap.get? c58 = none → s0.heap.get? D = none → D ≠ c51 → D ≠ c58 → c51 ≠ c58 →
      h'.get? D = some (tupO [.int q0 t1, .int r0 t2]) → R (.ok (.ret (.ref D))) { s0 with heap := h', toks := tk }) :
    codeAny (model PR w) (Ar dp un fr gd) (.call (.ref 70) ⟨[.int a ta, .int b tb], []⟩) R s0 := by
  unfold PR; revert X; k_fill; intro X
  refine' enterP (as := [58, 51]) (news := [(58, tabObj #[]), (51, tabObj #[])]) rfl ?hN X T ?k6 ?k7 ?k8 ?k9 ?kB ?_ ?c2 ?c3 ?c4 ?c5
  (case hN => intro q hq; rcases List.mem_cons.mp hq with rfl | hq; exact h58; rw [List.mem_singleton.mp hq]; exact h51)
  (case k6 => k_is)
  (case k7 => k_is)
  (case k8 => k_room)
  (case k9 => exact BindsTo.of_eq rfl)
  (case kB => exact locs rfl)
  (case c2 => exact rfl)
  (case c3 => exact rfl)
  (case c4 => exact rfl)
  (case c5 => decide)
  intro L' h' F' N' l1
  k_lt l1
  (try dsimp only)
  k_unmd
  k_fold
  k_steps
  all_goals (try (refine ofStop ?_; (with_reducible show wpAny _ _ (call (Value.ref 56) _) _ _ _); k_dflt (refine wpAny_call ?_; refine' i2d_cold1 ?z3_X ?z3_T ?z3_C ?z3_d ?z3_h51 ?z3_n1 ?z3_n2 ?z3_bi ?z3_k ?z3_a0 ?_; (case z3_X => exact Frag.In.keeps (by k_asm) (base_hide (P := 51) (by k_asm) (News.fresh (by k_asm) (by k_mem)))); (case z3_T => exact Top.keeps (by k_asm) (base_hide (P := 51) (by k_asm) (News.fresh (by k_asm) (by k_mem)))); (case z3_C => exact CodeHd.keeps (by assumption) (base_hide (P := 51) (by k_asm) (News.fresh (by k_asm) (by k_mem)))); (case z3_d => k_room); (case z3_h51 => exact News.get (by k_asm) (by k_mem)); (case z3_n1 => omega); (case z3_n2 => omega); (case z3_bi => assumption); (case z3_k => assumption); (case z3_a0 => first | assumption | omega); k_whole); intro D' n9' t0' h' tk' c' oc' vs' tq' x' p' gc' d1' d2' nc' fc' f' g' ncD'; obtain ⟨F', N', l1, l2⟩ := afterTD (P := 51) (o := tabObj #[]) (by k_asm) (by k_asm) (by k_updF) x' p' gc' fc' g' f' ncD'; (try dsimp only at N' l1 l2); (try simp only [AllNe, and_true] at l1 l2); clear x' p' gc' fc' g' f' ncD'; (try k_sweep); (try dsimp only); k_steps))
  all_goals (try (refine ofStop ?_; (with_reducible show wpAny _ _ (call (Value.ref 42) _) _ _ _); k_dflt (refine wpAny_call ?_; refine' div2n1n_ok ?y1_X ?y1_T ?y1_d ?y1_q ?y1_r ?y1_b ?y1_s ?y1_p ?_; (case y1_X => k_in); (case y1_T => exact Top.keeps (by k_asm) (Fr.keep (by k_asm))); (case y1_d => k_room); (case y1_q => assumption); (case y1_r => assumption); (case y1_b => omega); (case y1_s => assumption); (case y1_p => exact PyProof.noPylong_small (by omega)); k_whole); intro D' t1' t2' h' tk' x' f' g'; obtain ⟨F', N', l1⟩ := after1 (by k_asm) (by k_asm) x' f' g'; (try simp only [AllNe, and_true] at l1); clear x' f' g'; (try k_sweep); (try dsimp only); k_steps))
  all_goals (try (refine ofStop ?_; (with_reducible show wpAny _ _ (call (Value.ref 63) _) _ _ _); k_dflt (refine wpAny_call ?_; refine' d2i_cold1 ?z4_X ?z4_T ?z4_C ?z4_d ?z4_h58 ?z4_dg ?z4_n1 ?z4_n2 ?_; (case z4_X => exact Frag.In.keeps (by k_asm) (base_hide (P := 58) (by k_asm) (News.fresh (by k_asm) (by k_mem)))); (case z4_T => exact Top.keeps (by k_asm) (base_hide (P := 58) (by k_asm) (News.fresh (by k_asm) (by k_mem)))); (case z4_C => exact CodeHd.keeps (by assumption) (base_hide (P := 58) (by k_asm) (News.fresh (by k_asm) (by k_mem)))); (case z4_d => k_room); (case z4_h58 => exact News.get (by k_asm) (by k_mem)); (case z4_dg => exact list_hide (by k_asm) (by k_mem) (by k_ne)); (case z4_n1 => omega); (case z4_n2 => omega); k_whole); intro t9' h' tk' c' oc' vs' tq' x' p' gc' d1' d2' nc' fc'; obtain ⟨F', N', l1⟩ := afterT (P := 58) (o := tabObj #[]) (by k_asm) (by k_asm) (by k_updF) x' p' gc' fc'; (try dsimp only at N' l1); (try simp only [AllNe, and_true] at l1); clear x' p' gc' fc'; (try k_sweep); (try dsimp only); k_steps))
  all_goals (try dsimp only)
  all_goals (try show R (.ok (.ret (.ref _))) _)
  all_goals first
    | (rename Fr _ _ _ _ => F9
       rename News _ _ _ _ => N9
       refine' hR _ _ _ _ _ _ _ _ _ _ _ _ _ (but_two F9) ?c1 ?c2 ?c3 ?c4 ?c5 ?c6 ?c7 ?c8 ?c9 ?c10 ?c11 ?c12 ?c13 ?c14 ?c15
       (case c1 => exact News.get N9 (by k_mem))
       (case c2 => exact News.get N9 (by k_mem))
       (case c3 => exact News.get N9 (by k_mem))
       (case c4 => assumption)
       (case c5 => assumption)
       (case c6 => exact News.get N9 (by k_mem))
       (case c7 => assumption)
       (case c8 => assumption)
       (case c15 => exact News.get N9 (by k_mem))
       (case c9 => exact fresh_two (News.fresh N9 (by k_mem)) (by k_ne) (by k_ne))
       (case c10 => exact fresh_two (News.fresh N9 (by k_mem)) (by k_ne) (by k_ne))
       (case c11 => exact fresh_two (News.fresh N9 (by k_mem)) (by k_ne) (by k_ne))
       (case c12 => k_ne)
       (case c13 => k_ne)
       (case c14 => k_ne))
    | fail "end"
end
section
local macro_rules | `(tactic| walk_at "zz") => `(tactic| skip)
theorem rs8 : True := by
  w_top off
  exact trivial
local macro_rules | `(tactic| walk_at "binaryOp RShift int int") => mc4
local macro_rules | `(tactic| walk_at "binaryOp LShift int int") => mc5
local macro_rules | `(tactic| walk_at "binaryOp BitXor int int") => `(tactic| (k_here; k_dflt (refine xor_known (by assumption) ?_)))
local macro_rules | `(tactic| walk_at "binaryOp Mult int int") => mc6
local macro_rules | `(tactic| walk_at "binaryOp Add int int") => `(tactic| (k_here; k_dflt (refine add_known (by assumption) ?_)))
local macro_rules | `(tactic| walk_at "subscriptTail") => mc7
local macro_rules | `(tactic| walk_at "call builtin:int.bit_length") => `(tactic| (k_here; k_dflt (refine bitlen_known (by assumption) ?_)))
local macro_rules | `(tactic| walk_at "call ref") => mc8
set_option maxHeartbeats 8000000 in
theorem dp_warm0 {w : World} {p : Program} {loose : List Str} {mean : ExcName → Option Value} {mg mb : Str → Option Value} {dp un : Nat} {fr : Option (List Env)} {gd : Option (List Code)} {s0 : Shared} {R : Result → Shared → Prop}
    (X : (hd.heap_1 w.params).In (hideAll s0.heap [58, 51])) (T : Top p loose mean mg mb (hideAll s0.heap [58, 51])) (C51 : CodeHd (hideAll s0.heap [58, 51]) 55 51) (C58 : CodeHd (hideAll s0.heap [58, 51]) 62 58) (hdp : dp + 20 < recursionLimit)
    {c51 c58 : Addr} (h51 : s0.heap.get? 51 = some (tabObj #[rawInt 96, rawInt 4, .ref c51])) (h58 : s0.heap.get? 58 = some (tabObj #[rawInt 111, rawInt 4, .ref c58])) (hc51 : (hideAll s0.heap [58, 51]).CodeRec (.ref c51) (PySem.Str.ofString "_int2digits" ++ PySem.Str.ofString ".<locals>." ++ PySem.Str.ofString "inner")) (hc58 : (hideAll s0.heap [58, 51]).CodeRec (.ref c58) (PySem.Str.ofString "_digits2int" ++ PySem.Str.ofString ".<locals>." ++ PySem.Str.ofString "inner"))
    {b n : Int} {tb : Tok} {ta : Tok} (hbn : ((Builtin.Int.intBits b : Nat) : Int) = n) (hb0 : 0 < b) (hb1 : b < 1000000) (hn : 1 ≤ n) (hn2 : n ≤ 64) (hbi : Builtin.Int.intBits 0 ≤ 64) (hk : (((Builtin.Int.intBits 0 : Nat) : Int) + n - 1).fdiv n = 0)
    
    (hR : ∀ D t1 t2 h' tk, Ext s0.heap h' → s0.heap.get? D = none → h'.get? D = some (tupO [.int 0 t1, .int 0 t2]) → R (.ok (.ret (.ref D))) { s0 with heap := h', toks := tk }) :
    codeAny (model PR w) (Ar dp un fr gd) (.call (.ref 70) ⟨[.int 0 ta, .int b tb], []⟩) R s0 := by
  unfold PR; revert X; k_fill; intro X
  refine' enterP (as := [58, 51]) (news := [(58, tabObj #[rawInt 111, rawInt 4, .ref c58]), (51, tabObj #[rawInt 96, rawInt 4, .ref c51])]) rfl ?hN X T ?k6 ?k7 ?k8 ?k9 ?kB ?_ ?c2 ?c3 ?c4 ?c5
  (case hN => intro q hq; rcases List.mem_cons.mp hq with rfl | hq; exact h58; rw [List.mem_singleton.mp hq]; exact h51)
  (case k6 => k_is)
  (case k7 => k_is)
  (case k8 => k_room)
  (case k9 => exact BindsTo.of_eq rfl)
  (case kB => exact locs rfl)
  (case c2 => exact rfl)
  (case c3 => exact rfl)
  (case c4 => exact rfl)
  (case c5 => decide)
  intro L' h' F' N' l1
  k_lt l1
  (try dsimp only)
  k_unmd
  k_fold
  k_steps
  all_goals (try (refine ofStop ?_; (with_reducible show wpAny _ _ (call (Value.ref 56) _) _ _ _); k_dflt (refine wpAny_call ?_; refine' i2d_warm0 ?z1_X ?z1_T ?z1_C ?z1_d ?z1_h51 ?z1_hc ?z1_n1 ?z1_n2 ?z1_bi ?z1_k ?_; (case z1_X => exact Frag.In.keeps (by k_asm) (base_hide (P := 51) (by k_asm) (News.fresh (by k_asm) (by k_mem)))); (case z1_T => exact Top.keeps (by k_asm) (base_hide (P := 51) (by k_asm) (News.fresh (by k_asm) (by k_mem)))); (case z1_C => exact CodeHd.keeps (by assumption) (base_hide (P := 51) (by k_asm) (News.fresh (by k_asm) (by k_mem)))); (case z1_d => k_room); (case z1_h51 => exact News.get (by k_asm) (by k_mem)); (case z1_hc => exact PySem.Heap.CodeRec.keeps (by assumption) (base_hide (P := 51) (by k_asm) (News.fresh (by k_asm) (by k_mem)))); (case z1_n1 => omega); (case z1_n2 => omega); (case z1_bi => assumption); (case z1_k => assumption); k_whole); intro D' n9' h' tk' x' f' g'; obtain ⟨F', N', l1⟩ := after1 (by k_asm) (by k_asm) x' f' g'; (try simp only [AllNe, and_true] at l1); clear x' f' g'; (try k_sweep); (try dsimp only); k_steps))
  all_goals (try (refine ofStop ?_; (with_reducible show wpAny _ _ (call (Value.ref 63) _) _ _ _); k_dflt (refine wpAny_call ?_; refine' d2i_warm0 ?z2_X ?z2_T ?z2_C ?z2_d ?z2_h58 ?z2_hc ?z2_dg ?z2_n1 ?z2_n2 ?_; (case z2_X => exact Frag.In.keeps (by k_asm) (base_hide (P := 58) (by k_asm) (News.fresh (by k_asm) (by k_mem)))); (case z2_T => exact Top.keeps (by k_asm) (base_hide (P := 58) (by k_asm) (News.fresh (by k_asm) (by k_mem)))); (case z2_C => exact CodeHd.keeps (by assumption) (base_hide (P := 58) (by k_asm) (News.fresh (by k_asm) (by k_mem)))); (case z2_d => k_room); (case z2_h58 => exact News.get (by k_asm) (by k_mem)); (case z2_hc => exact PySem.Heap.CodeRec.keeps (by assumption) (base_hide (P := 58) (by k_asm) (News.fresh (by k_asm) (by k_mem)))); (case z2_dg => exact list_hide (by k_asm) (by k_mem) (by k_ne)); (case z2_n1 => omega); (case z2_n2 => omega); k_whole); intro t9' h' tk' x'; obtain ⟨F', N'⟩ := after0 (by k_asm) (by k_asm) x'; clear x'; (try k_sweep); (try dsimp only); k_steps))
  all_goals (try dsimp only)
  all_goals (try show R (.ok (.ret (.ref _))) _)
  all_goals first
    | (rename Fr _ _ _ _ => F9
       rename News _ _ _ _ => N9
       refine' hR _ _ _ _ _ ?ce ?cf ?cg
       (case cg => exact News.get N9 (by k_mem))
       (case ce => exact ext_two F9 h58 h51 (News.get N9 (by k_mem)) (News.get N9 (by k_mem)))
       (case cf => exact fresh_two (News.fresh N9 (by k_mem)) (by k_ne) (by k_ne)))
    | fail "end"
set_option maxHeartbeats 8000000 in
theorem dp_warm1 {w : World} {p : Program} {loose : List Str} {mean : ExcName → Option Value} {mg mb : Str → Option Value} {dp un : Nat} {fr : Option (List Env)} {gd : Option (List Code)} {s0 : Shared} {R : Result → Shared → Prop}
    (X : (hd.heap_1 w.params).In (hideAll s0.heap [58, 51])) (T : Top p loose mean mg mb (hideAll s0.heap [58, 51])) (C51 : CodeHd (hideAll s0.heap [58, 51]) 55 51) (C58 : CodeHd (hideAll s0.heap [58, 51]) 62 58) (hdp : dp + 20 < recursionLimit)
    {c51 c58 : Addr} (h51 : s0.heap.get? 51 = some (tabObj #[rawInt 96, rawInt 4, .ref c51])) (h58 : s0.heap.get? 58 = some (tabObj #[rawInt 111, rawInt 4, .ref c58])) (hc51 : (hideAll s0.heap [58, 51]).CodeRec (.ref c51) (PySem.Str.ofString "_int2digits" ++ PySem.Str.ofString ".<locals>." ++ PySem.Str.ofString "inner")) (hc58 : (hideAll s0.heap [58, 51]).CodeRec (.ref c58) (PySem.Str.ofString "_digits2int" ++ PySem.Str.ofString ".<locals>." ++ PySem.Str.ofString "inner"))
    {a b n q0 r0 : Int} {tb : Tok} {ta : Tok} (hbn : ((Builtin.Int.intBits b : Nat) : Int) = n) (hb0 : 0 < b) (hb1 : b < 1000000) (hn : 1 ≤ n) (hn2 : n ≤ 64) (hbi : Builtin.Int.intBits a ≤ 64) (hk : (((Builtin.Int.intBits a : Nat) : Int) + n - 1).fdiv n = 1)
    (ha : a ≠ 0) (z0 : (0 : Int) * 2 ^ n.toNat = 0) (z1 : 0 + a = a) (g1 : a.fdiv b = q0) (g2 : a.fmod b = r0) (b1 : ((Builtin.Int.intBits a : Nat) : Int) - n ≤ 4000)
    (hR : ∀ D t1 t2 h' tk, Ext s0.heap h' → s0.heap.get? D = none → h'.get? D = some (tupO [.int q0 t1, .int r0 t2]) → R (.ok (.ret (.ref D))) { s0 with heap := h', toks := tk }) :
    codeAny (model PR w) (Ar dp un fr gd) (.call (.ref 70) ⟨[.int a ta, .int b tb], []⟩) R s0 := by
  unfold PR; revert X; k_fill; intro X
  refine' enterP (as := [58, 51]) (news := [(58, tabObj #[rawInt 111, rawInt 4, .ref c58]), (51, tabObj #[rawInt 96, rawInt 4, .ref c51])]) rfl ?hN X T ?k6 ?k7 ?k8 ?k9 ?kB ?_ ?c2 ?c3 ?c4 ?c5
  (case hN => intro q hq; rcases List.mem_cons.mp hq with rfl | hq; exact h58; rw [List.mem_singleton.mp hq]; exact h51)
  (case k6 => k_is)
  (case k7 => k_is)
  (case k8 => k_room)
  (case k9 => exact BindsTo.of_eq rfl)
  (case kB => exact locs rfl)
  (case c2 => exact rfl)
  (case c3 => exact rfl)
  (case c4 => exact rfl)
  (case c5 => decide)
  intro L' h' F' N' l1
  k_lt l1
  (try dsimp only)
  k_unmd
  k_fold
  k_steps
  all_goals (try (refine ofStop ?_; (with_reducible show wpAny _ _ (call (Value.ref 56) _) _ _ _); k_dflt (refine wpAny_call ?_; refine' i2d_warm1 ?z3_X ?z3_T ?z3_C ?z3_d ?z3_h51 ?z3_hc ?z3_n1 ?z3_n2 ?z3_bi ?z3_k ?z3_a0 ?_; (case z3_X => exact Frag.In.keeps (by k_asm) (base_hide (P := 51) (by k_asm) (News.fresh (by k_asm) (by k_mem)))); (case z3_T => exact Top.keeps (by k_asm) (base_hide (P := 51) (by k_asm) (News.fresh (by k_asm) (by k_mem)))); (case z3_C => exact CodeHd.keeps (by assumption) (base_hide (P := 51) (by k_asm) (News.fresh (by k_asm) (by k_mem)))); (case z3_d => k_room); (case z3_h51 => exact News.get (by k_asm) (by k_mem)); (case z3_hc => exact PySem.Heap.CodeRec.keeps (by assumption) (base_hide (P := 51) (by k_asm) (News.fresh (by k_asm) (by k_mem)))); (case z3_n1 => omega); (case z3_n2 => omega); (case z3_bi => assumption); (case z3_k => assumption); (case z3_a0 => first | assumption | omega); k_whole); intro D' n9' t0' h' tk' x' f' g'; obtain ⟨F', N', l1⟩ := after1 (by k_asm) (by k_asm) x' f' g'; (try simp only [AllNe, and_true] at l1); clear x' f' g'; (try k_sweep); (try dsimp only); k_steps))
  all_goals (try (refine ofStop ?_; (with_reducible show wpAny _ _ (call (Value.ref 42) _) _ _ _); k_dflt (refine wpAny_call ?_; refine' div2n1n_ok ?y1_X ?y1_T ?y1_d ?y1_q ?y1_r ?y1_b ?y1_s ?y1_p ?_; (case y1_X => k_in); (case y1_T => exact Top.keeps (by k_asm) (Fr.keep (by k_asm))); (case y1_d => k_room); (case y1_q => assumption); (case y1_r => assumption); (case y1_b => omega); (case y1_s => assumption); (case y1_p => exact PyProof.noPylong_small (by omega)); k_whole); intro D' t1' t2' h' tk' x' f' g'; obtain ⟨F', N', l1⟩ := after1 (by k_asm) (by k_asm) x' f' g'; (try simp only [AllNe, and_true] at l1); clear x' f' g'; (try k_sweep); (try dsimp only); k_steps))
  all_goals (try (refine ofStop ?_; (with_reducible show wpAny _ _ (call (Value.ref 63) _) _ _ _); k_dflt (refine wpAny_call ?_; refine' d2i_warm1 ?z4_X ?z4_T ?z4_C ?z4_d ?z4_h58 ?z4_hc ?z4_dg ?z4_n1 ?z4_n2 ?_; (case z4_X => exact Frag.In.keeps (by k_asm) (base_hide (P := 58) (by k_asm) (News.fresh (by k_asm) (by k_mem)))); (case z4_T => exact Top.keeps (by k_asm) (base_hide (P := 58) (by k_asm) (News.fresh (by k_asm) (by k_mem)))); (case z4_C => exact CodeHd.keeps (by assumption) (base_hide (P := 58) (by k_asm) (News.fresh (by k_asm) (by k_mem)))); (case z4_d => k_room); (case z4_h58 => exact News.get (by k_asm) (by k_mem)); (case z4_hc => exact PySem.Heap.CodeRec.keeps (by assumption) (base_hide (P := 58) (by k_asm) (News.fresh (by k_asm) (by k_mem)))); (case z4_dg => exact list_hide (by k_asm) (by k_mem) (by k_ne)); (case z4_n1 => omega); (case z4_n2 => omega); k_whole); intro t9' h' tk' x'; obtain ⟨F', N'⟩ := after0 (by k_asm) (by k_asm) x'; clear x'; (try k_sweep); (try dsimp only); k_steps))
  all_goals (try dsimp only)
  all_goals (try show R (.ok (.ret (.ref _))) _)
  all_goals first
    | (rename Fr _ _ _ _ => F9
       rename News _ _ _ _ => N9
       refine' hR _ _ _ _ _ ?ce ?cf ?cg
       (case cg => exact News.get N9 (by k_mem))
       (case ce => exact ext_two F9 h58 h51 (News.get N9 (by k_mem)) (News.get N9 (by k_mem)))
       (case cf => exact fresh_two (News.fresh N9 (by k_mem)) (by k_ne) (by k_ne)))
    | fail "end"
set_option maxHeartbeats 8000000 in
theorem dp_warm2 {w : World} {p : Program} {loose : List Str} {mean : ExcName → Option Value} {mg mb : Str → Option Value} {dp un : Nat} {fr : Option (List Env)} {gd : Option (List Code)} {s0 : Shared} {R : Result → Shared → Prop}
    (X : (hd.heap_1 w.params).In (hideAll s0.heap [58, 51])) (T : Top p loose mean mg mb (hideAll s0.heap [58, 51])) (C51 : CodeHd (hideAll s0.heap [58, 51]) 55 51) (C58 : CodeHd (hideAll s0.heap [58, 51]) 62 58) (hdp : dp + 20 < recursionLimit)
    {c51 c58 : Addr} (h51 : s0.heap.get? 51 = some (tabObj #[rawInt 96, rawInt 4, .ref c51])) (h58 : s0.heap.get? 58 = some (tabObj #[rawInt 111, rawInt 4, .ref c58])) (hc51 : (hideAll s0.heap [58, 51]).CodeRec (.ref c51) (PySem.Str.ofString "_int2digits" ++ PySem.Str.ofString ".<locals>." ++ PySem.Str.ofString "inner")) (hc58 : (hideAll s0.heap [58, 51]).CodeRec (.ref c58) (PySem.Str.ofString "_digits2int" ++ PySem.Str.ofString ".<locals>." ++ PySem.Str.ofString "inner"))
    {a b n hi hs lo q1 r1 rs m2 q0 r0 e1 : Int} {tb : Tok} {ta : Tok} (hbn : ((Builtin.Int.intBits b : Nat) : Int) = n) (hb0 : 0 < b) (hb1 : b < 1000000) (hn : 1 ≤ n) (hn2 : n ≤ 64) (hbi : Builtin.Int.intBits a ≤ 64) (hk : (((Builtin.Int.intBits a : Nat) : Int) + n - 1).fdiv n = 2)
    (ha : a ≠ 0) (z0 : (0 : Int) * 2 ^ n.toNat = 0) (z1 : 0 + hi = hi) (f1 : (1 - 0) * n = n) (f2 : a.fdiv (2 ^ n.toNat) = hi) (f3 : hi * 2 ^ n.toNat = hs) (f4 : Builtin.bitXor a hs = lo) (hi0 : 0 ≤ hi) (hi1 : hi < 2 ^ 60)
      (g1 : hi.fdiv b = q1) (g2 : hi.fmod b = r1) (b1 : ((Builtin.Int.intBits hi : Nat) : Int) - n ≤ 4000) (g3 : r1 * 2 ^ n.toNat = rs) (hr1 : r1.natAbs < 2 ^ 64) (g4 : rs + lo = m2) (g5 : m2.fdiv b = q0) (g6 : m2.fmod b = r0) (b2 : ((Builtin.Int.intBits m2 : Nat) : Int) - n ≤ 4000) (g7 : q1 * 2 ^ n.toNat = e1) (hq1 : q1.natAbs < 2 ^ 64)
    (hR : ∀ D t1 t2 h' tk, Ext s0.heap h' → s0.heap.get? D = none → h'.get? D = some (tupO [.int (e1 + q0) t1, .int r0 t2]) → R (.ok (.ret (.ref D))) { s0 with heap := h', toks := tk }) :
    codeAny (model PR w) (Ar dp un fr gd) (.call (.ref 70) ⟨[.int a ta, .int b tb], []⟩) R s0 := by
  unfold PR; revert X; k_fill; intro X
  refine' enterP (as := [58, 51]) (news := [(58, tabObj #[rawInt 111, rawInt 4, .ref c58]), (51, tabObj #[rawInt 96, rawInt 4, .ref c51])]) rfl ?hN X T ?k6 ?k7 ?k8 ?k9 ?kB ?_ ?c2 ?c3 ?c4 ?c5
  (case hN => intro q hq; rcases List.mem_cons.mp hq with rfl | hq; exact h58; rw [List.mem_singleton.mp hq]; exact h51)
  (case k6 => k_is)
  (case k7 => k_is)
  (case k8 => k_room)
  (case k9 => exact BindsTo.of_eq rfl)
  (case kB => exact locs rfl)
  (case c2 => exact rfl)
  (case c3 => exact rfl)
  (case c4 => exact rfl)
  (case c5 => decide)
  intro L' h' F' N' l1
  k_lt l1
  (try dsimp only)
  k_unmd
  k_fold
  k_steps
  all_goals (try (refine ofStop ?_; (with_reducible show wpAny _ _ (call (Value.ref 56) _) _ _ _); k_dflt (refine wpAny_call ?_; refine' i2d_warm2 ?z5_X ?z5_T ?z5_C ?z5_d ?z5_h51 ?z5_hc ?z5_n1 ?z5_n2 ?z5_bi ?z5_k ?z5_a0 ?z5_f1 ?z5_f2 ?z5_f3 ?z5_f4 ?z5_i0 ?z5_i1 ?_; (case z5_X => exact Frag.In.keeps (by k_asm) (base_hide (P := 51) (by k_asm) (News.fresh (by k_asm) (by k_mem)))); (case z5_T => exact Top.keeps (by k_asm) (base_hide (P := 51) (by k_asm) (News.fresh (by k_asm) (by k_mem)))); (case z5_C => exact CodeHd.keeps (by assumption) (base_hide (P := 51) (by k_asm) (News.fresh (by k_asm) (by k_mem)))); (case z5_d => k_room); (case z5_h51 => exact News.get (by k_asm) (by k_mem)); (case z5_hc => exact PySem.Heap.CodeRec.keeps (by assumption) (base_hide (P := 51) (by k_asm) (News.fresh (by k_asm) (by k_mem)))); (case z5_n1 => omega); (case z5_n2 => omega); (case z5_bi => assumption); (case z5_k => assumption); (case z5_a0 => first | assumption | omega); (case z5_f1 => assumption); (case z5_f2 => assumption); (case z5_f3 => assumption); (case z5_f4 => assumption); (case z5_i0 => omega); (case z5_i1 => omega); k_whole); intro D' n9' t0' t1' h' tk' x' f' g'; obtain ⟨F', N', l1⟩ := after1 (by k_asm) (by k_asm) x' f' g'; (try simp only [AllNe, and_true] at l1); clear x' f' g'; (try k_sweep); (try dsimp only); k_steps))
  all_goals (try (refine ofStop ?_; (with_reducible show wpAny _ _ (call (Value.ref 42) _) _ _ _); k_dflt (refine wpAny_call ?_; refine' div2n1n_ok ?y2_X ?y2_T ?y2_d ?y2_q ?y2_r ?y2_b ?y2_s ?y2_p ?_; (case y2_X => k_in); (case y2_T => exact Top.keeps (by k_asm) (Fr.keep (by k_asm))); (case y2_d => k_room); (case y2_q => assumption); (case y2_r => assumption); (case y2_b => omega); (case y2_s => assumption); (case y2_p => exact PyProof.noPylong_small (by omega)); k_whole); intro D' t1' t2' h' tk' x' f' g'; obtain ⟨F', N', l1⟩ := after1 (by k_asm) (by k_asm) x' f' g'; (try simp only [AllNe, and_true] at l1); clear x' f' g'; (try k_sweep); (try dsimp only); k_steps))
  all_goals (try (refine ofStop ?_; (with_reducible show wpAny _ _ (call (Value.ref 42) _) _ _ _); k_dflt (refine wpAny_call ?_; refine' div2n1n_ok ?y3_X ?y3_T ?y3_d ?y3_q ?y3_r ?y3_b ?y3_s ?y3_p ?_; (case y3_X => k_in); (case y3_T => exact Top.keeps (by k_asm) (Fr.keep (by k_asm))); (case y3_d => k_room); (case y3_q => assumption); (case y3_r => assumption); (case y3_b => omega); (case y3_s => assumption); (case y3_p => exact PyProof.noPylong_small (by omega)); k_whole); intro D' t1' t2' h' tk' x' f' g'; obtain ⟨F', N', l1⟩ := after1 (by k_asm) (by k_asm) x' f' g'; (try simp only [AllNe, and_true] at l1); clear x' f' g'; (try k_sweep); (try dsimp only); k_steps))
  all_goals (try (refine ofStop ?_; (with_reducible show wpAny _ _ (call (Value.ref 63) _) _ _ _); k_dflt (refine wpAny_call ?_; refine' d2i_warm2 ?z6_X ?z6_T ?z6_C ?z6_d ?z6_h58 ?z6_hc ?z6_dg ?z6_n1 ?z6_n2 ?z6_f1 ?z6_f2 ?z6_i0 ?_; (case z6_X => exact Frag.In.keeps (by k_asm) (base_hide (P := 58) (by k_asm) (News.fresh (by k_asm) (by k_mem)))); (case z6_T => exact Top.keeps (by k_asm) (base_hide (P := 58) (by k_asm) (News.fresh (by k_asm) (by k_mem)))); (case z6_C => exact CodeHd.keeps (by assumption) (base_hide (P := 58) (by k_asm) (News.fresh (by k_asm) (by k_mem)))); (case z6_d => k_room); (case z6_h58 => exact News.get (by k_asm) (by k_mem)); (case z6_hc => exact PySem.Heap.CodeRec.keeps (by assumption) (base_hide (P := 58) (by k_asm) (News.fresh (by k_asm) (by k_mem)))); (case z6_dg => exact list_hide (by k_asm) (by k_mem) (by k_ne)); (case z6_n1 => omega); (case z6_n2 => omega); (case z6_f1 => assumption); (case z6_f2 => assumption); (case z6_i0 => assumption); k_whole); intro t9' h' tk' x'; obtain ⟨F', N'⟩ := after0 (by k_asm) (by k_asm) x'; clear x'; (try k_sweep); (try dsimp only); k_steps))
  all_goals (try dsimp only)
  all_goals (try show R (.ok (.ret (.ref _))) _)
  all_goals first
    | (rename Fr _ _ _ _ => F9
       rename News _ _ _ _ => N9
       refine' hR _ _ _ _ _ ?ce ?cf ?cg
       (case cg => exact News.get N9 (by k_mem))
       (case ce => exact ext_two F9 h58 h51 (News.get N9 (by k_mem)) (News.get N9 (by k_mem)))
       (case cf => exact fresh_two (News.fresh N9 (by k_mem)) (by k_ne) (by k_ne)))
    | fail "end"
end
section
abbrev QI : Str := PySem.Str.ofString "_int2digits" ++ PySem.Str.ofString ".<locals>." ++ PySem.Str.ofString "inner"
abbrev QD : Str := PySem.Str.ofString "_digits2int" ++ PySem.Str.ofString ".<locals>." ++ PySem.Str.ofString "inner"
abbrev T51 (c : Addr) : Obj := tabObj #[rawInt 96, rawInt 4, .ref c]
abbrev T58 (c : Addr) : Obj := tabObj #[rawInt 111, rawInt 4, .ref c]
def Filled (h : Heap) : Prop := ∃ c51 c58, h.get? 51 = some (T51 c51) ∧ h.get? 58 = some (T58 c58) ∧ h.CodeRec (.ref c51) QI ∧ h.CodeRec (.ref c58) QD

/-- what the call finds in the heap and leaves as it is -/
structure Gd (w : World) (p : Program) (loose : List Str) (mean : ExcName → Option Value) (mg mb : Str → Option Value) (H : Heap) : Prop where
  X : (hd.heap_1 w.params).In H
  T : Top p loose mean mg mb H
  C51 : CodeHd H 55 51
  C58 : CodeHd H 62 58
  n51 : H.get? 51 = none
  n58 : H.get? 58 = none
theorem Filled.ext {h h' : Heap} (x : Filled h) (k : Ext h h') : Filled h' := by
  obtain ⟨a, b, h1, h2, h3, h4⟩ := x
  exact ⟨a, b, k _ _ h1, k _ _ h2, h3.keeps k, h4.keeps k⟩
theorem Gd.hide {w : World} {p : Program} {loose : List Str} {mean : ExcName → Option Value} {mg mb : Str → Option Value} {H h : Heap} (g : Gd w p loose mean mg mb H) (k : Ext H h) : Ext H (hideAll h [58, 51]) := fun b o e =>
  hideAll_get _ (k b o e) (by
    intro hm
    rcases List.mem_cons.mp hm with rfl | hm
    · rw [g.n58] at e; cases e
    · rw [List.mem_singleton.mp hm, g.n51] at e; cases e)
theorem code_ne {h : Heap} {c P : Addr} {q : Str} {a b : Int} {v : Value} (x : h.CodeRec (.ref c) q) (e : h.get? P = some (tabObj #[rawInt a, rawInt b, v])) : c ≠ P := by
  rintro rfl
  obtain ⟨c', o, vs, t, e1, e2, e3, e4⟩ := x
  cases e1
  rw [e] at e2
  cases e2
  cases e3
  cases e4
theorem code_hide {h : Heap} {c : Addr} {q : Str} (x : h.CodeRec (.ref c) q) (h1 : c ≠ 51) (h2 : c ≠ 58) : (hideAll h [58, 51]).CodeRec (.ref c) q := by
  obtain ⟨c', o, vs, t, e1, e2, e3, e4⟩ := x
  cases e1
  exact ⟨c, o, vs, t, rfl, hideAll_get _ e2 (by simp [h1, h2]), e3, e4⟩

def dmChk (b n : Int) (x : Nat) : Bool :=
  let a : Int := x
  let p : Int := 2 ^ n.toNat
  let hi := a.fdiv p
  let hs := hi * p
  let lo := Builtin.bitXor a hs
  let q1 := hi.fdiv b
  let r1 := hi.fmod b
  let m2 := r1 * p + lo
  decide (((Builtin.Int.intBits b : Nat) : Int) = n) && decide (Builtin.Int.intBits a ≤ 64) && decide ((((Builtin.Int.intBits a : Nat) : Int) + n - 1).fdiv n = if x = 0 then 0 else if a < p then 1 else 2) &&
  decide (((Builtin.Int.intBits a : Nat) : Int) - n ≤ 4000) && decide (0 ≤ hi) && decide (hi < 256) && decide (((Builtin.Int.intBits hi : Nat) : Int) - n ≤ 4000) && decide (((Builtin.Int.intBits m2 : Nat) : Int) - n ≤ 4000) && decide (r1.natAbs < 256) && decide (q1.natAbs < 256) &&
  decide (q1 * p + m2.fdiv b = a.fdiv b) && decide (m2.fmod b = a.fmod b)
theorem dmChk_8 : ∀ x : Fin 256, dmChk 8 4 x.val = true := by decide +kernel
theorem dmChk_16 : ∀ x : Fin 256, dmChk 16 5 x.val = true := by decide +kernel

theorem dm_fact {b : Int} {x : Nat} (hb : b = 8 ∨ b = 16) (hx : x < 256) : ∃ n : Int, 1 ≤ n ∧ n ≤ 64 ∧ dmChk b n x = true := by
  rcases hb with rfl | rfl
  · exact ⟨4, by decide, by decide, dmChk_8 ⟨x, hx⟩⟩
  · exact ⟨5, by decide, by decide, dmChk_16 ⟨x, hx⟩⟩

section
variable {w : World} {p : Program} {loose : List Str} {mean : ExcName → Option Value} {mg mb : Str → Option Value} {dp un : Nat} {fr : Option (List Env)} {gd : Option (List Code)} {s0 : Shared} {R : Result → Shared → Prop} {H : Heap}

theorem dpos_warm (G : Gd w p loose mean mg mb H) (k : Ext H s0.heap) (W : Filled s0.heap) (hdp : dp + 20 < recursionLimit) {b : Int} {x : Nat} {ta tb : Tok} (hb : b = 8 ∨ b = 16) (hx : x < 256)
    (hR : ∀ D t1 t2 h' tk, Ext s0.heap h' → s0.heap.get? D = none → h'.get? D = some (tupO [.int ((x : Int).fdiv b) t1, .int ((x : Int).fmod b) t2]) → R (.ok (.ret (.ref D))) { s0 with heap := h', toks := tk }) :
    codeAny (model PR w) (Ar dp un fr gd) (.call (.ref 70) ⟨[.int (x : Int) ta, .int b tb], []⟩) R s0 := by
  obtain ⟨n, hn, hn2, hc⟩ := dm_fact hb hx
  have kg := G.hide k
  obtain ⟨c51, c58, h51, h58, r51, r58⟩ := W
  have q51 := code_hide r51 (code_ne r51 h51) (code_ne r51 h58)
  have q58 := code_hide r58 (code_ne r58 h51) (code_ne r58 h58)
  simp only [dmChk, Bool.and_eq_true, decide_eq_true_eq] at hc
  obtain ⟨⟨⟨⟨⟨⟨⟨⟨⟨⟨⟨f1, f2⟩, f3⟩, f4⟩, f5⟩, f6⟩, f7⟩, f8⟩, f9⟩, f10⟩, f11⟩, f12⟩ := hc
  have b0 : 0 < b := by omega
  have b1 : b < 1000000 := by omega
  by_cases h0 : x = 0
  · subst h0
    rw [if_pos rfl] at f3
    refine dp_warm0 (G.X.keeps kg) (G.T.keeps kg) (G.C51.keeps kg) (G.C58.keeps kg) hdp h51 h58 q51 q58 f1 b0 b1 hn hn2 f2 f3 (fun D t1 t2 h' tk e1 e2 e3 => hR D t1 t2 h' tk e1 e2 ?_)
    have z1 : (((0 : Nat) : Int).fdiv b) = 0 := Int.zero_fdiv b
    have z2 : (((0 : Nat) : Int).fmod b) = 0 := Int.zero_fmod b
    rw [z1, z2]; exact e3
  · rw [if_neg h0] at f3
    by_cases h1 : (x : Int) < 2 ^ n.toNat
    · rw [if_pos h1] at f3
      exact dp_warm1 (G.X.keeps kg) (G.T.keeps kg) (G.C51.keeps kg) (G.C58.keeps kg) hdp h51 h58 q51 q58 f1 b0 b1 hn hn2 f2 f3 (by omega) (Int.zero_mul _) (Int.zero_add _) rfl rfl f4 hR
    · rw [if_neg h1] at f3
      refine dp_warm2 (G.X.keeps kg) (G.T.keeps kg) (G.C51.keeps kg) (G.C58.keeps kg) hdp h51 h58 q51 q58 f1 b0 b1 hn hn2 f2 f3 (by omega) (Int.zero_mul _) (Int.zero_add _) (by omega) rfl rfl rfl f5 (by omega) rfl rfl f7 rfl (by omega) rfl rfl rfl f8 rfl (by omega) (fun D t1 t2 h' tk e1 e2 e3 => hR D t1 t2 h' tk e1 e2 ?_)
      rw [f11, f12] at e3; exact e3
theorem dpos_cold (G : Gd w p loose mean mg mb H) (k : Ext H s0.heap) (h51 : s0.heap.get? 51 = some (tabObj #[])) (h58 : s0.heap.get? 58 = some (tabObj #[])) (hdp : dp + 20 < recursionLimit) {b : Int} {x : Nat} {ta tb : Tok} (hb : b = 8 ∨ b = 16) (hx : x < 16)
    (hR : ∀ D t1 t2 h' tk c51 o51 v51 q51 c58 o58 v58 q58, (∀ b o, b ≠ 51 → b ≠ 58 → s0.heap.get? b = some o → h'.get? b = some o) → h'.get? 51 = some (T51 c51) → h'.get? 58 = some (T58 c58) →
      h'.get? c51 = some o51 → o51.data = .fields v51 → v51[1]? = some (.str QI q51) → h'.get? c58 = some o58 → o58.data = .fields v58 → v58[1]? = some (.str QD q58) → s0.heap.get? c51 = none → s0.heap.get? c58 = none → s0.heap.get? D = none → D ≠ c51 → D ≠ c58 → c51 ≠ c58 →
      h'.get? D = some (tupO [.int ((x : Int).fdiv b) t1, .int ((x : Int).fmod b) t2]) → R (.ok (.ret (.ref D))) { s0 with heap := h', toks := tk }) :
    codeAny (model PR w) (Ar dp un fr gd) (.call (.ref 70) ⟨[.int (x : Int) ta, .int b tb], []⟩) R s0 := by
  obtain ⟨n, hn, hn2, hc⟩ := dm_fact hb (x := x) (by omega)
  have h1 : (x : Int) < 2 ^ n.toNat ∨ True := .inr trivial
  have kg := G.hide k
  simp only [dmChk, Bool.and_eq_true, decide_eq_true_eq] at hc
  obtain ⟨⟨⟨⟨⟨⟨⟨⟨⟨⟨⟨f1, f2⟩, f3⟩, f4⟩, f5⟩, f6⟩, f7⟩, f8⟩, f9⟩, f10⟩, f11⟩, f12⟩ := hc
  have b0 : 0 < b := by omega
  have b1 : b < 1000000 := by omega
  have hn4 : 4 ≤ n := by
    rcases hb with rfl | rfl
    · have e : Builtin.Int.intBits 8 = 4 := by decide
      rw [e] at f1; omega
    · have e : Builtin.Int.intBits 16 = 5 := by decide
      rw [e] at f1; omega
  by_cases h0 : x = 0
  · subst h0
    rw [if_pos rfl] at f3
    refine dp_cold0 (G.X.keeps kg) (G.T.keeps kg) (G.C51.keeps kg) (G.C58.keeps kg) hdp h51 h58 f1 b0 b1 hn hn2 f2 f3 (fun D t1 t2 h' tk c51 o51 v51 q51 c58 o58 v58 q58 e1 e2 e3 e4 e5 e6 e7 e8 e9 e10 e11 e12 e13 e14 e15 e16 => hR D t1 t2 h' tk c51 o51 v51 q51 c58 o58 v58 q58 e1 e2 e3 e4 e5 e6 e7 e8 e9 e10 e11 e12 e13 e14 e15 ?_)
    have z1 : (((0 : Nat) : Int).fdiv b) = 0 := Int.zero_fdiv b
    have z2 : (((0 : Nat) : Int).fmod b) = 0 := Int.zero_fmod b
    rw [z1, z2]; exact e16
  · rw [if_neg h0] at f3
    have h1 : (x : Int) < 2 ^ n.toNat := by
      have : (2 : Int) ^ 4 ≤ 2 ^ n.toNat := by
        have := Nat.pow_le_pow_right (n := 2) (by decide) (show 4 ≤ n.toNat by omega)
        have h2 := Int.ofNat_le.mpr this
        rw [Int.natCast_pow, Int.natCast_pow] at h2
        exact h2
      omega
    rw [if_pos h1] at f3
    exact dp_cold1 (G.X.keeps kg) (G.T.keeps kg) (G.C51.keeps kg) (G.C58.keeps kg) hdp h51 h58 f1 b0 b1 hn hn2 f2 f3 (by omega) (Int.zero_mul _) (Int.zero_add _) rfl rfl f4 hR
end
end
section
section
variable {prog : Program} {w : World} {A : Around} {E : Value → Shared → Prop} {s : Shared} {h₀ : Heap} {L : Addr} {m : Str → Option Value} {news : List (Addr × Obj)}
theorem list_keep {l : Addr} {its : Array Value} {h : Heap} (F : Fr h₀ L h m) (x : h₀.IsList l its) : h.IsList l its := stays_list F.keep x
theorem len_ints {l : Addr} {vs : List Value} {ns : List Int} {Q : Value → Shared → Prop} (hl : s.heap.IsList l vs.toArray) (hi : IntsAre vs ns) (hz : ns.length ≤ 1000) (h : Q (.int (ns.length : Int) (s.toks + 1)) { s with toks := s.toks + 1 + 1 }) :
    wpAny (model prog w) A (call (.builtin "len") [.ref l]) Q E s := by
  have e : (vs.toArray.size : Int) = ns.length := by simp [hi.length]
  refine len_list hl ?_ ?_
  · omega
  · rw [e]; exact h
theorem item_ints {value slice : Expr} {l : Addr} {vs : List Value} {ns : List Int} {k : Int} {u : Tok} {Q : Value → Shared → Prop} (hl : s.heap.IsList l vs.toArray) (hi : IntsAre vs ns) (hz : ns.length ≤ 1000) (h0 : 0 ≤ k) (hk : k < ns.length) (h : ∀ t, Q (.int (ns.getD k.toNat 0) t) s)
    (hs : subscripted slice false (.ref l) (.int k u) = operate [.ref l, .int k u] (getItem (.ref l) (.int k u))) (hg : ∀ r, letTemporaryGo value (.ref l) r = pure ()) :
    wpAny (model prog w) A (subscriptTail value slice (.ref l) (.int k u)) Q E s := by
  have el := hi.length
  obtain ⟨v, hv⟩ : ∃ v, vs[k.toNat]? = some v := ⟨vs[k.toNat]'(by omega), by rw [List.getElem?_eq_getElem]⟩
  obtain ⟨t, rfl⟩ := hi.int_at _ _ hv
  exact item_known hl h0 (by omega) (by simpa using hv) (h t) hs hg
end
section
variable {prog : Program} {w : World} {A : Around} {E : Value → Shared → Prop} {s : Shared}
theorem len_one {l : Addr} {v : Value} {Q : Value → Shared → Prop} (hl : s.heap.IsList l #[v]) (h : Q (.int 1 (s.toks + 1)) { s with toks := s.toks + 1 + 1 }) :
    wpAny (model prog w) A (call (.builtin "len") [.ref l]) Q E s := len_list hl (by show ((1 : Nat) : Int) < 2 ^ 63; decide) h
theorem item_one {value slice : Expr} {l : Addr} {v : Value} {k : Int} {u : Tok} {Q : Value → Shared → Prop} (hl : s.heap.IsList l #[v]) (h0 : k = 0) (h : Q v s)
    (hs : subscripted slice false (.ref l) (.int k u) = operate [.ref l, .int k u] (getItem (.ref l) (.int k u))) (hg : ∀ r, letTemporaryGo value (.ref l) r = pure ()) :
    wpAny (model prog w) A (subscriptTail value slice (.ref l) (.int k u)) Q E s :=
  item_known hl (by omega) (by omega) (by subst h0; rfl) h hs hg
end
section
variable {prog : Program} {w : World} {A : Around} {E : Value → Shared → Prop} {s : Shared}
theorem item_two {value slice : Expr} {l : Addr} {vs : List Value} {ns : List Int} {k ans : Int} {u : Tok} {Q : Value → Shared → Prop} {P : Int → Prop} (hl : s.heap.IsList l vs.toArray) (hi : IntsAre vs ns) (hz : ns.length ≤ 1000) (h0 : 0 ≤ k) (hk : k < ns.length)
    (p1 : ∀ i : Int, 0 ≤ i → i < ans → ¬ P (ns.getD i.toNat 0)) (p2 : ∀ i : Int, ans ≤ i → i < ns.length → P (ns.getD i.toNat 0))
    (h1 : ∀ t z, k < ans → ¬ P z → Q (.int z t) s) (h2 : ∀ t z, ans ≤ k → P z → Q (.int z t) s)
    (hs : subscripted slice false (.ref l) (.int k u) = operate [.ref l, .int k u] (getItem (.ref l) (.int k u))) (hg : ∀ r, letTemporaryGo value (.ref l) r = pure ()) :
    wpAny (model prog w) A (subscriptTail value slice (.ref l) (.int k u)) Q E s := by
  refine item_ints hl hi hz h0 hk (fun t => ?_) hs hg
  by_cases q : k < ans
  · exact h1 t _ q (p1 k h0 q)
  · exact h2 t _ (by omega) (p2 k (by omega) hk)
end
section
variable {prog : Program} {w : World} {A : Around} {E : Value → Shared → Prop} {s : Shared}
theorem item_right {value slice : Expr} {l : Addr} {vs : List Value} {ns : List Int} {k ans x : Int} {u : Tok} {Q : Value → Shared → Prop} (hl : s.heap.IsList l vs.toArray) (hi : IntsAre vs ns) (hz : ns.length ≤ 1000) (h0 : 0 ≤ k) (hk : k < ns.length)
    (p1 : ∀ i : Int, 0 ≤ i → i < ans → ¬ x < ns.getD i.toNat 0) (p2 : ∀ i : Int, ans ≤ i → i < ns.length → x < ns.getD i.toNat 0)
    (h1 : ∀ t z, k < ans → ¬ x < z → Q (.int z t) s) (h2 : ∀ t z, ans ≤ k → x < z → Q (.int z t) s)
    (hs : subscripted slice false (.ref l) (.int k u) = operate [.ref l, .int k u] (getItem (.ref l) (.int k u))) (hg : ∀ r, letTemporaryGo value (.ref l) r = pure ()) :
    wpAny (model prog w) A (subscriptTail value slice (.ref l) (.int k u)) Q E s := item_two (P := fun z => x < z) hl hi hz h0 hk p1 p2 h1 h2 hs hg
theorem item_left {value slice : Expr} {l : Addr} {vs : List Value} {ns : List Int} {k ans x : Int} {u : Tok} {Q : Value → Shared → Prop} (hl : s.heap.IsList l vs.toArray) (hi : IntsAre vs ns) (hz : ns.length ≤ 1000) (h0 : 0 ≤ k) (hk : k < ns.length)
    (p1 : ∀ i : Int, 0 ≤ i → i < ans → ns.getD i.toNat 0 < x) (p2 : ∀ i : Int, ans ≤ i → i < ns.length → ¬ ns.getD i.toNat 0 < x)
    (h1 : ∀ t z, k < ans → z < x → Q (.int z t) s) (h2 : ∀ t z, ans ≤ k → ¬ z < x → Q (.int z t) s)
    (hs : subscripted slice false (.ref l) (.int k u) = operate [.ref l, .int k u] (getItem (.ref l) (.int k u))) (hg : ∀ r, letTemporaryGo value (.ref l) r = pure ()) :
    wpAny (model prog w) A (subscriptTail value slice (.ref l) (.int k u)) Q E s := item_two (P := fun z => ¬ z < x) hl hi hz h0 hk (fun i a b c => c (p1 i a b)) p2 (fun t z a b => h1 t z a (Decidable.not_not.mp b)) h2 hs hg
end
end
section
theorem rs11 : True := by
  w_top off
  exact trivial
def mc9 : Lean.MacroM Lean.Syntax := `(tactic| (k_here; refine fdiv_known (by omega) (Int.fdiv_eq_ediv_of_nonneg _ (by decide)) (PyProof.noPylong_small (by omega)) ?_))
local macro_rules | `(tactic| walk_at "binaryOp FloorDiv int int") => mc9
local macro_rules | `(tactic| walk_at "call builtin:len") => `(tactic| refine Stop.mk ?_)
local macro_rules | `(tactic| walk_at "subscriptTail") => `(tactic| refine Stop.mk ?_)
local macro_rules | `(tactic| walk_at "compareOp Lt float float") => `(tactic| refine cmpLt_is (by assumption) (by assumption) ?_)
set_option maxHeartbeats 8000000 in
theorem bisr_float {w : World} {p : Program} {loose : List Str} {mean : ExcName → Option Value} {mg mb : Str → Option Value} {dp un : Nat} {fr : Option (List Env)} {gd : Option (List Code)} {s0 : Shared} {R : Result → Shared → Prop} {H : Heap}
    (G : Gd w p loose mean mg mb H) (k : Ext H s0.heap) (hdp : dp + 10 < recursionLimit)
    {l : Addr} {y x : UInt64} {ty tx : Tok} {j i : Int} (hl : s0.heap.IsList l #[.float y ty]) (hy : Is y j) (hx : Is x i)
    (hR : ∀ t h' tk, Ext s0.heap h' → R (.ok (.ret (.int (if i < j then 0 else 1) t))) { s0 with heap := h', toks := tk }) :
    codeAny (model PR w) (Ar dp un fr gd) (.call (.ref 86) ⟨[.ref l, .float x tx], []⟩) R s0 := by
  obtain ⟨ans, ea⟩ : ∃ ans : Int, ans = if i < j then 0 else 1 := ⟨_, rfl⟩
  have e0 : i < j → ans = 0 := fun q => by rw [ea, if_pos q]
  have e1 : ¬ i < j → ans = 1 := fun q => by rw [ea, if_neg q]
  rw [← ea] at hR
  clear ea
  have X := G.X.keeps k
  have T := G.T.keeps k
  unfold PR; revert X; k_fill; intro X
  refine' enter_ok X T ?k6 ?k7 ?k8 ?k9 ?kB ?_ ?c2 ?c3 ?c4 ?c5
  (case k6 => k_is)
  (case k7 => k_is)
  (case k8 => k_room)
  (case k9 => exact kp_binds X (fun _ => rfl))
  (case kB => exact locs rfl)
  (case c2 => exact rfl)
  (case c3 => exact rfl)
  (case c4 => exact rfl)
  (case c5 => decide)
  intro L h₁ F N
  (try dsimp only)
  k_unmd
  k_fold
  (k_with "exec While Compare cons nil" => k_while (fun _ lo hi => (lo = 0 ∧ hi = 1) ∨ (lo = hi ∧ lo = ans)) (fun _ lo hi => (hi - lo).toNat) "lo" "hi")
  k_steps
  all_goals (try (refine ofStop ?_; (with_reducible show wpAny _ _ (call (Value.builtin "len") [Value.ref _]) _ _ _); k_dflt (refine' len_one ?z1_a ?_; (case z1_a => exact list_keep (by k_asm) (by assumption)); k_whole); k_steps))
  all_goals (try (refine ofStop ?_; (with_reducible show wpAny _ _ (subscriptTail _ _ (Value.ref _) (Value.int _ _)) _ _ _); k_dflt (refine' item_one ?z2_a ?z2_c ?_ ?z2_ks ?z2_kg; (case z2_a => exact list_keep (by k_asm) (by assumption)); (case z2_c => omega); (case z2_ks => with_unfolding_all rfl); (case z2_kg => intro _; with_unfolding_all rfl); k_whole); k_steps))
  all_goals first
    | (exfalso; omega)
    | (show R (.ok (.ret (.int _ _))) _
       rename Fr _ _ _ _ => F9
       refine' cast (congrArg (fun z => R (.ok (.ret (.int z _))) _) ?ce) (hR _ _ _ F9.keep)
       (case ce => (try split) <;> omega))
end
section
theorem rs12 : True := by
  w_top off
  exact trivial
local macro_rules | `(tactic| walk_at "binaryOp FloorDiv int int") => mc9
local macro_rules | `(tactic| walk_at "call builtin:len") => `(tactic| refine Stop.mk ?_)
local macro_rules | `(tactic| walk_at "subscriptTail Name Name ref int") => `(tactic| refine Stop.mk ?_)
set_option maxHeartbeats 8000000 in
theorem bisr_int {w : World} {p : Program} {loose : List Str} {mean : ExcName → Option Value} {mg mb : Str → Option Value} {dp un : Nat} {fr : Option (List Env)} {gd : Option (List Code)} {s0 : Shared} {R : Result → Shared → Prop} {H : Heap}
    (G : Gd w p loose mean mg mb H) (k : Ext H s0.heap) (hdp : dp + 10 < recursionLimit)
    {l : Addr} {x : Int} {tx : Tok} {vs : List Value} {ns : List Int} {ans : Int} (hl : s0.heap.IsList l vs.toArray) (hi : IntsAre vs ns) (hz : ns.length ≤ 1000)
    (ha : 0 ≤ ans ∧ ans ≤ ns.length) (h1 : ∀ i : Int, 0 ≤ i → i < ans → ¬ x < ns.getD i.toNat 0) (h2 : ∀ i : Int, ans ≤ i → i < ns.length → x < ns.getD i.toNat 0)
    (hR : ∀ t h' tk, Ext s0.heap h' → R (.ok (.ret (.int ans t))) { s0 with heap := h', toks := tk }) :
    codeAny (model PR w) (Ar dp un fr gd) (.call (.ref 86) ⟨[.ref l, .int x tx], []⟩) R s0 := by
  have X := G.X.keeps k
  have T := G.T.keeps k
  unfold PR; revert X; k_fill; intro X
  refine' enter_ok X T ?k6 ?k7 ?k8 ?k9 ?kB ?_ ?c2 ?c3 ?c4 ?c5
  (case k6 => k_is)
  (case k7 => k_is)
  (case k8 => k_room)
  (case k9 => exact kp_binds X (fun _ => rfl))
  (case kB => exact locs rfl)
  (case c2 => exact rfl)
  (case c3 => exact rfl)
  (case c4 => exact rfl)
  (case c5 => decide)
  intro L h₁ F N
  (try dsimp only)
  k_unmd
  k_fold
  (k_with "exec While Compare cons nil" => k_while (fun script lo hi => 0 ≤ lo ∧ lo ≤ ans ∧ ans ≤ hi ∧ hi ≤ (script.length : Int)) (fun script lo hi => (hi - lo).toNat) "lo" "hi")
  k_steps
  all_goals (try (refine ofStop ?_; (with_reducible show wpAny _ _ (call (Value.builtin "len") [Value.ref _]) _ _ _); k_dflt (refine' len_ints ?z1_a ?z1_b ?z1_c ?_; (case z1_a => exact list_keep (by k_asm) (by assumption)); (case z1_b => assumption); (case z1_c => omega); k_whole); k_steps))
  all_goals (try (refine ofStop ?_; (with_reducible show wpAny _ _ (subscriptTail _ _ (Value.ref _) (Value.int _ _)) _ _ _); k_dflt (refine' item_right ?z2_a ?z2_b ?z2_z ?z2_c ?z2_d ?z2_p1 ?z2_p2 ?_ ?_ ?z2_ks ?z2_kg; (case z2_a => exact list_keep (by k_asm) (by assumption)); (case z2_b => assumption); (case z2_z => omega); (case z2_c => omega); (case z2_d => omega); (case z2_p1 => assumption); (case z2_p2 => assumption); (case z2_ks => with_unfolding_all rfl); (case z2_kg => intro _; with_unfolding_all rfl); k_whole); (try dsimp only); all_goals (intro t' z' q1' q2'; (try dsimp only at q2')); all_goals k_steps))
  all_goals first
    | (exfalso; omega)
    | (show R (.ok (.ret (.int _ _))) _
       rename Fr _ _ _ _ => F9
       refine' cast (congrArg (fun z => R (.ok (.ret (.int z _))) _) ?ce) (hR _ _ _ F9.keep)
       (case ce => (try split) <;> omega))
end
section
local macro_rules | `(tactic| walk_at "zz") => `(tactic| skip)
theorem rs13 : True := by
  w_top off
  exact trivial
local macro_rules | `(tactic| walk_at "binaryOp FloorDiv int int") => mc9
local macro_rules | `(tactic| walk_at "call builtin:len") => `(tactic| refine Stop.mk ?_)
local macro_rules | `(tactic| walk_at "subscriptTail Name Name ref int") => `(tactic| refine Stop.mk ?_)
set_option maxHeartbeats 8000000 in
theorem bisl_int {w : World} {p : Program} {loose : List Str} {mean : ExcName → Option Value} {mg mb : Str → Option Value} {dp un : Nat} {fr : Option (List Env)} {gd : Option (List Code)} {s0 : Shared} {R : Result → Shared → Prop} {H : Heap}
    (G : Gd w p loose mean mg mb H) (k : Ext H s0.heap) (hdp : dp + 10 < recursionLimit)
    {l : Addr} {x : Int} {tx t0 : Tok} {vs : List Value} {ns : List Int} {ans : Int} (hl : s0.heap.IsList l vs.toArray) (hi : IntsAre vs ns) (hz : ns.length ≤ 1000)
    (ha : 0 ≤ ans ∧ ans ≤ ns.length) (h1 : ∀ i : Int, 0 ≤ i → i < ans → ns.getD i.toNat 0 < x) (h2 : ∀ i : Int, ans ≤ i → i < ns.length → ¬ ns.getD i.toNat 0 < x)
    (hR : ∀ t h' tk, Ext s0.heap h' → R (.ok (.ret (.int ans t))) { s0 with heap := h', toks := tk }) :
    codeAny (model PR w) (Ar dp un fr gd) (.call (.ref 104) ⟨[.ref l, .int x tx, .int 0 t0, .none], []⟩) R s0 := by
  have X := G.X.keeps k
  have T := G.T.keeps k
  unfold PR; revert X; k_fill; intro X
  refine' enter_ok X T ?k6 ?k7 ?k8 ?k9 ?kB ?_ ?c2 ?c3 ?c4 ?c5
  (case k6 => k_is)
  (case k7 => k_is)
  (case k8 => k_room)
  (case k9 => exact kp_binds X (fun _ => rfl))
  (case kB => exact locs rfl)
  (case c2 => exact rfl)
  (case c3 => exact rfl)
  (case c4 => exact rfl)
  (case c5 => decide)
  intro L h₁ F N
  (try dsimp only)
  k_unmd
  k_fold
  (k_with "exec While Compare cons nil" => k_while (fun script lo hi => 0 ≤ lo ∧ lo ≤ ans ∧ ans ≤ hi ∧ hi ≤ (script.length : Int)) (fun script lo hi => (hi - lo).toNat) "lo" "hi")
  k_steps
  all_goals (try (refine ofStop ?_; (with_reducible show wpAny _ _ (call (Value.builtin "len") [Value.ref _]) _ _ _); k_dflt (refine' len_ints ?z1_a ?z1_b ?z1_c ?_; (case z1_a => exact list_keep (by k_asm) (by assumption)); (case z1_b => assumption); (case z1_c => omega); k_whole); k_steps))
  all_goals (try (refine ofStop ?_; (with_reducible show wpAny _ _ (subscriptTail _ _ (Value.ref _) (Value.int _ _)) _ _ _); k_dflt (refine' item_left ?z2_a ?z2_b ?z2_z ?z2_c ?z2_d ?z2_p1 ?z2_p2 ?_ ?_ ?z2_ks ?z2_kg; (case z2_a => exact list_keep (by k_asm) (by assumption)); (case z2_b => assumption); (case z2_z => omega); (case z2_c => omega); (case z2_d => omega); (case z2_p1 => assumption); (case z2_p2 => assumption); (case z2_ks => with_unfolding_all rfl); (case z2_kg => intro _; with_unfolding_all rfl); k_whole); (try dsimp only); all_goals (intro t' z' q1' q2'; (try dsimp only at q2')); all_goals k_steps))
  all_goals first
    | (exfalso; omega)
    | (show R (.ok (.ret (.int _ _))) _
       rename Fr _ _ _ _ => F9
       refine' cast (congrArg (fun z => R (.ok (.ret (.int z _))) _) ?ce) (hR _ _ _ F9.keep)
       (case ce => (try split) <;> omega))
end
section
theorem rs14 : True := by
  w_top off
  exact trivial
theorem fits_small {x : Int} (h0 : 0 ≤ x) (h1 : x < 100000) : Builtin.List.listFitsIndex x = true := by
  unfold Builtin.List.listFitsIndex
  simp
  omega
theorem room_small {vs : List Value} {ns : List Int} (hi : IntsAre vs ns) (hz : ns.length ≤ 1000) : vs.toArray.toList.length ≤ sizeLine := by
  have := hi.length
  have e : sizeLine ≥ 1000 := by decide
  simp only [List.toList_toArray]
  omega
local macro_rules | `(tactic| walk_at "call ref") => mc8
local macro_rules | `(tactic| walk_at "call builtin:list.insert") => `(tactic| refine Stop.mk ?_)
set_option maxHeartbeats 8000000 in
theorem ins_ok {w : World} {p : Program} {loose : List Str} {mean : ExcName → Option Value} {mg mb : Str → Option Value} {dp un : Nat} {fr : Option (List Env)} {gd : Option (List Code)} {s0 : Shared} {R : Result → Shared → Prop} {H : Heap}
    (G : Gd w p loose mean mg mb H) (k : Ext H s0.heap) (hdp : dp + 20 < recursionLimit)
    {l : Addr} {x : Int} {tx : Tok} {vs : List Value} {ns : List Int} {n : Nat} {ans : Int} (n0 : H.get? l = none) (hl : s0.heap.get? l = some (W.listOf vs.toArray n)) (hi : IntsAre vs ns) (hz : ns.length ≤ 1000)
    (ha : 0 ≤ ans ∧ ans ≤ ns.length) (h1 : ∀ i : Int, 0 ≤ i → i < ans → ns.getD i.toNat 0 < x) (h2 : ∀ i : Int, ans ≤ i → i < ns.length → ¬ ns.getD i.toNat 0 < x)
    (hR : ∀ h' tk, (∀ b o, b ≠ l → s0.heap.get? b = some o → h'.get? b = some o) → h'.get? l = some (W.listOf (kl_ins vs.toArray.toList ans (.int x tx)).toArray (n + 1)) → R (.ok (.ret .none)) { s0 with heap := h', toks := tk }) :
    codeAny (model PR w) (Ar dp un fr gd) (.call (.ref 95) ⟨[.ref l, .int x tx], []⟩) R s0 := by
  have kh : Ext H (hideAll s0.heap [l]) := fun b o e => hideAll_get _ (k b o e) (by intro hm; rw [List.mem_singleton.mp hm, n0] at e; cases e)
  have X := G.X.keeps kh
  have T := G.T.keeps kh
  unfold PR; revert X; k_fill; intro X
  have hlb := hl
  refine' enterP (as := [l]) (news := [(l, W.listOf vs.toArray n)]) rfl ?hN X T ?k6 ?k7 ?k8 ?k9 ?kB ?_ ?c2 ?c3 ?c4 ?c5
  (case hN => intro q hq; rw [List.mem_singleton.mp hq]; exact hl)
  (case k6 => k_is)
  (case k7 => k_is)
  (case k8 => k_room)
  (case k9 => exact (kp_binds (G.X.keeps k) (fun _ => rfl)))
  (case kB => exact locs rfl)
  (case c2 => exact rfl)
  (case c3 => exact rfl)
  (case c4 => exact rfl)
  (case c5 => decide)
  intro L h₁ F N l1
  k_lt l1
  (try dsimp only)
  k_unmd
  k_fold
  k_steps
  all_goals (try (refine ofStop ?_; (with_reducible show wpAny _ _ (call (Value.ref 104) _) _ _ _); k_dflt (refine wpAny_call ?_; refine' bisl_int ?z1_G ?z1_k ?z1_d ?z1_l ?z1_i ?z1_z ?z1_a ?z1_p1 ?z1_p2 ?_; (case z1_G => assumption); (case z1_k => exact Ext.trans (by assumption) (Fr.keep (by k_asm))); (case z1_d => k_room); (case z1_l => exact list_news (by k_asm) (by k_mem)); (case z1_i => assumption); (case z1_z => assumption); (case z1_a => assumption); (case z1_p1 => assumption); (case z1_p2 => assumption); k_whole); intro t1' h' tk' x'; obtain ⟨F', N'⟩ := after0 (by k_asm) (by k_asm) x'; clear x'; (try k_sweep); (try dsimp only); k_steps))
  all_goals (try (refine ofStop ?_; (with_reducible show wpAny _ _ (call (Value.builtin _) [Value.ref _, Value.int _ _, _]) _ _ _); k_dflt (refine' kl_insert ?z2_F ?z2_N ?z2_f ?z2_e ?z2_U ?z2_z ?_; (case z2_F => k_asm); (case z2_N => k_asm); (case z2_U => k_upd); (case z2_f => (refine fits_small ?_ ?_ <;> omega)); (case z2_e => exact rfl); (case z2_z => (refine' room_small ?z2_za ?z2_zb; (case z2_za => assumption); (case z2_zb => assumption))); k_whole); intro h' F' N'; (try k_sweep); (try dsimp only); k_steps))
  all_goals first
    | (exfalso; omega)
    | (show R (.ok (.ret .none)) _
       rename Fr _ _ _ _ => F9
       rename News _ _ _ _ => N9
       refine' hR _ _ (but_tab F9) ?cf
       (case cf => exact News.get N9 (by k_mem)))
end
section
def fnd (x y : PySem.Str) (i j : Int) : Int := match Builtin.Str.occurrences x y (fromIndex x.length i) (min (fromIndex x.length j) x.length) 1 with | k :: _ => (k : Int) | [] => -1
open PySem.Builtin PySem.Builtin.Str in
theorem gives_find4 (x y : PySem.Str) (i j : Int) (t u v z : Tok) : Gives (Builtin.«str.find» ⟨[.str x t, .str y u, .int i v, .int j z], []⟩) (.int (fnd x y i j)) := by
  show Gives (match Builtin.Str.occurrences x y (fromIndex x.length i) (min (fromIndex x.length j) x.length) 1 with | k :: _ => retInt k | [] => (do rule "str.find.not-found"; retInt (-1))) _
  unfold fnd
  cases Builtin.Str.occurrences x y (fromIndex x.length i) (min (fromIndex x.length j) x.length) 1 with
  | nil => exact .rule (.of_eq rfl)
  | cons k _ => exact .of_eq rfl
section
variable {prog : Program} {w : World} {A : Around} {E : Value → Shared → Prop} {s : Shared} {h₀ : Heap} {L : Addr} {m : PySem.Str → Option Value} {news : List (Addr × Obj)} {Q : Value → Shared → Prop}
theorem find4 {x y : PySem.Str} {t u v z : Tok} {i j : Int} (hq : ∀ q, q = fnd x y i j → Q (.int q s.toks) { s with toks := s.toks + 1 }) : wpAny (model prog w) A (call (.builtin "str.find") [.str x t, .str y u, .int i v, .int j z]) Q E s :=
  call_gives F.slot_str_find (typeIs_str _ _ _) F.entry_str_find (F.args_str_find_4 _ _ _ _) (gives_find4 x y i j t u v z) (hq _ rfl)
theorem split_known {x y : PySem.Str} {t u : Tok} {ps : List PySem.Str} (hF : Fr h₀ L s.heap m) (hN : News h₀ L s.heap news) (hy : (y.length == 0) = false) (hs : Txt.split x y = ps) (hsz : x.length + 2 ≤ sizeLine)
    (h : ∀ D l h' k, l.map (·.1) = ps → Fr h₀ L h' m → News h₀ L h' ((D, W.listOf (strValues l).toArray 0) :: news) → (∀ p ∈ news, p.1 < D) → Q (.ref D) { s with heap := h', toks := k }) :
    wpAny (model prog w) A (call (.builtin "str.split") [.str x t, .str y u]) Q E s :=
  KSpl.split1 hF hN hy (fun D l h' k e _ F N l1 => h D l h' k (e.trans hs) F N l1) hsz
end
def loopE (g : PySem.Str) : List PySem.Str → Int → Int → Bool
  | [], _, _ => true
  | p :: r, a, b => if fnd g p a b < 0 then false else loopE g r (fnd g p a b + (p.length : Int)) b
def lastE (g l : PySem.Str) (init all : List PySem.Str) (a b : Int) : Bool :=
  if (l.length : Int) = 0 then (if b < a then false else loopE g all a b)
  else if Txt.endswith g l = true then (if b - (l.length : Int) < a then false else loopE g init a (b - (l.length : Int))) else false
def tailE (g : PySem.Str) (ps : List PySem.Str) (a b : Int) : Bool := lastE g (ps.getLastD PySem.Str.empty) ps.dropLast ps a b
def ellE (g : PySem.Str) : List PySem.Str → Bool
  | [] => false
  | p :: r => if (p.length : Int) = 0 then tailE g (p :: r) 0 g.length else if Txt.startswith g p = true then tailE g r p.length g.length else false
end
section
/-- what a turn of a loop must leave: its ledger any list, its iterator kept -/
def TurnE (h₀ : Heap) (L : Addr) (I : Addr) (o : Obj) (J : (Str → Option Value) → List (Addr × Obj) → Prop) (s₁ s₂ : Shared) : Prop :=
  ∃ h' tk m' nx', s₂ = { s₁ with heap := h', toks := tk } ∧ Fr h₀ L h' m' ∧ News h₀ L h' ((I, o) :: nx') ∧ AllNe I nx' ∧ J m' nx'
def TurnP (h₀ : Heap) (L : Addr) (I : Addr) (o : Obj) (J : (Str → Option Value) → List (Addr × Obj) → Prop) (s₁ : Shared) (Q : Flow → Shared → Prop) (f : Flow) (s₂ : Shared) : Prop :=
  match f with
  | .ret v => Q (.ret v) s₂
  | .brk => Q .next s₂
  | _ => TurnE h₀ L I o J s₁ s₂
theorem TurnE.intro {h₀ : Heap} {L I : Addr} {o : Obj} {J : (Str → Option Value) → List (Addr × Obj) → Prop} {s₁ : Shared} {h' : Heap} {tk : Nat} {m' : Str → Option Value} {nx' : List (Addr × Obj)}
    (F : Fr h₀ L h' m') (N : News h₀ L h' ((I, o) :: nx')) (a : AllNe I nx') (j : J m' nx') : TurnE h₀ L I o J s₁ { s₁ with heap := h', toks := tk } := ⟨h', tk, m', nx', rfl, F, N, a, j⟩
theorem allNe_mem {d : Addr} : ∀ {l : List (Addr × Obj)}, AllNe d l → ∀ p ∈ l, p.1 ≠ d
  | _ :: _, h, q, hq => by
    rcases List.mem_cons.mp hq with rfl | hq
    · exact h.1
    · exact allNe_mem h.2 q hq
  | [], _, _, hq => nomatch hq

section
variable {prog : Program} {w : World} {A : Around} {E : Value → Shared → Prop} {s : Shared} {env : Env} {h₀ : Heap} {x : Str} {body : List Stmt} {Q : Flow → Shared → Prop} {m₀ : Str → Option Value} {news : List (Addr × Obj)}

theorem loop_core {I : Addr} {fp : List Addr} {n : Nat} {P : Nat → Value → Prop} {St : Nat → Heap → Prop} (J : Nat → (Str → Option Value) → List (Addr × Obj) → Prop)
    (W : Walks prog w A I fp [I] n P St) (hIf : I ∈ fp) (hI : ∀ i h, St i h → ∃ o, h.get? I = some o) (hLf : env.locals ∉ fp) (hwr : h₀.get? I = none) (hnw : AllNe I news) (hst : St 0 s.heap) (F : Fr h₀ env.locals s.heap m₀) (N : News h₀ env.locals s.heap news) (hj : J 0 m₀ news)
    (ob : Addr → Obj) (hfp : ∀ b ∈ fp, b ≠ I → (∃ o, h₀.get? b = some o) ∨ ∀ i m nx, J i m nx → (b, ob b) ∈ nx)
    (turn : ∀ i v m₁ nx h tk o, i < n → P i v → AllNe I nx → J i m₁ nx → Fr h₀ env.locals h (fun y => if y = x then some v else m₁ y) → News h₀ env.locals h ((I, o) :: nx) →
      wpAny (model prog w) A (execs body env) (TurnP h₀ env.locals I o (J (i + 1)) { s with heap := h, toks := tk } Q) E { s with heap := h, toks := tk })
    (done : ∀ m₁ nx h tk, J n m₁ nx → Fr h₀ env.locals h m₁ → News h₀ env.locals h nx → Q .next { s with heap := h, toks := tk }) :
    LoopAtV prog w A h₀ env x body Q E (.ref I) s := by
  refine ⟨I, fp, [I], n, P, St, m₀, news, fun i m nx => AllNe I nx ∧ J i m nx, rfl, W, hLf, ?_, ?_, hst, F, N, ⟨hnw, hj⟩, ?_, ?_⟩
  · intro b hb; rw [List.mem_singleton.mp hb]; exact hwr
  · intro p hp hb; exact allNe_mem hnw p hp (List.mem_singleton.mp hb)
  · rintro i v m₁ nx s₁ own ⟨h, tk, rfl⟩ hin hP ⟨hne, hJ⟩ _ hown hget hfpo hst₁ F₁ N₁
    obtain ⟨o, ho⟩ := hI _ _ hst₁
    have hIo : (I, o) ∈ own := hfpo I hIf hwr o ho
    have N₂ : News h₀ env.locals h ((I, o) :: nx) := fun p hp => by
      rcases List.mem_cons.mp hp with rfl | hp
      · exact N₁ _ (List.mem_append_left _ hIo)
      · exact N₁ _ (List.mem_append_right _ hp)
    refine wpAny_mono (turn i v m₁ nx h tk o hin hP hne hJ F₁ N₂) (fun f s₂ p => ?_) fun _ _ e => e
    have fin : TurnE h₀ env.locals I o (J (i + 1)) { s with heap := h, toks := tk } s₂ → LoopStepU h₀ env.locals [I] own (fun m nx => AllNe I nx ∧ J (i + 1) m nx) { s with heap := h, toks := tk } .next s₂ := by
      rintro ⟨h', tk', m', nx', e, F', N', a', j'⟩
      refine ⟨rfl, h', tk', m', nx', e, F', fun p hp => ?_, fun p hp hb => allNe_mem a' p hp (List.mem_singleton.mp hb), a', j'⟩
      rcases List.mem_append.mp hp with hp | hp
      · have hg := hget p hp
        by_cases q : p.1 = I
        · have : p.2 = o := by rw [q] at hg; exact Option.some.inj (hg.symm.trans ho)
          have e : p = (I, o) := Prod.ext q this
          rw [e]
          exact N' _ (.head _)
        · rcases hfp p.1 (hown p hp) q with ⟨o', e'⟩ | e'
          · have h3 := (N₁ p (List.mem_append_left _ hp)).2.2
            rw [e'] at h3; cases h3
          · have h4 := (N₂ _ (.tail _ (e' _ _ _ hJ))).1
            have h5 : p = (p.1, ob p.1) := Prod.ext rfl (Option.some.inj (hg.symm.trans h4))
            rw [h5]
            exact N' _ (.tail _ (e' _ _ _ j'))
      · exact N' p (.tail _ hp)
    cases f with
    | ret v => exact .ret p
    | brk => exact .brk p
    | next => exact .next (fin p)
    | cont => exact .cont (fin p)
  · rintro h' tk m' nx' F' N' _ ⟨_, hJ⟩
    exact done m' nx' h' tk hJ F' N'

theorem for_range {r : Addr} {a₀ b₀ : Int} {t₀ u₀ v₀ : Tok} {n : Nat} (J : Nat → (Str → Option Value) → List (Addr × Obj) → Prop)
    (hh : A.handled = none) (hr : IsRange s.heap r a₀ b₀ 1 t₀ u₀ v₀) (hsmall : Builtin.Range.small a₀ b₀ 1 = true) (hn : Builtin.Range.rangeSize a₀ b₀ 1 = (n : Int)) (F : Fr h₀ env.locals s.heap m₀) (N : News h₀ env.locals s.heap news) (hj : J 0 m₀ news)
    (turn : ∀ i t m₁ nx h tk I o, i < n → AllNe I nx → J i m₁ nx → Fr h₀ env.locals h (fun y => if y = x then some (.int (a₀ + (i : Int)) t) else m₁ y) → News h₀ env.locals h ((I, o) :: nx) →
      wpAny (model prog w) A (execs body env) (TurnP h₀ env.locals I o (J (i + 1)) { s with heap := h, toks := tk } Q) E { s with heap := h, toks := tk })
    (done : ∀ m₁ nx h tk, J n m₁ nx → Fr h₀ env.locals h m₁ → News h₀ env.locals h nx → Q .next { s with heap := h, toks := tk }) :
    wpAny (model prog w) A (pyIter (.ref r)) (fun it s₂ => LoopAtV prog w A h₀ env x body Q E it s₂) E s := by
  refine wpAny_pyIter_range hr hsmall ?_
  refine loop_core (fp := [s.heap.objs.size]) J (Walks.range hh _ a₀ 1 n) (.head _) (fun i h st => ?_) ?_ (next_is_new F) ?_ (by show IsRangeIter _ _ _ _ _; rw [hn]; simpa using Heap.get?_push_size _ rfl) (F.push _) (fun p hp => ⟨Heap.get?_push_of_some _ (N p hp).1, (N p hp).2⟩) hj (fun _ => W.listOf #[] 0) ?_ ?_ done
  · exact ⟨_, st⟩
  · intro hm
    exact absurd F.ns.lt ((List.mem_singleton.mp hm) ▸ Nat.lt_irrefl _)
  · exact allNe_of fun p hp e => absurd (Heap.lt_size (N p hp).1) (e ▸ Nat.lt_irrefl _)
  · intro b hb q
    exact absurd (List.mem_singleton.mp hb) q
  · rintro i v m₁ nx h tk o hi ⟨t, rfl⟩ hne hJ F₁ N₁
    have e1 : a₀ + (i : Int) * 1 = a₀ + (i : Int) := by omega
    rw [e1] at F₁
    exact turn i t m₁ nx h tk _ o hi hne hJ F₁ N₁

theorem for_list {l : Addr} {vs : Array Value} {nn : Nat} (J : Nat → (Str → Option Value) → List (Addr × Obj) → Prop)
    (hh : A.handled = none) (hl : (l, W.listOf vs nn) ∈ news) (F : Fr h₀ env.locals s.heap m₀) (N : News h₀ env.locals s.heap news) (hj : J 0 m₀ news) (hJl : ∀ i m nx, J i m nx → (l, W.listOf vs nn) ∈ nx)
    (turn : ∀ i v m₁ nx h tk I o, vs[i]? = some v → AllNe I nx → J i m₁ nx → Fr h₀ env.locals h (fun y => if y = x then some v else m₁ y) → News h₀ env.locals h ((I, o) :: nx) →
      wpAny (model prog w) A (execs body env) (TurnP h₀ env.locals I o (J (i + 1)) { s with heap := h, toks := tk } Q) E { s with heap := h, toks := tk })
    (done : ∀ m₁ nx h tk, J vs.size m₁ nx → Fr h₀ env.locals h m₁ → News h₀ env.locals h nx → Q .next { s with heap := h, toks := tk }) :
    wpAny (model prog w) A (pyIter (.ref l)) (fun it s₂ => LoopAtV prog w A h₀ env x body Q E it s₂) E s := by
  have hol := (N _ hl).1
  have hls : s.heap.IsList l vs := ⟨_, hol, rfl, nn, rfl⟩
  have hne : l ≠ s.heap.objs.size := Nat.ne_of_lt (Heap.lt_size hol)
  refine wpAny_pyIter_list hls ?_
  refine loop_core (fp := [s.heap.objs.size, l]) J (Walks.list hh s.heap.objs.size l hne vs) (.head _) (fun i h st => ?_) ?_ (next_is_new F) ?_ ⟨⟨_, Heap.get?_push_size _ rfl, rfl, rfl⟩, hls.at fun o e => Heap.get?_push_of_some _ e⟩ (F.push _) (fun p hp => ⟨Heap.get?_push_of_some _ (N p hp).1, (N p hp).2⟩) hj (fun _ => W.listOf vs nn) ?_ ?_ done
  · obtain ⟨o, ho, _⟩ := st.1
    exact ⟨o, ho⟩
  · intro hm
    rcases List.mem_cons.mp hm with e | hm
    · exact absurd F.ns.lt (e ▸ Nat.lt_irrefl _)
    · exact (N _ hl).2.1 ((List.mem_singleton.mp hm).symm)
  · exact allNe_of fun p hp e => absurd (Heap.lt_size (N p hp).1) (e ▸ Nat.lt_irrefl _)
  · intro b hb q
    rcases List.mem_cons.mp hb with e | hb
    · exact absurd e q
    · rw [List.mem_singleton.mp hb]
      exact .inr hJl
  · intro i v m₁ nx h tk o hi hP hne hJ F₁ N₁
    exact turn i v m₁ nx h tk _ o hP hne hJ F₁ N₁
end
end
section
theorem strs_of {ps : List PySem.Str} : ∀ {l : List (PySem.Str × Tok)}, l.map (·.1) = ps → StrsAre (strValues l) ps := fun e => e ▸ strsAre_of_values _
theorem strs_dropLast : ∀ {vs : List Value} {ps : List PySem.Str}, StrsAre vs ps → StrsAre vs.dropLast ps.dropLast
  | _, _, .nil => .nil
  | _, _, .cons y t .nil => .nil
  | _, _, .cons y t (.cons z u h) => .cons y t (strs_dropLast (.cons z u h))
theorem strs_last : ∀ {vs : List Value} {ps : List PySem.Str}, StrsAre vs ps → ps ≠ [] → ∃ t, vs[vs.length - 1]? = some (.str (ps.getLastD PySem.Str.empty) t)
  | _, _, .nil, h => absurd rfl h
  | _, _, .cons y t .nil, _ => ⟨t, rfl⟩
  | _, _, .cons y t (.cons z u h), _ => by
    obtain ⟨t', e⟩ := strs_last (.cons z u h) (by simp)
    exact ⟨t', by simpa using e⟩
theorem last_le {b : Nat} : ∀ {ps : List PySem.Str}, (∀ p ∈ ps, p.length ≤ b) → ps ≠ [] → (ps.getLastD PySem.Str.empty).length ≤ b
  | [], _, h => absurd rfl h
  | [p], h, _ => h p (.head _)
  | p :: q :: r, h, _ => by
    have := last_le (ps := q :: r) (fun p hp => h p (.tail _ hp)) (by simp)
    simpa using this
theorem delL_last : ∀ {l : List Value}, l ≠ [] → ki_delL l (l.length - 1) = some l.dropLast
  | [], h => absurd rfl h
  | [_], _ => rfl
  | x :: y :: r, _ => by
    have := delL_last (l := y :: r) (by simp)
    simp only [List.length_cons, Nat.add_sub_cancel] at this ⊢
    show (match ki_delL (y :: r) r.length with | some q => some (x :: q) | none => none) = _
    rw [this]; rfl

section
variable {prog : Program} {w : World} {A : Around} {E : Value → Shared → Prop} {s : Shared} {h₀ : Heap} {L D : Addr} {m : PySem.Str → Option Value} {news news' : List (Addr × Obj)} {vs : List Value} {ps : List PySem.Str} {n : Nat}
theorem len_sl {Q : Value → Shared → Prop} (N : News h₀ L s.heap news) (hm : (D, W.listOf vs.toArray n) ∈ news) (hs : StrsAre vs ps) (hz : ps.length ≤ 1000) (h2 : 2 ≤ ps.length) (h : ∀ k : Int, 2 ≤ k → Q (.int k (s.toks + 1)) { s with toks := s.toks + 1 + 1 }) :
    wpAny (model prog w) A (call (.builtin "len") [.ref D]) Q E s := len_strsA (list_news N hm) hs (by omega) (h _ (by omega))
theorem item_head {value slice : Expr} {k : Int} {u t : Tok} {p : PySem.Str} {r : List Value} {Q : Value → Shared → Prop} (N : News h₀ L s.heap news) (hm : (D, W.listOf (.str p t :: r).toArray n) ∈ news) (h0 : k = 0) (h : Q (.str p t) s)
    (hs : subscripted slice false (.ref D) (.int k u) = operate [.ref D, .int k u] (getItem (.ref D) (.int k u))) (hg : ∀ r, letTemporaryGo value (.ref D) r = pure ()) :
    wpAny (model prog w) A (subscriptTail value slice (.ref D) (.int k u)) Q E s := by
  subst h0
  exact item_known (list_news N hm) (by decide) (by decide) rfl h hs hg
theorem item_last {value slice : Expr} {k : Int} {u : Tok} {Q : Value → Shared → Prop} (N : News h₀ L s.heap news) (hm : (D, W.listOf vs.toArray n) ∈ news) (hS : StrsAre vs ps) (hne : ps ≠ []) (hz : ∀ p ∈ ps, p.length ≤ 1000) (h0 : k = -1) (h : ∀ t pl, pl = ps.getLastD PySem.Str.empty → pl.length ≤ 1000 → Q (.str pl t) s)
    (hs : subscripted slice false (.ref D) (.int k u) = operate [.ref D, .int k u] (getItem (.ref D) (.int k u))) (hg : ∀ r, letTemporaryGo value (.ref D) r = pure ()) :
    wpAny (model prog w) A (subscriptTail value slice (.ref D) (.int k u)) Q E s := by
  subst h0
  obtain ⟨t, e⟩ := strs_last hS hne
  have hl : vs.length ≠ 0 := by rw [hS.length]; exact fun q => hne (List.length_eq_zero_iff.mp q)
  refine subscriptTail_builtin (list_news N hm).typeIs slot_list_getitem.lookup (wpAny_getItem_list_neg (list_news N hm) (by decide) (by simp; omega) (by decide) (x := .str (ps.getLastD PySem.Str.empty) t) ?_ (h t _ rfl (last_le hz hne))) hs hg
  have : ((-1 : Int) + (vs.toArray.size : Int)).toNat = vs.length - 1 := by simp; omega
  rw [this]
  simpa using e
theorem del_head {v : Value} {k : Int} {u : Tok} {r : List Value} {Q : Unit → Shared → Prop} (F : Fr h₀ L s.heap m) (N : News h₀ L s.heap news) (h0 : k = 0) (U : Upd D (W.listOf (v :: r).toArray n) (W.listOf r.toArray (n + 1)) news news') (hz : r.length ≤ 1000)
    (h : ∀ h', Fr h₀ L h' m → News h₀ L h' news' → Q () { s with heap := h' }) : wpAny (model prog w) A (delItem (.ref D) (.int k u)) Q E s := by
  subst h0
  have e : sizeLine ≥ 2000 := by decide
  exact ki_del (k := 0) (q := r) F N rfl (by unfold seqIndex?; simp) rfl U (by simp; omega) h
theorem del_last {k : Int} {u : Tok} {Q : Unit → Shared → Prop} (F : Fr h₀ L s.heap m) (N : News h₀ L s.heap news) (hS : StrsAre vs ps) (hne : ps ≠ []) (h0 : k = -1) (U : Upd D (W.listOf vs.toArray n) (W.listOf vs.dropLast.toArray (n + 1)) news news') (hz : ps.length ≤ 1000)
    (h : ∀ h', Fr h₀ L h' m → News h₀ L h' news' → Q () { s with heap := h' }) : wpAny (model prog w) A (delItem (.ref D) (.int k u)) Q E s := by
  subst h0
  have e : sizeLine ≥ 2000 := by decide
  have hl : vs.length ≠ 0 := by rw [hS.length]; exact fun q => hne (List.length_eq_zero_iff.mp q)
  have hll := hS.length
  refine ki_del (k := vs.length - 1) (q := vs.dropLast) F N rfl ?_ ?_ U (by simp; omega) h
  · unfold seqIndex?
    have h1 : (-1 : Int) + (vs.toArray.size : Int) = ((vs.length - 1 : Nat) : Int) := by simp; omega
    simp only [show (-1 : Int) < 0 from by decide, if_true]
    rw [h1, if_pos (by simp; omega)]
    rfl
  · show ki_delL vs (vs.length - 1) = _
    exact delL_last (fun q => hl (by rw [q]; rfl))
end

section
variable {prog : Program} {w : World} {A : Around} {E : Value → Shared → Prop} {s : Shared} {env : Env} {h₀ : Heap} {x : PySem.Str} {body : List Stmt} {Q : Flow → Shared → Prop} {m₀ : PySem.Str → Option Value} {news : List (Addr × Obj)}
def OneInt (x y : PySem.Str) (m₀ : PySem.Str → Option Value) (news : List (Addr × Obj)) (P : Int → Prop) (m : PySem.Str → Option Value) (nx : List (Addr × Obj)) : Prop :=
  nx = news ∧ ∃ a ta, P a ∧ m y = some (.int a ta) ∧ ∀ z, z ≠ x → z ≠ y → m z = m₀ z
theorem for_list_int {l : Addr} {vs : Array Value} {nn : Nat} {y : PySem.Str} (hyx : y ≠ x) (P : Nat → Int → Prop) {a₀ : Int} {t₀ : Tok}
    (hh : A.handled = none) (hl : (l, W.listOf vs nn) ∈ news) (F : Fr h₀ env.locals s.heap m₀) (N : News h₀ env.locals s.heap news) (hy : m₀ y = some (.int a₀ t₀)) (hp : P 0 a₀)
    (turn : ∀ i v a ta h tk I o, vs[i]? = some v → P i a → AllNe I news → Fr h₀ env.locals h (fun z => if z = x then some v else if z = y then some (.int a ta) else m₀ z) → News h₀ env.locals h ((I, o) :: news) →
      wpAny (model prog w) A (execs body env) (TurnP h₀ env.locals I o (OneInt x y m₀ news (P (i + 1))) { s with heap := h, toks := tk } Q) E { s with heap := h, toks := tk })
    (done : ∀ (u : PySem.Str → Option Value) a ta h tk, P vs.size a → Fr h₀ env.locals h (fun z => if z = x then u z else if z = y then some (.int a ta) else m₀ z) → News h₀ env.locals h news → Q .next { s with heap := h, toks := tk }) :
    wpAny (model prog w) A (pyIter (.ref l)) (fun it s₂ => LoopAtV prog w A h₀ env x body Q E it s₂) E s := by
  have fix : ∀ {m₁ : PySem.Str → Option Value} {a : Int} {ta : Tok} (u : Option Value), m₁ y = some (.int a ta) → (∀ z, z ≠ x → z ≠ y → m₁ z = m₀ z) → (fun z => if z = x then u else m₁ z) = fun z => if z = x then u else if z = y then some (.int a ta) else m₀ z := by
    intro m₁ a ta u h1 h2
    funext z
    by_cases q : z = x
    · rw [if_pos q, if_pos q]
    · rw [if_neg q, if_neg q]
      by_cases q2 : z = y
      · rw [if_pos q2, q2]; exact h1
      · rw [if_neg q2]; exact h2 z q q2
  refine for_list (fun i => OneInt x y m₀ news (P i)) hh hl F N ⟨rfl, a₀, t₀, hp, hy, fun _ _ _ => rfl⟩ (fun _ _ _ h => h.1 ▸ hl) ?_ ?_
  · rintro i v m₁ nx h tk I o hv hne ⟨rfl, a, ta, hP, h1, h2⟩ F₁ N₁
    rw [fix (some v) h1 h2] at F₁
    exact turn i v a ta h tk I o hv hP hne F₁ N₁
  · rintro m₁ nx h tk ⟨rfl, a, ta, hP, h1, h2⟩ F₁ N₁
    refine done m₁ a ta h tk hP ?_ N₁
    have e : (fun z => if z = x then m₁ z else if z = y then some (.int a ta) else m₀ z) = m₁ := by
      funext z
      by_cases q : z = x
      · rw [if_pos q]
      · rw [if_neg q]
        by_cases q2 : z = y
        · rw [if_pos q2, q2]; exact h1.symm
        · rw [if_neg q2]; exact (h2 z q q2).symm
    rw [e]; exact F₁

/-- the loop of _ellipsis_match over the pieces that are left -/
theorem ell_loop {l : Addr} {vs : List Value} {qs : List PySem.Str} {nn : Nat} {g : PySem.Str} {y : PySem.Str} {b : Int} {tb tg : Tok} (hyx : y ≠ x) {a₀ : Int} {t₀ : Tok} (hg : m₀ (PySem.Str.ofString "got") = some (.str g tg)) (hb : m₀ (PySem.Str.ofString "endpos") = some (.int b tb))
    (hh : A.handled = none) (hl : (l, W.listOf vs.toArray nn) ∈ news) (hS : StrsAre vs qs) (hz : ∀ p ∈ qs, p.length ≤ 1000) (F : Fr h₀ env.locals s.heap m₀) (N : News h₀ env.locals s.heap news) (hy : m₀ y = some (.int a₀ t₀))
    (turn : ∀ p t r a ta h tk I o, p.length ≤ 1000 → loopE g qs a₀ b = loopE g (p :: r) a b → AllNe I news → Fr h₀ env.locals h (fun z => if z = x then some (.str p t) else if z = y then some (.int a ta) else m₀ z) → News h₀ env.locals h ((I, o) :: news) →
      wpAny (model prog w) A (execs body env) (TurnP h₀ env.locals I o (OneInt x y m₀ news (fun a => loopE g qs a₀ b = loopE g r a b)) { s with heap := h, toks := tk } Q) E { s with heap := h, toks := tk })
    (done : ∀ (u : PySem.Str → Option Value) a ta h tk, loopE g qs a₀ b = true → Fr h₀ env.locals h (fun z => if z = x then u z else if z = y then some (.int a ta) else m₀ z) → News h₀ env.locals h news → Q .next { s with heap := h, toks := tk }) :
    wpAny (model prog w) A (pyIter (.ref l)) (fun it s₂ => LoopAtV prog w A h₀ env x body Q E it s₂) E s := by
  have hlen := hS.length
  refine for_list_int hyx (fun i a => loopE g qs a₀ b = loopE g (qs.drop i) a b) hh hl F N hy rfl ?_ ?_
  · rintro i v a ta h tk I o hv hP hne F₁ N₁
    obtain ⟨p, t, rfl, hp⟩ := hS.item i v (by simpa using hv)
    have hi : i < qs.length := (List.getElem?_eq_some_iff.mp hp).1
    have e : qs.drop i = p :: qs.drop (i + 1) := by
      rw [List.drop_eq_getElem_cons hi, (List.getElem?_eq_some_iff.mp hp).2]
    rw [e] at hP
    exact turn p t _ a ta h tk I o (hz p (List.mem_of_getElem? hp)) hP hne F₁ N₁
  · rintro u a ta h tk hP F₁ N₁
    refine done u a ta h tk ?_ F₁ N₁
    have e : qs.drop vs.toArray.size = [] := by simp [hlen]
    rw [e] at hP
    exact hP
end
end
section
theorem rs18 : True := by
  w_top off
  exact trivial
theorem le_drop {ps : List PySem.Str} {b : Nat} (h : ∀ p ∈ ps, p.length ≤ b) : ∀ p ∈ ps.dropLast, p.length ≤ b := fun p hp => h p (List.dropLast_subset _ hp)
/-- how an early return may cut a walk in two: one int and one list are changed, or false is given back -/
def CutP (h₀ : Heap) (L T D : Addr) (ot : Obj) (m : PySem.Str → Option Value) (nx : List (Addr × Obj)) (y : PySem.Str) (J : Int → List Value → Prop) (B : Prop) (s : Shared) (fl : Flow) (s' : Shared) : Prop :=
  match fl with
  | .next => ∃ a ta vs n h tk, s' = { s with heap := h, toks := tk } ∧ Fr h₀ L h (fun z => if z = y then some (.int a ta) else m z) ∧ News h₀ L h ((T, ot) :: (D, W.listOf (List.toArray vs) n) :: nx) ∧ J a vs
  | .ret v => v = .bool false ∧ B ∧ ∃ h tk, s' = { s with heap := h, toks := tk } ∧ Ext h₀ h
  | _ => False
section
variable {h₀ : Heap} {L T D : Addr} {ot : Obj} {m : PySem.Str → Option Value} {nx : List (Addr × Obj)} {y : PySem.Str} {J : Int → List Value → Prop} {B : Prop} {s : Shared} {h : Heap} {tk : Nat}
theorem CutP.go {a : Int} {ta : Tok} {vs : List Value} {n : Nat} (F : Fr h₀ L h (fun z => if z = y then some (.int a ta) else m z)) (N : News h₀ L h ((T, ot) :: (D, W.listOf (List.toArray vs) n) :: nx)) (j : J a vs) : CutP h₀ L T D ot m nx y J B s .next { s with heap := h, toks := tk } := ⟨a, ta, vs, n, h, tk, rfl, F, N, j⟩
theorem CutP.same {a : Int} {ta : Tok} {vs : List Value} {n : Nat} (F : Fr h₀ L h m) (hy : m y = some (.int a ta)) (N : News h₀ L h ((T, ot) :: (D, W.listOf (List.toArray vs) n) :: nx)) (j : J a vs) : CutP h₀ L T D ot m nx y J B s .next { s with heap := h, toks := tk } := by
  refine CutP.go (a := a) (ta := ta) ?_ N j
  have e : (fun z => if z = y then some (Value.int a ta) else m z) = m := by
    funext z
    by_cases q : z = y
    · rw [if_pos q, q, hy]
    · rw [if_neg q]
  rw [e]; exact F
theorem CutP.off (e : Ext h₀ h) (b : B) : CutP h₀ L T D ot m nx y J B s (.ret (.bool false)) { s with heap := h, toks := tk } := ⟨rfl, b, h, tk, rfl, e⟩
theorem cut {prog : Program} {w : World} {A : Around} {E : Value → Shared → Prop} {t : Sem Flow} {Q : Flow → Shared → Prop} {o : Obj} (y : PySem.Str) (J : Int → List Value → Prop) (B : Prop) (_F : Fr h₀ L s.heap m) (_N : News h₀ L s.heap ((T, ot) :: (D, o) :: nx))
    (walk : wpAny (model prog w) A t (CutP h₀ L T D ot m nx y J B s) E s)
    (next : ∀ a ta vs n h tk, J a vs → Fr h₀ L h (fun z => if z = y then some (.int a ta) else m z) → News h₀ L h ((T, ot) :: (D, W.listOf (List.toArray vs) n) :: nx) → Q .next { s with heap := h, toks := tk })
    (stop : ∀ h tk, B → Ext h₀ h → Q (.ret (.bool false)) { s with heap := h, toks := tk }) : wpAny (model prog w) A t Q E s :=
  wpAny_mono walk (fun fl s' c => by
    cases fl with
    | next => obtain ⟨a, ta, vs, n, h, tk, rfl, F, N, j⟩ := c; exact next a ta vs n h tk j F N
    | ret v => obtain ⟨rfl, b, h, tk, rfl, e⟩ := c; exact stop h tk b e
    | _ => exact c.elim) fun _ _ e => e
end
/-- what the pieces that are left must be, and what they answer -/
structure Left1 (g : PySem.Str) (T : Bool) (a : Int) (vs : List Value) (qs : List PySem.Str) : Prop where
  s : StrsAre vs qs
  ne : qs ≠ []
  z : ∀ p ∈ qs, p.length ≤ 1000
  l : qs.length ≤ 1000
  a0 : 0 ≤ a
  a1 : a ≤ 1000
  e : T = tailE g qs a g.length
structure Left2 (g : PySem.Str) (T : Bool) (a b : Int) (vs : List Value) (qs : List PySem.Str) : Prop where
  s : StrsAre vs qs
  z : ∀ p ∈ qs, p.length ≤ 1000
  e : T = if b < a then false else loopE g qs a b
theorem ell_len {α : Type} {p : α} {r : List α} (h : r.length ≤ 500) : (p :: r).length ≤ 1000 := Nat.le_trans (Nat.succ_le_succ h) (by decide)
theorem ell_len2 {α : Type} {p q : α} {r : List α} (h : r.length ≤ 500) : (p :: q :: r).length ≤ 1000 := Nat.le_trans (Nat.succ_le_succ (Nat.succ_le_succ h)) (by decide)
section
variable {g p l : PySem.Str} {r ps : List PySem.Str} {a b : Int}
theorem ellE_0 (h : (p.length : Int) = 0) : ellE g (p :: r) = tailE g (p :: r) 0 g.length := if_pos h
theorem ellE_1 (h : (p.length : Int) ≠ 0) (h2 : Txt.startswith g p = true) : ellE g (p :: r) = tailE g r p.length g.length := (if_neg h).trans (if_pos h2)
theorem ellE_2 (h : (p.length : Int) ≠ 0) (h2 : Txt.startswith g p = false) : ellE g (p :: r) = false := (if_neg h).trans (if_neg (by rw [h2]; exact Bool.false_ne_true))
theorem tailE_0 (e : l = ps.getLastD PySem.Str.empty) (h : (l.length : Int) = 0) : tailE g ps a b = if b < a then false else loopE g ps a b := by
  subst e; exact if_pos h
theorem tailE_1 (e : l = ps.getLastD PySem.Str.empty) (h : (l.length : Int) ≠ 0) (h2 : Txt.endswith g l = true) : tailE g ps a b = if b - (l.length : Int) < a then false else loopE g ps.dropLast a (b - (l.length : Int)) := by
  subst e; exact (if_neg h).trans (if_pos h2)
theorem tailE_2 (e : l = ps.getLastD PySem.Str.empty) (h : (l.length : Int) ≠ 0) (h2 : Txt.endswith g l = false) : tailE g ps a b = false := by
  subst e; exact (if_neg h).trans (if_neg (by rw [h2]; exact Bool.false_ne_true))
end
local macro_rules | `(tactic| walk_at "call builtin:len") => `(tactic| (k_here; (with_reducible show wpAny _ _ (call (Value.builtin "len") [Value.str _ _]) _ _ _); refine P.len_str (by omega) ?_))
local macro_rules | `(tactic| walk_at "call builtin:len") => `(tactic| ((with_reducible show wpAny _ _ (call (Value.builtin "len") [Value.ref _]) _ _ _); refine Stop.mk ?_))
local macro_rules | `(tactic| walk_at "call builtin:str.split") => `(tactic| refine Stop.mk ?_)
local macro_rules | `(tactic| walk_at "call builtin:str.find") => `(tactic| refine Stop.mk ?_)
local macro_rules | `(tactic| walk_at "subscriptTail Name UnaryOp ref int") => `(tactic| refine Stop.mk ?_)
local macro_rules | `(tactic| walk_at "subscriptTail Name Constant ref int") => `(tactic| refine Stop.mk ?_)
local macro_rules | `(tactic| walk_at "delItem ref int") => `(tactic| refine Stop.mk ?_)
def mc10 : Lean.MacroM Lean.Syntax := `(tactic| ((with_reducible show wpAny _ _ (pyIter (Value.ref _)) (fun it s₂ => LoopAtV _ _ _ _ _ _ _ _ _ it s₂) _ _); refine Stop.mk ?_))
local macro_rules | `(tactic| walk_at "pyIter ref") => mc10
local macro_rules | `(tactic| walk_at "exec If") => `(tactic| ((with_reducible show wpAny _ _ (exec (Stmt.If (Expr.Name _ _) _ _ _) _) _ _ _); refine Stop.mk ?_))
set_option maxHeartbeats 8000000 in
theorem ell_any {w : World} {p : Program} {loose : List Str} {mean : ExcName → Option Value} {mg mb : Str → Option Value} {dp un : Nat} {fr : Option (List Env)} {gd : Option (List Code)} {s0 : Shared} {R : Result → Shared → Prop} {H : Heap}
    (G : Gd w p loose mean mg mb H) (k : Ext H s0.heap) (hdp : dp + 10 < recursionLimit)
    {W g p0 p1 : PySem.Str} {r : List PySem.Str} {tw tg : Tok} (hc : (Builtin.Str.occurrences W (PySem.Str.ofString "...") 0 W.length 1).isEmpty = false) (hsz : W.length + 2 ≤ sizeLine) (hgz : g.length ≤ 1000) (hs : Txt.split W (PySem.Str.ofString "...") = p0 :: p1 :: r)
    (z0 : p0.length ≤ 1000) (z1 : p1.length ≤ 1000) (zr : ∀ p ∈ r, p.length ≤ 1000) (hrl : r.length ≤ 500)
    (hR : ∀ b h' tk, b = ellE g (p0 :: p1 :: r) → Ext s0.heap h' → R (.ok (.ret (.bool b))) { s0 with heap := h', toks := tk }) :
    codeAny (model PR w) (Ar dp un fr gd) (.call (.ref 111) ⟨[.str W tw, .str g tg], []⟩) R s0 := by
  have za : ∀ p ∈ p0 :: p1 :: r, p.length ≤ 1000 := by intro p hp; rcases List.mem_cons.mp hp with rfl | hp; exact z0; rcases List.mem_cons.mp hp with rfl | hp; exact z1; exact zr p hp
  have zb : ∀ p ∈ p1 :: r, p.length ≤ 1000 := fun p hp => za p (.tail _ hp)
  have X := G.X.keeps k
  have T := G.T.keeps k
  unfold PR; revert X; k_fill; intro X
  refine' enter_ok X T ?k6 ?k7 ?k8 ?k9 ?kB ?_ ?c2 ?c3 ?c4 ?c5
  (case k6 => k_is)
  (case k7 => k_is)
  (case k8 => k_room)
  (case k9 => exact kp_binds X (fun _ => rfl))
  (case kB => exact locs rfl)
  (case c2 => exact rfl)
  (case c3 => exact rfl)
  (case c4 => exact rfl)
  (case c5 => decide)
  intro L h₁ F N
  (try dsimp only)
  k_unmd
  k_fold
  k_steps
  all_goals (try (refine ofStop ?_; (with_reducible show wpAny _ _ (call (Value.builtin "str.split") [Value.str _ _, Value.str _ _]) _ _ _); k_dflt (refine' split_known ?z1_F ?z1_N ?z1_y ?z1_hs ?z1_z ?_; (case z1_F => k_asm); (case z1_N => k_asm); (case z1_y => exact rfl); (case z1_hs => assumption); (case z1_z => assumption); k_whole); intro D' l' h' k' e' F' N' l1; (try k_lt l1); (have hS' := strs_of e'); obtain ⟨t1', vs1', q1', hS1'⟩ := StrsAre.cons_inv hS'; rw [q1'] at N' hS'; obtain ⟨t2', vs2', q2', hS2'⟩ := StrsAre.cons_inv hS1'; (rw [q2'] at N' hS' hS1'); clear e' q1' q2'; k_steps))
  all_goals (try (refine ofStop ?_; (with_reducible show wpAny _ _ (call (Value.builtin "len") [Value.ref _]) _ _ _); k_dflt (refine' len_sl ?z2_N ?z2_m ?z2_s ?z2_z ?z2_z2 ?_; (case z2_N => k_asm); (case z2_m => k_mem); (case z2_s => assumption); (case z2_z => (simp only [List.length_cons]; omega)); (case z2_z2 => (simp only [List.length_cons]; omega)); k_whole); intro k' k2'; k_steps))
  all_goals (try (refine ofStop ?_; (with_reducible show wpAny _ _ (subscriptTail _ _ (Value.ref _) (Value.int _ _)) _ _ _); k_dflt (refine' item_head ?z3_N ?z3_m ?z3_k ?_ ?z3_ks ?z3_kg; (case z3_N => k_asm); (case z3_m => k_mem); (case z3_k => (first | rfl | omega)); (case z3_ks => with_unfolding_all rfl); (case z3_kg => intro _; with_unfolding_all rfl); k_whole); k_steps))
  all_goals first
    | (exact absurd (hc.symm.trans (by assumption)) Bool.false_ne_true)
    | (with_reducible refine ofStop ?_)
    | (exfalso; omega)
  rename Fr _ _ _ _ => F9
  rename News _ _ _ _ => N9
  refine cut (PySem.Str.ofString "startpos") (fun a vs => ∃ qs, Left1 g (ellE g (p0 :: p1 :: r)) a vs qs) (ellE g (p0 :: p1 :: r) = false) F9 N9 ?cut_walk ?cut_next ?cut_stop
  case cut_walk =>
    clear hR
    refine wpAny_If ?_
    k_steps
    all_goals (try (refine ofStop ?_; (with_reducible show wpAny _ _ (delItem (Value.ref _) (Value.int _ _)) _ _ _); k_dflt (refine' del_head ?z4_F ?z4_N ?z4_k ?z4_U ?z4_z ?_; (case z4_F => k_asm); (case z4_N => k_asm); (case z4_k => (first | rfl | omega)); (case z4_U => k_upd); (case z4_z => (have q1 := StrsAre.length (by assumption); simp only [List.length_cons] at q1 ⊢; omega)); k_whole); intro h' F' N'; (try dsimp only [List.nil_append, List.cons_append] at N'); k_steps))
    all_goals (rename Fr _ _ _ _ => Fz; rename News _ _ _ _ => Nz)
    all_goals first
      | exact CutP.go Fz Nz ⟨_, hS1', List.cons_ne_nil _ _, zb, ell_len hrl, Int.natCast_nonneg _, Int.ofNat_le.mpr z0, ellE_1 (by assumption) (by assumption)⟩
      | exact CutP.same Fz rfl Nz ⟨_, hS', List.cons_ne_nil _ _, za, ell_len2 hrl, by decide, by decide, ellE_0 (by assumption)⟩
      | (show CutP _ _ _ _ _ _ _ _ _ _ _ (.ret (.bool false)) _; exact CutP.off Fz.keep (ellE_2 (by assumption) (by assumption)))
  case cut_stop =>
    intro h tk hB x9
    k_steps
    show R (.ok (.ret (.bool _))) _
    exact hR _ _ _ hB.symm x9
  case cut_next =>
    clear F9 N9 hS' hS1' hS2' za zb z0 z1 zr hrl hc hs
    intro a9 ta9 vs9 n9 h9 tk9 hJ F9 N9
    obtain ⟨qs, lf⟩ := hJ
    have hS := lf.s
    have hz := lf.z
    k_steps
    all_goals (try (refine ofStop ?_; (with_reducible show wpAny _ _ (subscriptTail _ _ (Value.ref _) (Value.int _ _)) _ _ _); k_dflt (refine' item_last ?z5_N ?z5_m ?z5_s ?z5_n ?z5_z ?z5_k ?_ ?z5_ks ?z5_kg; (case z5_N => k_asm); (case z5_m => k_mem); (case z5_s => assumption); (case z5_n => exact lf.ne); (case z5_z => assumption); (case z5_k => (first | rfl | omega)); (case z5_ks => with_unfolding_all rfl); (case z5_kg => intro _; with_unfolding_all rfl); k_whole); intro t' pl' pe' pz'; k_steps))
    refine ofStop ?_
    rename Fr _ _ _ _ => F9
    rename News _ _ _ _ => N9
    refine cut (PySem.Str.ofString "endpos") (fun b vs => ∃ rs, Left2 g (tailE g qs a9 g.length) a9 b vs rs) (tailE g qs a9 g.length = false) F9 N9 ?cut_walk ?cut_next ?cut_stop
    case cut_walk =>
      clear hR
      refine wpAny_If ?_
      k_steps
      all_goals (try (refine ofStop ?_; (with_reducible show wpAny _ _ (delItem (Value.ref _) (Value.int _ _)) _ _ _); k_dflt (refine' del_last ?z6_F ?z6_N ?z6_s ?z6_n ?z6_k ?z6_U ?z6_z ?_; (case z6_F => k_asm); (case z6_N => k_asm); (case z6_U => k_upd); (case z6_s => assumption); (case z6_n => exact lf.ne); (case z6_k => (first | rfl | omega)); (case z6_z => exact lf.l); k_whole); intro h' F' N'; (try dsimp only [List.nil_append, List.cons_append] at N'); k_steps))
      all_goals (rename Fr _ _ _ _ => Fz; rename News _ _ _ _ => Nz)
      all_goals first
        | exact CutP.go Fz Nz ⟨_, strs_dropLast hS, le_drop hz, tailE_1 pe' (by assumption) (by assumption)⟩
        | exact CutP.same Fz rfl Nz ⟨_, hS, hz, tailE_0 pe' (by assumption)⟩
        | (show CutP _ _ _ _ _ _ _ _ _ _ _ (.ret (.bool false)) _; exact CutP.off Fz.keep (tailE_2 pe' (by assumption) (by assumption)))
    case cut_stop =>
      intro h tk hB x9
      k_steps
      show R (.ok (.ret (.bool _))) _
      exact hR _ _ _ (lf.e.trans hB).symm x9
    case cut_next =>
      clear F9 N9 hS hz pe' pz'
      intro b9 tb9 vs8 n8 h8 tk8 hJ F9 N9
      obtain ⟨rs, lg⟩ := hJ
      have hS := lg.s
      have hz := lg.z
      k_steps
      all_goals (try (refine ofStop ?_; (with_reducible show wpAny _ _ (pyIter (Value.ref _)) (fun it s₂ => LoopAtV _ _ _ _ _ _ _ _ _ it s₂) _ _); k_dflt (refine' ell_loop (y := PySem.Str.ofString "startpos") ?z7_yx ?z7_hg ?z7_hb ?z7_hh ?z7_hl ?z7_hS ?z7_hz ?z7_F ?z7_N ?z7_hy ?_ ?_; (case z7_F => k_asm); (case z7_N => k_asm); (case z7_yx => decide); (case z7_hg => exact rfl); (case z7_hb => exact rfl); (case z7_hy => exact rfl); (case z7_hh => rfl); (case z7_hl => k_mem); (case z7_hS => first | assumption | exact strs_dropLast (by assumption)); (case z7_hz => first | assumption | exact le_drop (by assumption)); k_whole); (all_goals first | (intro p' t' r' a' ta' h' tk' I' o' zp' e' n' F' N') | (intro u' a' ta' h' tk' e' F' N')); all_goals k_steps))
      all_goals (try (refine ofStop ?_; (with_reducible show wpAny _ _ (call (Value.builtin "str.find") [Value.str _ _, Value.str _ _, Value.int _ _, Value.int _ _]) _ _ _); refine find4 ?_; intro q' qe'; k_steps))
      all_goals (rename Fr _ _ _ _ => Fz; rename News _ _ _ _ => Nz)
      all_goals first
        | (show TurnP _ _ _ _ _ _ _ .next _
           refine TurnE.intro Fz Nz (by assumption) ⟨rfl, _, _, ?_, rfl, fun z h1 h2 => ?_⟩
           · refine (by assumption : loopE _ _ _ _ = loopE _ _ _ _).trans ?_
             subst qe'
             exact if_neg (by assumption)
           · simp only [if_neg h1, if_neg h2])
        | (show R (.ok (.ret (.bool false))) _
           refine hR _ _ _ (lf.e.trans (lg.e.trans ?_)).symm Fz.keep
           first
             | exact if_pos (by assumption)
             | (refine (if_neg (by assumption)).trans ((by assumption : loopE _ _ _ _ = loopE _ _ _ _).trans ?_); subst qe'; exact if_pos (by assumption)))
        | (show R (.ok (.ret (.bool true))) _
           exact hR _ _ _ (lf.e.trans (lg.e.trans ((if_neg (by assumption)).trans (by assumption : loopE _ _ _ _ = true)))).symm Fz.keep)
        | fail "end"

set_option maxHeartbeats 8000000 in
theorem ell_no {w : World} {p : Program} {loose : List Str} {mean : ExcName → Option Value} {mg mb : Str → Option Value} {dp un : Nat} {fr : Option (List Env)} {gd : Option (List Code)} {s0 : Shared} {R : Result → Shared → Prop} {H : Heap}
    (G : Gd w p loose mean mg mb H) (k : Ext H s0.heap) (hdp : dp + 10 < recursionLimit)
    {W g : PySem.Str} {tw tg : Tok} (hc : (Builtin.Str.occurrences W (PySem.Str.ofString "...") 0 W.length 1).isEmpty = true)
    (hR : ∀ h' tk, Ext s0.heap h' → R (.ok (.ret (.bool (W == g)))) { s0 with heap := h', toks := tk }) :
    codeAny (model PR w) (Ar dp un fr gd) (.call (.ref 111) ⟨[.str W tw, .str g tg], []⟩) R s0 := by
  have X := G.X.keeps k
  have T := G.T.keeps k
  unfold PR; revert X; k_fill; intro X
  refine' enter_ok X T ?k6 ?k7 ?k8 ?k9 ?kB ?_ ?c2 ?c3 ?c4 ?c5
  (case k6 => k_is)
  (case k7 => k_is)
  (case k8 => k_room)
  (case k9 => exact kp_binds X (fun _ => rfl))
  (case kB => exact locs rfl)
  (case c2 => exact rfl)
  (case c3 => exact rfl)
  (case c4 => exact rfl)
  (case c5 => decide)
  intro L h₁ F N
  (try dsimp only)
  k_unmd
  k_fold
  k_steps
  all_goals first
    | (exfalso; omega)
    | (exact absurd (hc.symm.trans (by assumption)) Bool.false_ne_true.symm)
    | (show R (.ok (.ret (.bool _))) _
       rename Fr _ _ _ _ => F9
       exact hR _ _ F9.keep)
end
section
section
open PySem.Builtin PySem.AutoSeq1

variable {prog : Program} {w : World} {A : Around} {E : Value → Shared → Prop} {s : Shared}

theorem nextOf_tuple_item {it l : Addr} {i : Nat} {items} {x : Value} {Q : Value → Shared → Prop} (hit : s.heap.IsTupleIter it l i)
    (hl : s.heap.IsTuple l items) (hx : items[i]? = some x)
    (hQ : ∀ h', h'.IsTupleIter it l (i + 1) → Heap.SameBut it s.heap h' → Q x { s with heap := h' }) :
    wpAny (model prog w) A (Builtin.SmallTypes.nextOf (.ref it)) Q E s := by
  obtain ⟨o, ho, hc, hd⟩ := id hit
  obtain ⟨ol, hol, _, nl, hdl⟩ := hl
  unfold Builtin.SmallTypes.nextOf
  refine wpAny_bind (wpAny_callSpecial?_slot (name := Str.ofString "__next__") hit.typeIs F.slot_tuple_iterator_next
    (wpAny_call_entry F.slot_tuple_iterator_next hit.typeIs F.entry_tuple_iterator_next ?_ (F.args_tuple_iterator_next_1 _)))
  show wpAny _ _ (field (.ref it) 0 >>= _) _ _ s
  refine wpAny_bind (wpAny_field ho hd (x := .ref l) rfl ?_)
  show wpAny _ _ (if (Value.ref l == Value.none) = true then _ else _) _ _ s
  rw [if_neg (show ¬ ((Value.ref l == Value.none) = true) from Bool.false_ne_true)]
  show wpAny _ _ (field (.ref it) 1 >>= _) _ _ s
  refine wpAny_bind (wpAny_field ho hd (x := .int i 0) rfl ?_)
  show wpAny _ _ (seqItems? (.ref l) >>= _) _ _ s
  refine wpAny_bind (wpAny_seqItems hol hdl ?_)
  simp only [Int.toNat_natCast, hx]
  refine wpAny_bind (wpAny_setField ho hd (by simp) (wpAny_pure ⟨x, rfl, wpAny_pure (hQ _ ?_ (Heap.SameBut.update ..))⟩))
  exact ⟨_, Heap.get?_update_self _ ho (Obj.isFreed_of_fields (Obj.data_mapFields hd _)), (Obj.cls_mapFields ..).trans hc, by
    rw [Obj.data_mapFields hd]; simp [rawInt]⟩

theorem nextOf_tuple_end {it l : Addr} {i : Nat} {items} {Q : Value → Shared → Prop} (hh : A.handled = none)
    (hit : s.heap.IsTupleIter it l i) (hl : s.heap.IsTuple l items) (hx : items[i]? = none)
    (hE : ∀ h' e, Heap.ExtBut it s.heap h' → (∃ o, h'.get? e = some o ∧ o.cls = .type "StopIteration") → E (.ref e) { s with heap := h' }) :
    wpAny (model prog w) A (Builtin.SmallTypes.nextOf (.ref it)) Q E s := by
  obtain ⟨o, ho, hc, hd⟩ := id hit
  obtain ⟨ol, hol, _, nl, hdl⟩ := hl
  unfold Builtin.SmallTypes.nextOf
  refine wpAny_bind (wpAny_callSpecial?_slot (name := Str.ofString "__next__") hit.typeIs F.slot_tuple_iterator_next
    (wpAny_call_entry F.slot_tuple_iterator_next hit.typeIs F.entry_tuple_iterator_next ?_ (F.args_tuple_iterator_next_1 _)))
  show wpAny _ _ (field (.ref it) 0 >>= _) _ _ s
  refine wpAny_bind (wpAny_field ho hd (x := .ref l) rfl ?_)
  show wpAny _ _ (if (Value.ref l == Value.none) = true then _ else _) _ _ s
  rw [if_neg (show ¬ ((Value.ref l == Value.none) = true) from Bool.false_ne_true)]
  show wpAny _ _ (field (.ref it) 1 >>= _) _ _ s
  refine wpAny_bind (wpAny_field ho hd (x := .int i 0) rfl ?_)
  show wpAny _ _ (seqItems? (.ref l) >>= _) _ _ s
  refine wpAny_bind (wpAny_seqItems hol hdl ?_)
  simp only [Int.toNat_natCast, hx]
  refine wpAny_bind (wpAny_rule (wpAny_bind (wpAny_setField ho hd (by simp) ?_)))
  show wpAny _ _ (newExc (.type "StopIteration") [] >>= _) _ _ _
  refine wpAny_bind ?_
  simp only [newExc, newTuple]
  refine wpAny_bind (wpAny_newObj_type ?_ (by size_fits))
  refine wpAny_bind (m := firstArgMember _ _) (wpAny_of_eq (a := Value.none) (by first | rfl | (simp only [firstArgMember]; rfl)) ?_)
  refine wpAny_newObj_type ?_ (by size_fits)
  simp only [raiseNew]
  refine wpAny_bind (wpAny_handled ?_)
  first | rw [show A.in1.handled = none from hh] | rw [hh]
  refine wpAny_bind (wpAny_pure (wpAny_throw ?_))
  exact hE _ _ (((Heap.SameBut.update ..).extBut.push _).push _) ⟨_, Heap.get?_push_size _ rfl, rfl⟩

theorem draws_tuple (hh : A.handled = none) (it l : Addr) (hne : l ≠ it) (items : Array Value) :
    Draws prog w A it [it, l] items.size (fun i v => items[i]? = some v) (fun i h => h.IsTupleIter it l i ∧ h.IsTuple l items) where
  live := fun _ _ st => let ⟨o, ho, _⟩ := st.1; ⟨o, ho⟩
  frame := fun _ _ _ st hk => ⟨st.1.at fun o e => hk it (by simp) o e, st.2.at fun o e => hk l (by simp) o e⟩
  item := fun i s Q E hi st hQ => by
    have hx : items[i]? = some items[i] := Array.getElem?_eq_getElem hi
    exact nextOf_tuple_item st.1 st.2 hx fun h' hit' hs' => hQ _ _ _ hx ⟨hit', st.2.extBut hs'.extBut hne⟩ hs'
  done := fun s Q E st hE => nextOf_tuple_end hh st.1 st.2 (Array.getElem?_eq_none (Nat.le_refl _)) hE

theorem meets_enum_tuple (l : Addr) (items : Array Value) (n : Nat) (dct : Option Addr) (sl : Array (Option Value)) :
    Meets (Builtin.«enumerate.__new__» ⟨[.type "enumerate", .ref l], []⟩) (fun _ R s => s.heap.get? l = some { cls := .type "tuple", dict := dct, data := .seq items n, slots := sl } ∧
      R (.ok (.ret (.ref (s.heap.push { cls := .type "tuple_iterator", data := .fields #[.ref l, .int 0 0] }).objs.size)))
        { s with heap := (s.heap.push { cls := .type "tuple_iterator", data := .fields #[.ref l, .int 0 0] }).push { cls := .type "enumerate", data := .fields #[.none, .bool false, .ref s.heap.objs.size, rawInt 0, .none, .none] } }) :=
  .of_wp fun prog w A R s h => by
    obtain ⟨hp, g, d, tk, os⟩ := s; obtain ⟨hl, h⟩ := h
    have hsub := sub_enumerate
    have hL : Heap.IsTuple (Shared.heap ⟨hp, g, d, tk, os⟩) l items := ⟨_, hl, rfl, n, rfl⟩
    wp_walk using wpAny_loadPart' hl
    refine wpAny_stack_any fun st => wpAny_pure ?_
    split
    · rename_i c _ _ _ _ _
      cases (c == Value.type "enumerate")
      · wp_walk using wpAny_loadPart' hl, wpAny_pyIter_tuple hL
        exact ⟨_, rfl, h⟩
      · wp_walk using wpAny_loadPart' hl, wpAny_pyIter_tuple hL
        exact ⟨_, rfl, h⟩
    · wp_walk using wpAny_loadPart' hl, wpAny_pyIter_tuple hL
      exact ⟨_, rfl, h⟩

theorem call_enum_tuple {l : Addr} {items : Array Value} {Q : Value → Shared → Prop} (hL : s.heap.IsTuple l items)
    (h : ∀ h', IsEnum h' (s.heap.objs.size + 1) s.heap.objs.size 0 .none → h'.IsTupleIter s.heap.objs.size l 0 → h'.objs.size = s.heap.objs.size + 2 →
      (∀ b o, s.heap.get? b = some o → h'.get? b = some o) → Q (.ref (s.heap.objs.size + 1)) { s with heap := h' }) :
    wpAny (model prog w) A (call (.type "enumerate") [.ref l]) Q E s := by
  obtain ⟨⟨c, dct, dt, sl⟩, hl, hc, n, hd⟩ := hL
  replace hc : c = .type "tuple" := hc
  replace hd : dt = .seq items n := hd
  subst hc hd
  refine callType_new F.called_enumerate (by decide) (F.typeCall_enumerate_1 _) (F.newCall_enumerate_1 _) (fun obj => F.args_object_init_2 obj _) F.entry_enumerate_new
    (meets_enum_tuple l items n dct sl) ⟨hl, ?_⟩
  have hz : (s.heap.push { cls := .type "tuple_iterator", data := .fields #[.ref l, .int 0 0] }).objs.size = s.heap.objs.size + 1 := Heap.size_push ..
  show _ ∧ _
  rw [hz]
  have he : IsEnum ((s.heap.push { cls := .type "tuple_iterator", data := .fields #[.ref l, .int 0 0] }).push
      { cls := .type "enumerate", data := .fields #[.none, .bool false, .ref s.heap.objs.size, rawInt 0, .none, .none] }) (s.heap.objs.size + 1) s.heap.objs.size 0 .none := by
    have := Heap.get?_push_size (s.heap.push { cls := .type "tuple_iterator", data := .fields #[.ref l, .int 0 0] })
      (o := { cls := .type "enumerate", data := .fields #[.none, .bool false, .ref s.heap.objs.size, rawInt 0, .none, .none] }) rfl
    rw [hz] at this; exact this
  refine ⟨⟨_, he, rfl⟩, h _ he ⟨_, Heap.get?_push_of_some _ (Heap.get?_push_size _ rfl), rfl, rfl⟩ (by rw [Heap.size_push, hz]) fun b o x => Heap.get?_push_of_some _ (Heap.get?_push_of_some _ x)⟩
end
end
section
open PySem PySem.W PySem.Calls PyProof.Rows PyProof.Rows.LCg
/-- where the loop stands -/
inductive EnI (s : Shared) (items : Array Value) (h₀ : Heap) (L : Addr) (m : PySem.Str → Option Value) (l e it C D : Addr) (news : List (Addr × Obj)) (J : Nat → List Value → Prop) : Nat → Shared → Prop
  | mk (h : Heap) (tk i : Nat) (ys : List Value) (m' : PySem.Str → Option Value) (hi : i ≤ items.size) (hyl : ys.length = i) (hst : (∃ old, IsEnum h e it i old) ∧ h.IsTupleIter it l i ∧ h.IsTuple l items) (F : Fr h₀ L h m) (hn : h.Ns C m') (N : News h₀ L h ((D, lst ys) :: news)) (hJ : J i ys) :
    EnI s items h₀ L m l e it C D news J (items.size + 1 - i) { s with heap := h, toks := tk }
section
variable {prog : Program} {w : World} {A : Around} {E : Value → Shared → Prop} {s : Shared} {h₀ : Heap} {L : Addr} {m : PySem.Str → Option Value} {env : Env} {news : List (Addr × Obj)}

/-- a comprehension whose target is a pair, over enumerate of a tuple of the base; its element leaves nothing behind -/
theorem comp_enum {elt : PySem.Expr} {a b : PySem.Str} {iter : PySem.Expr} {pa pb tp : Pos} {kk : Nat} {scope : Scope} {cl : List (PySem.Str × Addr)} {pos : Pos} {items : Array Value} {Q : Value → Shared → Prop} (J : Nat → List Value → Prop)
    (hh : A.handled = none) (hclos : closureFor scope env = pure cl) (hcell : ∀ y ∈ scope.names, y.2 ≠ .cell) (hkind : scope.kind = .function)
    (hnames : ∀ y ∈ scope.names, y.2 = .local → scope.names.lookup y.1 = some .local) (hxa : scope.names.lookup a = some .local) (hxb : scope.names.lookup b = some .local) (hab : ¬ a = b) (hsz : items.size ≤ sizeLine)
    (h : wpAny (model prog w) A (eval iter env) (fun xv s₁ => ∃ l h₁ tk₁, xv = .ref (h₁.objs.size + 1) ∧ (∃ h₂, s₁ = { s with heap := h₂, toks := tk₁ } ∧ IsEnum h₂ (h₁.objs.size + 1) h₁.objs.size 0 .none ∧ h₂.IsTupleIter h₁.objs.size l 0 ∧ (∀ b o, h₁.get? b = some o → h₂.get? b = some o)) ∧ h₀.IsTuple l items ∧ Fr h₀ L h₁ m ∧ News h₀ L h₁ news) E s)
    (hJ : J 0 [])
    (turn : ∀ i x t ys h tk e it C D oe oi oC m₂ (E' : Value → Shared → Prop), items[i]? = some x → J i ys → NsObj oC m₂ → m₂ a = some (.int (i : Int) t) → m₂ b = some x → Fr h₀ L h m → News h₀ L h ((e, oe) :: (it, oi) :: (C, oC) :: (D, lst ys) :: news) →
      wpAny (model prog w) A (eval elt (compEnvC scope cl C env)) (fun y s' => ∃ h' tk', s' = { s with heap := h', toks := tk' } ∧ Fr h₀ L h' m ∧ News h₀ L h' ((e, oe) :: (it, oi) :: (C, oC) :: (D, lst ys) :: news) ∧ J (i + 1) (ys ++ [y])) E' { s with heap := h, toks := tk })
    (fin : ∀ ys D h tk, J items.size ys → Fr h₀ L h m → News h₀ L h ((D, lst ys) :: news) → AllNe D news → Q (.ref D) { s with heap := h, toks := tk })
    (hs : ∀ x, foldedSetIterable iter env x = pure x := by intro _; rfl) :
    wpAny (model prog w) A (eval (.ListComp elt [⟨.Tuple [.Name a pa, .Name b pb] kk tp, iter, [], 0⟩] scope pos) env) Q E s := by
  rw [eval_ListComp]
  refine wpAny_comprehension_free (use := none) rfl hs hclos hkind hnames (wpAny_mono h (fun xv s₁ h₁ => ?_) fun _ _ e => e)
  obtain ⟨l, g₁, tk₁, rfl, ⟨g₂, rfl, he, hi, hk⟩, ht, F₁, N₁⟩ := h₁
  have hlt : @LT.lt Nat _ l g₁.objs.size := by obtain ⟨o, e, _⟩ := ht; exact Heap.lt_size (F₁.keep _ _ e)
  have hgs : @LT.lt Nat _ (g₁.objs.size + 1) g₂.objs.size := Heap.lt_size he
  have F₂ : Fr h₀ L g₂ m := F₁.keeps hk
  have N₂ : News h₀ L g₂ news := N₁.grown hk
  have hLlt₁ : @LT.lt Nat _ L g₁.objs.size := F₁.ns.lt
  have nlt : ∀ p ∈ news, @LT.lt Nat _ p.1 g₁.objs.size := fun p hp => Heap.lt_size (N₁ p hp).1
  refine wpAny_pyIter_enum he ?_
  refine wpAny_newObj_type (wpAny_newFunctionEnv hcell (by intro y hy; simp at hy) (fun h₁ hns₁ hsb₁ => ?_) hkind)
  dsimp only at hns₁ hsb₁ ⊢
  generalize hH2 : g₂.push { cls := .type "list", dict := none, data := .seq ([] : List Value).toArray } = H2 at hns₁ hsb₁ ⊢
  generalize he1 : g₁.objs.size + 1 = e at *
  generalize he2 : g₁.objs.size = it at *
  generalize hD : g₂.objs.size = D at *
  have hC : H2.objs.size = D + 1 := by rw [← hH2, Heap.size_push, hD]
  generalize hCC : H2.objs.size = C at *
  have oDC : @LT.lt Nat _ D C := by rw [hC]; exact Nat.lt_succ_self _
  have oeD : @LT.lt Nat _ e D := hgs
  have oie : @LT.lt Nat _ it e := by rw [← he1]; exact Nat.lt_succ_self _
  have old : ∀ b o, g₂.get? b = some o → h₁.get? b = some o := fun b o e => hsb₁.extBut b o (by have q : @LT.lt Nat _ b g₂.objs.size := Heap.lt_size e; show @Ne Nat _ _; omega) (Heap.get?_push_of_some _ (hH2 ▸ Heap.get?_push_of_some _ e))
  have hacc : h₁.get? D = some (lst []) := hsb₁.extBut _ _ (by first | (show @Ne Nat _ _; fail "ne?") | (show @LT.lt Nat _ _ _; fail "lt?") | (show @Ne Nat _ _; refine orNe zl ?_ ?_; fail "ne?"; first | exact Nat.le_refl _ | exact Nat.le_of_lt (by fail "lt?")) | omega | (show @Ne Nat _ _; omega) | (show @LT.lt Nat _ _ _; omega)) (Heap.get?_push_of_some _ (hH2 ▸ hD ▸ Heap.get?_push_size _ rfl))
  have none0 : ∀ a : Nat, @LT.lt Nat _ L a → h₀.get? a = none := fun a ha => Heap.get?_none_of_le (Nat.le_of_lt (Nat.lt_of_le_of_lt F₂.above ha))
  have W := WalksT.enumerateD (draws_tuple (prog := prog) (w := w) (A := A.in1) hh it l (by first | (show @Ne Nat _ _; fail "ne?") | (show @LT.lt Nat _ _ _; fail "lt?") | (show @Ne Nat _ _; refine orNe zl ?_ ?_; fail "ne?"; first | exact Nat.le_refl _ | exact Nat.le_of_lt (by fail "lt?")) | omega | (show @Ne Nat _ _; omega) | (show @LT.lt Nat _ _ _; omega)) items) e (by first | (show @Ne Nat _ _; fail "ne?") | (show @LT.lt Nat _ _ _; fail "lt?") | (show @Ne Nat _ _; refine orNe zl ?_ ?_; fail "ne?"; first | exact Nat.le_refl _ | exact Nat.le_of_lt (by fail "lt?")) | omega | (show @Ne Nat _ _; omega) | (show @LT.lt Nat _ _ _; omega)) (fun hm => by
    rcases List.mem_cons.mp hm with q | hm
    · have q' : @Eq Nat e it := q; omega
    · have q' : @Eq Nat e l := List.mem_singleton.mp hm; omega) (by simp)
  have loop : ∀ s₃ : Shared, s₃ = { s with heap := h₁, toks := tk₁ + ([] : List (PySem.Str × Value)).length } →
      codeAny (model prog w) A (.compLoop (.ListComp elt [⟨.Tuple [.Name a pa, .Name b pb] kk tp, iter, [], 0⟩] scope pos) 0 (.ref e) (.ref D) (compEnvC scope cl C env))
        (compPost (model prog w) A E none Q (.ref D) C) s₃ := by
    rintro s₃ rfl
    refine kcp_loop
      (EnI s items h₀ L m l e it C D news J) ?_ (items.size + 1)
      (EnI.mk h₁ _ 0 [] _ (Nat.zero_le _) rfl ⟨⟨_, old _ _ he⟩, hi.at fun o e => old _ _ e, ?_⟩ (F₂.keeps old) hns₁ (fun p hp => ?_) hJ)
    · rintro _ _ ⟨h', tk, i, ys, m', hin, hyl, hst, F', hn', N', hJ'⟩
      by_cases hlt : i < items.size
      · refine W.item i _ _ _ hlt hst fun T vals h₂ tk₂ hPt hTs hT hMid hk₂ => ?_
        refine W.go _ _ _ i T _ _ _ hMid fun h₃ hst₃ hk₃ => ?_
        obtain ⟨t, x, hx, rfl⟩ := hPt
        have up₃ : ∀ c o, c ≠ e → c ≠ it → h'.get? c = some o → h₃.get? c = some o := fun c o h1 h2 q => hk₃ c o (by simp [h1, h2]) (hk₂ c o (by simp [h1, h2]) q)
        have hTn : T ≠ e ∧ T ≠ it := by have := W.apart _ _ _ hMid; simpa using this
        have hT₃ : h₃.IsTuple T #[.int i t, x] := hT.at fun o q => hk₃ _ o (by simp [hTn.1, hTn.2]) q
        refine kcp_assign (env := compEnvC scope cl C env) hh hT₃ (lookup_relabel_local hxa) (lookup_relabel_local hxb) (by simp [compEnvC, relabel, hkind]) (hn'.at' fun o q => up₃ _ o (by show @Ne Nat C e; omega) (by show @Ne Nat C it; omega) q) fun h₄ tk₄ hn₄ hs₄ => ?_
        have hs₄' : ∀ c o, c ≠ C → h₃.get? c = some o → h₄.get? c = some o := hs₄
        have up : ∀ c o, c ≠ e → c ≠ it → c ≠ C → h'.get? c = some o → h₄.get? c = some o := fun c o h1 h2 h3 q => hs₄' c o h3 (up₃ c o h1 h2 q)
        have hst₄ : (∃ old, IsEnum h₄ e it ((i + 1 : Nat) : Int) old) ∧ h₄.IsTupleIter it l (i + 1) ∧ h₄.IsTuple l items :=
          ⟨let ⟨old, q⟩ := hst₃.1; ⟨old, hs₄' e _ (by first | (show @Ne Nat _ _; fail "ne?") | (show @LT.lt Nat _ _ _; fail "lt?") | (show @Ne Nat _ _; refine orNe zl ?_ ?_; fail "ne?"; first | exact Nat.le_refl _ | exact Nat.le_of_lt (by fail "lt?")) | omega | (show @Ne Nat _ _; omega) | (show @LT.lt Nat _ _ _; omega)) q⟩, hst₃.2.1.at fun o q => hs₄' it o (by first | (show @Ne Nat _ _; fail "ne?") | (show @LT.lt Nat _ _ _; fail "lt?") | (show @Ne Nat _ _; refine orNe zl ?_ ?_; fail "ne?"; first | exact Nat.le_refl _ | exact Nat.le_of_lt (by fail "lt?")) | omega | (show @Ne Nat _ _; omega) | (show @LT.lt Nat _ _ _; omega)) q, hst₃.2.2.at fun o q => hs₄' l o (by first | (show @Ne Nat _ _; fail "ne?") | (show @LT.lt Nat _ _ _; fail "lt?") | (show @Ne Nat _ _; refine orNe zl ?_ ?_; fail "ne?"; first | exact Nat.le_refl _ | exact Nat.le_of_lt (by fail "lt?")) | omega | (show @Ne Nat _ _; omega) | (show @LT.lt Nat _ _ _; omega)) q⟩
        obtain ⟨oe, heoe⟩ : ∃ o, h₄.get? e = some o := let ⟨old, q⟩ := hst₄.1; ⟨_, q⟩
        obtain ⟨oi, hioi⟩ : ∃ o, h₄.get? it = some o := let ⟨o, q, _⟩ := hst₄.2.1; ⟨o, q⟩
        obtain ⟨oC, heC, hoC⟩ := ns_obj hn₄
        have F₄ : Fr h₀ L h₄ m := ⟨F'.ns.at' fun o q => up _ o (by first | (show @Ne Nat _ _; fail "ne?") | (show @LT.lt Nat _ _ _; fail "lt?") | (show @Ne Nat _ _; refine orNe zl ?_ ?_; fail "ne?"; first | exact Nat.le_refl _ | exact Nat.le_of_lt (by fail "lt?")) | omega | (show @Ne Nat _ _; omega) | (show @LT.lt Nat _ _ _; omega)) (by first | (show @Ne Nat _ _; fail "ne?") | (show @LT.lt Nat _ _ _; fail "lt?") | (show @Ne Nat _ _; refine orNe zl ?_ ?_; fail "ne?"; first | exact Nat.le_refl _ | exact Nat.le_of_lt (by fail "lt?")) | omega | (show @Ne Nat _ _; omega) | (show @LT.lt Nat _ _ _; omega)) (by first | (show @Ne Nat _ _; fail "ne?") | (show @LT.lt Nat _ _ _; fail "lt?") | (show @Ne Nat _ _; refine orNe zl ?_ ?_; fail "ne?"; first | exact Nat.le_refl _ | exact Nat.le_of_lt (by fail "lt?")) | omega | (show @Ne Nat _ _; omega) | (show @LT.lt Nat _ _ _; omega)) q, fun c o q => up c o (fun q' => by rw [q', none0 e (by first | (show @Ne Nat _ _; fail "ne?") | (show @LT.lt Nat _ _ _; fail "lt?") | (show @Ne Nat _ _; refine orNe zl ?_ ?_; fail "ne?"; first | exact Nat.le_refl _ | exact Nat.le_of_lt (by fail "lt?")) | omega | (show @Ne Nat _ _; omega) | (show @LT.lt Nat _ _ _; omega))] at q; cases q) (fun q' => by rw [q', none0 it (by first | (show @Ne Nat _ _; fail "ne?") | (show @LT.lt Nat _ _ _; fail "lt?") | (show @Ne Nat _ _; refine orNe zl ?_ ?_; fail "ne?"; first | exact Nat.le_refl _ | exact Nat.le_of_lt (by fail "lt?")) | omega | (show @Ne Nat _ _; omega) | (show @LT.lt Nat _ _ _; omega))] at q; cases q) (fun q' => by rw [q', none0 C (by first | (show @Ne Nat _ _; fail "ne?") | (show @LT.lt Nat _ _ _; fail "lt?") | (show @Ne Nat _ _; refine orNe zl ?_ ?_; fail "ne?"; first | exact Nat.le_refl _ | exact Nat.le_of_lt (by fail "lt?")) | omega | (show @Ne Nat _ _; omega) | (show @LT.lt Nat _ _ _; omega))] at q; cases q) (F'.keep c o q), F'.above⟩
        have N₄ : News h₀ L h₄ ((e, oe) :: (it, oi) :: (C, oC) :: (D, lst ys) :: news) := fun q hq => by
          rcases List.mem_cons.mp hq with rfl | hq
          · exact ⟨heoe, by show e ≠ L; first | fail "ne?" | omega, none0 _ (by show @LT.lt Nat _ L e; first | fail "lt?" | omega)⟩
          · rcases List.mem_cons.mp hq with rfl | hq
            · exact ⟨hioi, by show it ≠ L; first | fail "ne?" | omega, none0 _ (by show @LT.lt Nat _ L it; first | fail "lt?" | omega)⟩
            · rcases List.mem_cons.mp hq with rfl | hq
              · exact ⟨heC, by show C ≠ L; first | fail "ne?" | omega, none0 _ (by show @LT.lt Nat _ L C; first | fail "lt?" | omega)⟩
              · have z := N' q hq
                have zl : @Eq Nat q.1 D ∨ @LT.lt Nat _ q.1 it := by
                  rcases List.mem_cons.mp hq with rfl | hq
                  · exact .inl rfl
                  · exact .inr (nlt q hq)
                exact ⟨up _ _ (by first | (show @Ne Nat _ _; fail "ne?") | (show @LT.lt Nat _ _ _; fail "lt?") | (show @Ne Nat _ _; refine orNe zl ?_ ?_; fail "ne?"; first | exact Nat.le_refl _ | exact Nat.le_of_lt (by fail "lt?")) | omega | (show @Ne Nat _ _; omega) | (show @LT.lt Nat _ _ _; omega)) (by first | (show @Ne Nat _ _; fail "ne?") | (show @LT.lt Nat _ _ _; fail "lt?") | (show @Ne Nat _ _; refine orNe zl ?_ ?_; fail "ne?"; first | exact Nat.le_refl _ | exact Nat.le_of_lt (by fail "lt?")) | omega | (show @Ne Nat _ _; omega) | (show @LT.lt Nat _ _ _; omega)) (by first | (show @Ne Nat _ _; fail "ne?") | (show @LT.lt Nat _ _ _; fail "lt?") | (show @Ne Nat _ _; refine orNe zl ?_ ?_; fail "ne?"; first | exact Nat.le_refl _ | exact Nat.le_of_lt (by fail "lt?")) | omega | (show @Ne Nat _ _; omega) | (show @LT.lt Nat _ _ _; omega)) z.1, z.2⟩
        refine wpAny_mono (turn i x t ys h₄ tk₄ e it C D oe oi oC _ _ hx hJ' hoC (by simp [hab]) (by simp) F₄ N₄) (fun y s₅ h₅ => ?_) fun _ _ e => e
        obtain ⟨h₅, tk₅, rfl, F₅, N₅, J₅⟩ := h₅
        have zE := (N₅ (e, oe) (.head _)).1
        have zI := (N₅ (it, oi) (.tail _ (.head _))).1
        have zC := (N₅ (C, oC) (.tail _ (.tail _ (.head _)))).1
        have zD := (N₅ (D, lst ys) (.tail _ (.tail _ (.tail _ (.head _))))).1
        refine append_at (hsz := by show ys.toArray.size ≤ sizeLine; rw [List.size_toArray, hyl]; exact Nat.le_trans hin hsz) zD fun h₆ hs₆ hD₆ => ?_
        have k56 : ∀ c o, c ≠ D → h₅.get? c = some o → h₆.get? c = some o := fun c o hc q => hs₆.extBut c o hc q
        refine ⟨items.size + 1 - (i + 1), by omega, EnI.mk h₆ tk₅ (i + 1) (ys ++ [y]) _ hlt (by rw [List.length_append, List.length_singleton, hyl]) ⟨?_, ?_, ?_⟩ (F₅.change hs₆ (by first | (show @Ne Nat _ _; fail "ne?") | (show @LT.lt Nat _ _ _; fail "lt?") | (show @Ne Nat _ _; refine orNe zl ?_ ?_; fail "ne?"; first | exact Nat.le_refl _ | exact Nat.le_of_lt (by fail "lt?")) | omega | (show @Ne Nat _ _; omega) | (show @LT.lt Nat _ _ _; omega)) (none0 D (by first | (show @Ne Nat _ _; fail "ne?") | (show @LT.lt Nat _ _ _; fail "lt?") | (show @Ne Nat _ _; refine orNe zl ?_ ?_; fail "ne?"; first | exact Nat.le_refl _ | exact Nat.le_of_lt (by fail "lt?")) | omega | (show @Ne Nat _ _; omega) | (show @LT.lt Nat _ _ _; omega))))
          ((hoC.ns zC).sameBut hs₆ (by first | (show @Ne Nat _ _; fail "ne?") | (show @LT.lt Nat _ _ _; fail "lt?") | (show @Ne Nat _ _; refine orNe zl ?_ ?_; fail "ne?"; first | exact Nat.le_refl _ | exact Nat.le_of_lt (by fail "lt?")) | omega | (show @Ne Nat _ _; omega) | (show @LT.lt Nat _ _ _; omega))) (fun q hq => ?_) J₅⟩
        · obtain ⟨old, q⟩ := hst₄.1
          refine ⟨old, k56 e _ (by first | (show @Ne Nat _ _; fail "ne?") | (show @LT.lt Nat _ _ _; fail "lt?") | (show @Ne Nat _ _; refine orNe zl ?_ ?_; fail "ne?"; first | exact Nat.le_refl _ | exact Nat.le_of_lt (by fail "lt?")) | omega | (show @Ne Nat _ _; omega) | (show @LT.lt Nat _ _ _; omega)) ?_⟩
          have q' : h₄.get? e = some _ := q
          rw [heoe] at q'
          show h₅.get? e = some _
          rw [zE]; exact q'
        · obtain ⟨o, q, r⟩ := hst₄.2.1
          rw [hioi] at q
          exact ⟨oi, k56 it _ (by first | (show @Ne Nat _ _; fail "ne?") | (show @LT.lt Nat _ _ _; fail "lt?") | (show @Ne Nat _ _; refine orNe zl ?_ ?_; fail "ne?"; first | exact Nat.le_refl _ | exact Nat.le_of_lt (by fail "lt?")) | omega | (show @Ne Nat _ _; omega) | (show @LT.lt Nat _ _ _; omega)) zI, by cases q; exact r⟩
        · obtain ⟨o, q, r⟩ := ht
          exact ⟨o, k56 l _ (by first | (show @Ne Nat _ _; fail "ne?") | (show @LT.lt Nat _ _ _; fail "lt?") | (show @Ne Nat _ _; refine orNe zl ?_ ?_; fail "ne?"; first | exact Nat.le_refl _ | exact Nat.le_of_lt (by fail "lt?")) | omega | (show @Ne Nat _ _; omega) | (show @LT.lt Nat _ _ _; omega)) (F₅.keep _ _ q), r⟩
        · rcases List.mem_cons.mp hq with rfl | hq
          · exact ⟨hD₆.trans (congrArg some (lst_snoc ys y)), by show D ≠ L; first | fail "ne?" | omega, none0 _ (by show @LT.lt Nat _ L D; first | fail "lt?" | omega)⟩
          · have z := N₅ q (.tail _ (.tail _ (.tail _ (.tail _ hq))))
            exact ⟨k56 _ _ (by have q9 : @LT.lt Nat _ q.1 it := nlt q hq; show @Ne Nat _ _; omega) z.1, z.2⟩
      · have hin : i = items.size := by omega
        subst hin
        refine W.done _ _ _ hst fun h₂ tk₂ hk₂ => ?_
        have k2 : ∀ c o, c ≠ e → c ≠ it → h'.get? c = some o → h₂.get? c = some o := fun c o h1 h2 q => hk₂ c o (by simp [h1, h2]) q
        refine ⟨m', hn'.at' fun o q => k2 _ o (by first | (show @Ne Nat _ _; fail "ne?") | (show @LT.lt Nat _ _ _; fail "lt?") | (show @Ne Nat _ _; refine orNe zl ?_ ?_; fail "ne?"; first | exact Nat.le_refl _ | exact Nat.le_of_lt (by fail "lt?")) | omega | (show @Ne Nat _ _; omega) | (show @LT.lt Nat _ _ _; omega)) (by first | (show @Ne Nat _ _; fail "ne?") | (show @LT.lt Nat _ _ _; fail "lt?") | (show @Ne Nat _ _; refine orNe zl ?_ ?_; fail "ne?"; first | exact Nat.le_refl _ | exact Nat.le_of_lt (by fail "lt?")) | omega | (show @Ne Nat _ _; omega) | (show @LT.lt Nat _ _ _; omega)) q, fun h'' hs'' => ?_⟩
        have k3 : ∀ c o, c ≠ e → c ≠ it → c ≠ C → h'.get? c = some o → h''.get? c = some o := fun c o h1 h2 h3 q => hs''.extBut c o h3 (k2 c o h1 h2 q)
        refine fin ys D h'' tk₂ hJ' ⟨F'.ns.at' fun o q => k3 _ o (by first | (show @Ne Nat _ _; fail "ne?") | (show @LT.lt Nat _ _ _; fail "lt?") | (show @Ne Nat _ _; refine orNe zl ?_ ?_; fail "ne?"; first | exact Nat.le_refl _ | exact Nat.le_of_lt (by fail "lt?")) | omega | (show @Ne Nat _ _; omega) | (show @LT.lt Nat _ _ _; omega)) (by first | (show @Ne Nat _ _; fail "ne?") | (show @LT.lt Nat _ _ _; fail "lt?") | (show @Ne Nat _ _; refine orNe zl ?_ ?_; fail "ne?"; first | exact Nat.le_refl _ | exact Nat.le_of_lt (by fail "lt?")) | omega | (show @Ne Nat _ _; omega) | (show @LT.lt Nat _ _ _; omega)) (by first | (show @Ne Nat _ _; fail "ne?") | (show @LT.lt Nat _ _ _; fail "lt?") | (show @Ne Nat _ _; refine orNe zl ?_ ?_; fail "ne?"; first | exact Nat.le_refl _ | exact Nat.le_of_lt (by fail "lt?")) | omega | (show @Ne Nat _ _; omega) | (show @LT.lt Nat _ _ _; omega)) q, fun c o q => k3 c o (fun q' => by rw [q', none0 e (by first | (show @Ne Nat _ _; fail "ne?") | (show @LT.lt Nat _ _ _; fail "lt?") | (show @Ne Nat _ _; refine orNe zl ?_ ?_; fail "ne?"; first | exact Nat.le_refl _ | exact Nat.le_of_lt (by fail "lt?")) | omega | (show @Ne Nat _ _; omega) | (show @LT.lt Nat _ _ _; omega))] at q; cases q) (fun q' => by rw [q', none0 it (by first | (show @Ne Nat _ _; fail "ne?") | (show @LT.lt Nat _ _ _; fail "lt?") | (show @Ne Nat _ _; refine orNe zl ?_ ?_; fail "ne?"; first | exact Nat.le_refl _ | exact Nat.le_of_lt (by fail "lt?")) | omega | (show @Ne Nat _ _; omega) | (show @LT.lt Nat _ _ _; omega))] at q; cases q) (fun q' => by rw [q', none0 C (by first | (show @Ne Nat _ _; fail "ne?") | (show @LT.lt Nat _ _ _; fail "lt?") | (show @Ne Nat _ _; refine orNe zl ?_ ?_; fail "ne?"; first | exact Nat.le_refl _ | exact Nat.le_of_lt (by fail "lt?")) | omega | (show @Ne Nat _ _; omega) | (show @LT.lt Nat _ _ _; omega))] at q; cases q) (F'.keep c o q), F'.above⟩ (fun p hp => ?_) (allNe_of fun p hp q => by have q9 : @LT.lt Nat _ p.1 it := nlt p hp; have q8 : @Eq Nat p.1 D := q; omega)
        have z := N' p hp
        have zl : @Eq Nat p.1 D ∨ @LT.lt Nat _ p.1 it := by
          rcases List.mem_cons.mp hp with rfl | hp
          · exact .inl rfl
          · exact .inr (nlt p hp)
        exact ⟨k3 _ _ (by first | (show @Ne Nat _ _; fail "ne?") | (show @LT.lt Nat _ _ _; fail "lt?") | (show @Ne Nat _ _; refine orNe zl ?_ ?_; fail "ne?"; first | exact Nat.le_refl _ | exact Nat.le_of_lt (by fail "lt?")) | omega | (show @Ne Nat _ _; omega) | (show @LT.lt Nat _ _ _; omega)) (by first | (show @Ne Nat _ _; fail "ne?") | (show @LT.lt Nat _ _ _; fail "lt?") | (show @Ne Nat _ _; refine orNe zl ?_ ?_; fail "ne?"; first | exact Nat.le_refl _ | exact Nat.le_of_lt (by fail "lt?")) | omega | (show @Ne Nat _ _; omega) | (show @LT.lt Nat _ _ _; omega)) (by first | (show @Ne Nat _ _; fail "ne?") | (show @LT.lt Nat _ _ _; fail "lt?") | (show @Ne Nat _ _; refine orNe zl ?_ ?_; fail "ne?"; first | exact Nat.le_refl _ | exact Nat.le_of_lt (by fail "lt?")) | omega | (show @Ne Nat _ _; omega) | (show @LT.lt Nat _ _ _; omega)) z.1, z.2⟩
    · obtain ⟨o, q, r⟩ := ht
      exact ⟨o, old _ _ (F₂.keep _ _ q), r⟩
    · rcases List.mem_cons.mp hp with rfl | hp
      · exact ⟨hacc, by show D ≠ L; first | fail "ne?" | omega, none0 _ (by show @LT.lt Nat _ L D; first | fail "lt?" | omega)⟩
      · exact ⟨old _ _ (N₂ p hp).1, (N₂ p hp).2⟩
  exact codeAny_compStart_list (loop _ rfl) (wpAny_pyIter_enum (old _ _ he) (loop _ rfl))
end
end
section
theorem rs21 : True := by
  w_top off
  exact trivial
local macro_rules | `(tactic| walk_at "subscriptTail") => mc7
local macro_rules | `(tactic| walk_at "call ref") => mc8
set_option maxHeartbeats 8000000 in
theorem idm_pos {w : World} {p : Program} {loose : List Str} {mean : ExcName → Option Value} {mg mb : Str → Option Value} {dp un : Nat} {fr : Option (List Env)} {gd : Option (List Code)} {s0 : Shared} {R : Result → Shared → Prop} {H : Heap}
    (G : Gd w p loose mean mg mb H) (k : Ext H s0.heap) (W : Filled s0.heap) (hdp : dp + 30 < recursionLimit)
    {b : Int} {x : Nat} {ta tb : Tok} (hb : b = 8 ∨ b = 16) (hx : x < 256)
    (hR : ∀ D t1 t2 h' tk, Ext s0.heap h' → s0.heap.get? D = none → h'.get? D = some (tupO [.int ((x : Int).fdiv b) t1, .int ((x : Int).fmod b) t2]) → R (.ok (.ret (.ref D))) { s0 with heap := h', toks := tk }) :
    codeAny (model PR w) (Ar dp un fr gd) (.call (.ref 77) ⟨[.int (x : Int) ta, .int b tb], []⟩) R s0 := by
  have X := G.X.keeps k
  have T := G.T.keeps k
  unfold PR; revert X; k_fill; intro X
  refine' enter_ok X T ?k6 ?k7 ?k8 ?k9 ?kB ?_ ?c2 ?c3 ?c4 ?c5
  (case k6 => k_is)
  (case k7 => k_is)
  (case k8 => k_room)
  (case k9 => exact BindsTo.of_eq rfl)
  (case kB => exact locs rfl)
  (case c2 => exact rfl)
  (case c3 => exact rfl)
  (case c4 => exact rfl)
  (case c5 => decide)
  intro L h₁ F N
  (try dsimp only)
  k_unmd
  k_fold
  k_steps
  all_goals (try (refine ofStop ?_; (with_reducible show wpAny _ _ (call (Value.ref 70) _) _ _ _); k_dflt (refine wpAny_call ?_; refine' dpos_warm ?z1_G ?z1_k ?z1_W ?z1_d ?z1_b ?z1_x ?_; (case z1_G => assumption); (case z1_k => exact Ext.trans (by assumption) (Fr.keep (by k_asm))); (case z1_W => exact Filled.ext (by assumption) (Fr.keep (by k_asm))); (case z1_d => k_room); (case z1_b => assumption); (case z1_x => assumption); k_whole); intro D' t1' t2' h' tk' x' f' g'; obtain ⟨F', N', l1⟩ := after1 (by k_asm) (by k_asm) x' f' g'; (try simp only [AllNe, and_true] at l1); clear x' f' g'; (try k_sweep); (try dsimp only); k_steps))
  all_goals (try dsimp only)
  all_goals (try show R (.ok (.ret (.ref _))) _)
  all_goals first
    | (exfalso; omega)
    | (rename Fr _ _ _ _ => F9
       rename News _ _ _ _ => N9
       refine' hR _ _ _ _ _ F9.keep ?cf ?cg
       (case cg => exact News.get N9 (by k_mem))
       (case cf => exact News.fresh N9 (by k_mem)))
theorem inv_known {prog : Program} {w : World} {A : Around} {E : Value → Shared → Prop} {s : Shared} {a c : Int} {t : Tok} {Q : Value → Shared → Prop} (e : Builtin.bitNot a = c) (h : Q (.int c s.toks) { s with toks := s.toks + 1 }) :
    wpAny (model prog w) A (unaryOp .Invert (.int a t)) Q E s := invert_int (by rw [e]; exact h)
local macro_rules | `(tactic| walk_at "unaryOp Invert int") => `(tactic| (k_here; k_dflt (refine inv_known (by assumption) ?_)))
local macro_rules | `(tactic| walk_at "binaryOp Add int int") => `(tactic| (k_here; k_dflt (refine add_known (by assumption) ?_)))
set_option maxHeartbeats 8000000 in
theorem idm_neg {w : World} {p : Program} {loose : List Str} {mean : ExcName → Option Value} {mg mb : Str → Option Value} {dp un : Nat} {fr : Option (List Env)} {gd : Option (List Code)} {s0 : Shared} {R : Result → Shared → Prop} {H : Heap}
    (G : Gd w p loose mean mg mb H) (k : Ext H s0.heap) (W : Filled s0.heap) (hdp : dp + 40 < recursionLimit)
    {b a : Int} {x : Nat} {ta tb : Tok} (hb : b = 8 ∨ b = 16) (hx : x < 256) (ha : -a - 1 = x)
    (hR : ∀ D t1 t2 h' tk, Ext s0.heap h' → s0.heap.get? D = none → h'.get? D = some (tupO [.int (a.fdiv b) t1, .int (a.fmod b) t2]) → R (.ok (.ret (.ref D))) { s0 with heap := h', toks := tk }) :
    codeAny (model PR w) (Ar dp un fr gd) (.call (.ref 77) ⟨[.int a ta, .int b tb], []⟩) R s0 := by
  have hnot : Builtin.bitNot a = (x : Int) := by unfold Builtin.bitNot; omega
  obtain ⟨rr, hrr⟩ : ∃ rr, Builtin.bitNot ((x : Int).fmod b) = rr := ⟨_, rfl⟩
  have hq1 : Builtin.bitNot ((x : Int).fdiv b) = a.fdiv b := by
    unfold Builtin.bitNot
    rcases hb with rfl | rfl <;> simp only [Int.fdiv_eq_ediv_of_nonneg _ (show (0 : Int) ≤ 8 by decide), Int.fdiv_eq_ediv_of_nonneg _ (show (0 : Int) ≤ 16 by decide)] <;> omega
  have hr2 : b + rr = a.fmod b := by
    rw [← hrr]
    unfold Builtin.bitNot
    rcases hb with rfl | rfl <;> simp only [Int.fmod_eq_emod_of_nonneg _ (show (0 : Int) ≤ 8 by decide), Int.fmod_eq_emod_of_nonneg _ (show (0 : Int) ≤ 16 by decide)] <;> omega
  have X := G.X.keeps k
  have T := G.T.keeps k
  unfold PR; revert X; k_fill; intro X
  refine' enter_ok X T ?k6 ?k7 ?k8 ?k9 ?kB ?_ ?c2 ?c3 ?c4 ?c5
  (case k6 => k_is)
  (case k7 => k_is)
  (case k8 => k_room)
  (case k9 => exact BindsTo.of_eq rfl)
  (case kB => exact locs rfl)
  (case c2 => exact rfl)
  (case c3 => exact rfl)
  (case c4 => exact rfl)
  (case c5 => decide)
  intro L h₁ F N
  (try dsimp only)
  k_unmd
  k_fold
  k_steps
  all_goals (try (refine ofStop ?_; (with_reducible show wpAny _ _ (call (Value.ref 77) _) _ _ _); k_dflt (refine wpAny_call ?_; refine' idm_pos ?z2_G ?z2_k ?z2_W ?z2_d ?z2_b ?z2_x ?_; (case z2_G => assumption); (case z2_k => exact Ext.trans (by assumption) (Fr.keep (by k_asm))); (case z2_W => exact Filled.ext (by assumption) (Fr.keep (by k_asm))); (case z2_d => k_room); (case z2_b => assumption); (case z2_x => assumption); k_whole); intro D' t1' t2' h' tk' x' f' g'; obtain ⟨F', N', l1⟩ := after1 (by k_asm) (by k_asm) x' f' g'; (try simp only [AllNe, and_true] at l1); clear x' f' g'; (try k_sweep); (try dsimp only); k_steps))
  all_goals (try dsimp only)
  all_goals (try show R (.ok (.ret (.ref _))) _)
  all_goals first
    | (exfalso; omega)
    | (rename Fr _ _ _ _ => F9
       rename News _ _ _ _ => N9
       refine' hR _ _ _ _ _ F9.keep ?cf ?cg
       (case cg => exact News.get N9 (by k_mem))
       (case cf => exact News.fresh N9 (by k_mem)))
end
section
/-- what the first call of the division leaves -/
structure ColdEnd (h h' : Heap) (D : Addr) (oD : Obj) (c51 : Addr) (o51 : Obj) (v51 : Array Value) (q51 : Tok) (c58 : Addr) (o58 : Obj) (v58 : Array Value) (q58 : Tok) : Prop where
  keep : ∀ b o, b ≠ 51 → b ≠ 58 → h.get? b = some o → h'.get? b = some o
  t51 : h'.get? 51 = some (T51 c51)
  t58 : h'.get? 58 = some (T58 c58)
  g51 : h'.get? c51 = some o51
  d51 : o51.data = .fields v51
  e51 : v51[1]? = some (.str QI q51)
  g58 : h'.get? c58 = some o58
  d58 : o58.data = .fields v58
  e58 : v58[1]? = some (.str QD q58)
  f51 : h.get? c51 = none
  f58 : h.get? c58 = none
  fD : h.get? D = none
  n1 : D ≠ c51
  n2 : D ≠ c58
  n3 : c51 ≠ c58
  gD : h'.get? D = some oD

theorem afterCold {h₀ h h' : Heap} {L D c51 c58 : Addr} {oD o51 o58 : Obj} {v51 v58 : Array Value} {q51 q58 : Tok} {m : Str → Option Value} {news : List (Addr × Obj)} (rest : List (Addr × Obj)) (F : Fr h₀ L h m) (N : News h₀ L h news)
    (C : ColdEnd h h' D oD c51 o51 v51 q51 c58 o58 v58 q58) (m51 : (51, tabObj #[]) ∈ news) (m58 : (58, tabObj #[]) ∈ news) (hr : ∀ q ∈ rest, q ∈ news ∧ q.1 ≠ 51 ∧ q.1 ≠ 58) :
    Fr h₀ L h' m ∧ News h₀ L h' ((D, oD) :: (c51, o51) :: (c58, o58) :: (58, T58 c58) :: (51, T51 c51) :: rest) ∧ AllNe D ((c51, o51) :: (c58, o58) :: (58, T58 c58) :: (51, T51 c51) :: rest) ∧ AllNe c51 ((c58, o58) :: (58, T58 c58) :: (51, T51 c51) :: rest) ∧ AllNe c58 ((58, T58 c58) :: (51, T51 c51) :: rest) := by
  have p51 := N _ m51
  have p58 := N _ m58
  have F' : Fr h₀ L h' m := by
    obtain ⟨oL, es, ep, hL, r⟩ := F.ns
    exact ⟨⟨oL, es, ep, C.keep _ _ (Ne.symm p51.2.1) (Ne.symm p58.2.1) hL, r⟩, fun b ob e => C.keep b ob (fun q => by rw [q, p51.2.2] at e; cases e) (fun q => by rw [q, p58.2.2] at e; cases e) (F.keep b ob e), F.above⟩
  have nD : ∀ q ∈ news, q.1 ≠ D := new_ne N C.fD
  have n51 : ∀ q ∈ news, q.1 ≠ c51 := new_ne N C.f51
  have n58 : ∀ q ∈ news, q.1 ≠ c58 := new_ne N C.f58
  have a1 : @Ne Nat 58 D := nD _ m58
  have a2 : @Ne Nat 51 D := nD _ m51
  have a3 : @Ne Nat 58 c51 := n51 _ m58
  have a4 : @Ne Nat 51 c51 := n51 _ m51
  have a5 : @Ne Nat 58 c58 := n58 _ m58
  have a6 : @Ne Nat 51 c58 := n58 _ m51
  refine ⟨F', fun q hq => ?_, ?_, ?_, ?_⟩
  · rcases List.mem_cons.mp hq with rfl | hq
    · exact ⟨C.gD, fresh_L F C.fD, fresh_base F C.fD⟩
    rcases List.mem_cons.mp hq with rfl | hq
    · exact ⟨C.g51, fresh_L F C.f51, fresh_base F C.f51⟩
    rcases List.mem_cons.mp hq with rfl | hq
    · exact ⟨C.g58, fresh_L F C.f58, fresh_base F C.f58⟩
    rcases List.mem_cons.mp hq with rfl | hq
    · exact ⟨C.t58, p58.2⟩
    rcases List.mem_cons.mp hq with rfl | hq
    · exact ⟨C.t51, p51.2⟩
    obtain ⟨a, b, c⟩ := hr q hq
    exact ⟨C.keep _ _ b c (N q a).1, (N q a).2⟩
  · exact ⟨Ne.symm C.n1, Ne.symm C.n2, a1, a2, allNe_of fun q hq => nD q (hr q hq).1⟩
  · exact ⟨Ne.symm C.n3, a3, a4, allNe_of fun q hq => n51 q (hr q hq).1⟩
  · exact ⟨a5, a6, allNe_of fun q hq => n58 q (hr q hq).1⟩
end
section
theorem rs23 : True := by
  w_top off
  exact trivial
local macro_rules | `(tactic| walk_at "call ref") => mc8
set_option maxHeartbeats 8000000 in
theorem idm_cold {w : World} {p : Program} {loose : List Str} {mean : ExcName → Option Value} {mg mb : Str → Option Value} {dp un : Nat} {fr : Option (List Env)} {gd : Option (List Code)} {s0 : Shared} {R : Result → Shared → Prop} {H : Heap}
    (G : Gd w p loose mean mg mb H) (k : Ext H s0.heap) (h51 : s0.heap.get? 51 = some (tabObj #[])) (h58 : s0.heap.get? 58 = some (tabObj #[])) (hdp : dp + 30 < recursionLimit)
    {b : Int} {x : Nat} {ta tb : Tok} (hb : b = 8 ∨ b = 16) (hx : x < 16)
    (hR : ∀ D t1 t2 h' tk c51 o51 v51 q51 c58 o58 v58 q58, ColdEnd s0.heap h' D (tupO [.int ((x : Int).fdiv b) t1, .int ((x : Int).fmod b) t2]) c51 o51 v51 q51 c58 o58 v58 q58 → R (.ok (.ret (.ref D))) { s0 with heap := h', toks := tk }) :
    codeAny (model PR w) (Ar dp un fr gd) (.call (.ref 77) ⟨[.int (x : Int) ta, .int b tb], []⟩) R s0 := by
  have kg := G.hide k
  have X := G.X.keeps kg
  have T := G.T.keeps kg
  have k2 : Ext H (hideAll s0.heap [58, 51]) := kg
  unfold PR; revert X; k_fill; intro X
  refine' enterP (as := [58, 51]) (news := [(58, tabObj #[]), (51, tabObj #[])]) rfl ?hN X T ?k6 ?k7 ?k8 ?k9 ?kB ?_ ?c2 ?c3 ?c4 ?c5
  (case hN => intro q hq; rcases List.mem_cons.mp hq with rfl | hq; exact h58; rw [List.mem_singleton.mp hq]; exact h51)
  (case k6 => k_is)
  (case k7 => k_is)
  (case k8 => k_room)
  (case k9 => exact BindsTo.of_eq rfl)
  (case kB => exact locs rfl)
  (case c2 => exact rfl)
  (case c3 => exact rfl)
  (case c4 => exact rfl)
  (case c5 => decide)
  clear k
  intro L' h' F' N' l1
  k_lt l1
  (try dsimp only)
  k_unmd
  k_fold
  k_steps
  all_goals (try (refine ofStop ?_; (with_reducible show wpAny _ _ (call (Value.ref 70) _) _ _ _); k_dflt (refine wpAny_call ?_; refine' dpos_cold ?z1_G ?z1_k ?z1_h51 ?z1_h58 ?z1_d ?z1_b ?z1_x ?_; (case z1_G => assumption); (case z1_k => exact Ext.trans (by assumption) (Fr.keep (by k_asm))); (case z1_h51 => exact News.get (by k_asm) (by k_mem)); (case z1_h58 => exact News.get (by k_asm) (by k_mem)); (case z1_d => k_room); (case z1_b => assumption); (case z1_x => assumption); k_whole); intro D' t1' t2' h' tk' c1' o1' v1' q1' c2' o2' v2' q2' x1 x2 x3 x4 x5 x6 x7 x8 x9 x10 x11 x12 x13 x14 x15 x16; have CE := ColdEnd.mk x1 x2 x3 x4 x5 x6 x7 x8 x9 x10 x11 x12 x13 x14 x15 x16; obtain ⟨F', N', l1, l2, l3⟩ := afterCold [] (by k_asm) (by k_asm) CE (by k_mem) (by k_mem) (fun q hq => nomatch hq); clear x1 x2 x3 x4 x5 x6 x7 x8 x9 x10 x11 x12 x13 x14 x15 x16; (try k_sweep); (try dsimp only); k_steps))
  all_goals (try dsimp only)
  all_goals (try show R (.ok (.ret (.ref _))) _)
  all_goals first
    | (exfalso; omega)
    | (rename Fr _ _ _ _ => F9
       rename News _ _ _ _ => N9
       rename ColdEnd _ _ _ _ _ _ _ _ _ _ _ _ => C9
       simp only [AllNe, and_true] at *
       refine hR _ _ _ _ _ _ _ _ _ _ _ _ _ ⟨but_two F9, C9.t51, C9.t58, C9.g51, C9.d51, C9.e51, C9.g58, C9.d58, C9.e58, fresh_two (News.fresh N9 (by k_mem)) (by k_ne) (by k_ne), fresh_two (News.fresh N9 (by k_mem)) (by k_ne) (by k_ne), fresh_two (News.fresh N9 (by k_mem)) (by k_ne) (by k_ne), C9.n1, C9.n2, C9.n3, C9.gD⟩)
end
section
theorem rs24 : True := by
  w_top off
  exact trivial
local macro_rules | `(tactic| walk_at "subscriptTail") => mc7

theorem idm_any {w : World} {p : Program} {loose : List Str} {mean : ExcName → Option Value} {mg mb : Str → Option Value} {dp un : Nat} {fr : Option (List Env)} {gd : Option (List Code)} {s0 : Shared} {R : Result → Shared → Prop} {H : Heap}
    (G : Gd w p loose mean mg mb H) (k : Ext H s0.heap) (W : Filled s0.heap) (hdp : dp + 40 < recursionLimit) {b a : Int} {ta tb : Tok} (hb : b = 8 ∨ b = 16) (h0 : -256 ≤ a) (h1 : a < 256)
    (hR : ∀ D t1 t2 h' tk, Ext s0.heap h' → s0.heap.get? D = none → h'.get? D = some (tupO [.int (a.fdiv b) t1, .int (a.fmod b) t2]) → R (.ok (.ret (.ref D))) { s0 with heap := h', toks := tk }) :
    codeAny (model PR w) (Ar dp un fr gd) (.call (.ref 77) ⟨[.int a ta, .int b tb], []⟩) R s0 := by
  by_cases h : 0 ≤ a
  · obtain ⟨x, rfl⟩ : ∃ x : Nat, a = x := ⟨a.toNat, by omega⟩
    exact idm_pos G k W (by omega) hb (by omega) hR
  · exact idm_neg (x := (-a - 1).toNat) G k W hdp hb (by omega) (by omega) hR
theorem eq_yes {prog : Program} {w : World} {A : Around} {E : Value → Shared → Prop} {s : Shared} {a b : Int} {t u : Tok} {Q : Value → Shared → Prop} (e : a = b) (h : Q (.bool true) s) :
    wpAny (model prog w) A (compareOp .Eq (.int a t) (.int b u)) Q E s := eq_int (by subst e; simpa using h)
theorem eq_no {prog : Program} {w : World} {A : Around} {E : Value → Shared → Prop} {s : Shared} {a b : Int} {t u : Tok} {Q : Value → Shared → Prop} (e : a ≠ b) (h : Q (.bool false) s) :
    wpAny (model prog w) A (compareOp .Eq (.int a t) (.int b u)) Q E s := eq_int (by rw [beq_eq_false_iff_ne.mpr e]; exact h)
theorem ne_yes {prog : Program} {w : World} {A : Around} {E : Value → Shared → Prop} {s : Shared} {a b : Int} {t u : Tok} {Q : Value → Shared → Prop} (e : a = b) (h : Q (.bool false) s) :
    wpAny (model prog w) A (compareOp .NotEq (.int a t) (.int b u)) Q E s := ne_int (by subst e; simpa using h)
local macro_rules | `(tactic| walk_at "compareOp Eq int int") => `(tactic| (k_here; k_dflt (first | refine eq_yes (by omega) ?_ | refine eq_no (by omega) ?_)))
local macro_rules | `(tactic| walk_at "binaryOp Add int int") => `(tactic| (k_here; k_dflt (refine add_known (by assumption) ?_)))
local macro_rules | `(tactic| walk_at "binaryOp Mult int int") => mc6
local macro_rules | `(tactic| walk_at "call ref") => mc8
set_option maxHeartbeats 8000000 in
theorem lrest_ok {w : World} {p : Program} {loose : List Str} {mean : ExcName → Option Value} {mg mb : Str → Option Value} {dp un : Nat} {fr : Option (List Env)} {gd : Option (List Code)} {s0 : Shared} {R : Result → Shared → Prop} {H : Heap}
    (G : Gd w p loose mean mg mb H) (k : Ext H s0.heap) (W : Filled s0.heap) (hdp : dp + 50 < recursionLimit)
    {b a : Int} {ta tb : Tok} (hb : b = 8 ∨ b = 16) (h0 : -256 ≤ a) (h1 : a < 256)
    (hR : ∀ t h' tk, Ext s0.heap h' → R (.ok (.ret (.int (a.fmod b) t))) { s0 with heap := h', toks := tk }) :
    codeAny (model PR w) (Ar dp un fr gd) (.call (.ref 123) ⟨[.int a ta, .int b tb], []⟩) R s0 := by
  obtain ⟨mm, hmm⟩ : ∃ mm, a.fdiv b * b = mm := ⟨_, rfl⟩
  have hma : mm + a.fmod b = a := by
    have := Int.mul_fdiv_add_fmod a b
    rw [Int.mul_comm] at this
    omega
  have X := G.X.keeps k
  have T := G.T.keeps k
  unfold PR; revert X; k_fill; intro X
  refine' enter_ok X T ?k6 ?k7 ?k8 ?k9 ?kB ?_ ?c2 ?c3 ?c4 ?c5
  (case k6 => k_is)
  (case k7 => k_is)
  (case k8 => k_room)
  (case k9 => exact BindsTo.of_eq rfl)
  (case kB => exact locs rfl)
  (case c2 => exact rfl)
  (case c3 => exact rfl)
  (case c4 => exact rfl)
  (case c5 => decide)
  intro L h₁ F N
  (try dsimp only)
  k_unmd
  k_fold
  k_steps
  all_goals (try (refine ofStop ?_; (with_reducible show wpAny _ _ (call (Value.ref 77) _) _ _ _); k_dflt (refine wpAny_call ?_; refine' idm_any ?z1_G ?z1_k ?z1_W ?z1_d ?z1_b ?z1_x ?z1_y ?_; (case z1_G => assumption); (case z1_k => exact Ext.trans (by assumption) (Fr.keep (by k_asm))); (case z1_W => exact Filled.ext (by assumption) (Fr.keep (by k_asm))); (case z1_d => k_room); (case z1_b => assumption); (case z1_x => omega); (case z1_y => omega); k_whole); intro D' t1' t2' h' tk' x' f' g'; obtain ⟨F', N', l1⟩ := after1 (by k_asm) (by k_asm) x' f' g'; (try simp only [AllNe, and_true] at l1); clear x' f' g'; (try k_sweep); (try dsimp only); k_steps))
  all_goals (try dsimp only)
  all_goals (try show R (.ok (.ret (.int _ _))) _)
  all_goals first
    | (rename Fr _ _ _ _ => F9
       exact hR _ _ _ F9.keep)
end
section
theorem rs25 : True := by
  w_top off
  exact trivial
local macro_rules | `(tactic| k_steps) => `(tactic| repeat' first | fail "K3" | fail "K4")
def CellJ (i : Nat) (ys : List Value) : Prop := ∃ cs : List Int, IntsAre ys cs ∧ cs.length = i ∧ ∀ c ∈ cs, 0 ≤ c ∧ c ≤ 60000021
theorem cellJ_0 : CellJ 0 [] := ⟨[], .nil, rfl, fun _ h => nomatch h⟩
def HeadsOk (hs : List Int) : Prop := hs.length ≤ 60 ∧ ∀ x ∈ hs, 0 ≤ x ∧ x < 1000000
theorem headsOk (ns : List Int) : HeadsOk (List.map (fun k' => k'.fmod 1000000) (List.take 60 ns)) := ⟨by simp; omega, fun x hx => by
  obtain ⟨y, _, rfl⟩ := List.mem_map.mp hx
  exact ⟨Int.fmod_nonneg_of_pos _ (by decide), Int.fmod_lt_of_pos _ (by decide)⟩⟩
def EnumOut (h₀ : Heap) (L : Addr) (m : PySem.Str → Option Value) (news : List (Addr × Obj)) (items : Array Value) (s : Shared) (xv : Value) (s₁ : Shared) : Prop :=
  ∃ l h₁ tk₁, xv = .ref (h₁.objs.size + 1) ∧ (∃ h₂, s₁ = { s with heap := h₂, toks := tk₁ } ∧ IsEnum h₂ (h₁.objs.size + 1) h₁.objs.size 0 .none ∧ h₂.IsTupleIter h₁.objs.size l 0 ∧ (∀ b o, h₁.get? b = some o → h₂.get? b = some o)) ∧ h₀.IsTuple l items ∧ Fr h₀ L h₁ m ∧ News h₀ L h₁ news
theorem enumOut {h₀ : Heap} {L : Addr} {m : PySem.Str → Option Value} {news : List (Addr × Obj)} {items : Array Value} {s : Shared} {l : Addr} {h₁ h₂ : Heap} {tk : Nat} (T : IsTup h₀ l items) (F : Fr h₀ L h₁ m) (N : News h₀ L h₁ news)
    (he : IsEnum h₂ (h₁.objs.size + 1) h₁.objs.size 0 .none) (hi : h₂.IsTupleIter h₁.objs.size l 0) (hk : ∀ b o, h₁.get? b = some o → h₂.get? b = some o) : EnumOut h₀ L m news items s (.ref (h₁.objs.size + 1)) { s with heap := h₂, toks := tk } :=
  ⟨l, h₁, tk, rfl, ⟨h₂, rfl, he, hi, hk⟩, T, F, N⟩
theorem tupUp {h₀ h : Heap} {L l : Addr} {m : PySem.Str → Option Value} {items : Array Value} (F : Fr h₀ L h m) (T : IsTup h₀ l items) : h.IsTuple l items := let ⟨o, e, r⟩ := T; ⟨o, F.keep _ _ e, r⟩
theorem item4 {i : Nat} {x : Value} {a b c d : Int} {ta tb tc td : Tok} (h : (#[.int a ta, .int b tb, .int c tc, .int d td] : Array Value)[i]? = some x) (h1 : 0 ≤ a ∧ a ≤ 21) (h2 : 0 ≤ b ∧ b ≤ 21) (h3 : 0 ≤ c ∧ c ≤ 21) (h4 : 0 ≤ d ∧ d ≤ 21) : ∃ v t, x = .int v t ∧ 0 ≤ v ∧ v ≤ 21 ∧ i < 4 := by
  match i, h with
  | 0, h => cases h; exact ⟨_, _, rfl, h1.1, h1.2, by decide⟩
  | 1, h => cases h; exact ⟨_, _, rfl, h2.1, h2.2, by decide⟩
  | 2, h => cases h; exact ⟨_, _, rfl, h3.1, h3.2, by decide⟩
  | 3, h => cases h; exact ⟨_, _, rfl, h4.1, h4.2, by decide⟩
def EltOut (h₀ : Heap) (L : Addr) (m : PySem.Str → Option Value) (news : List (Addr × Obj)) (s : Shared) (J : Value → Prop) (y : Value) (s' : Shared) : Prop :=
  ∃ h' tk', s' = { s with heap := h', toks := tk' } ∧ Fr h₀ L h' m ∧ News h₀ L h' news ∧ J y
theorem eltOut {h₀ : Heap} {L : Addr} {m : PySem.Str → Option Value} {news new2 : List (Addr × Obj)} {s : Shared} {J : Value → Prop} {y : Value} {h' : Heap} {tk : Nat} (F : Fr h₀ L h' m) (N : News h₀ L h' new2) (hs : ∀ p ∈ news, p ∈ new2) (j : J y) : EltOut h₀ L m news s J y { s with heap := h', toks := tk } :=
  ⟨h', tk, rfl, F, fun p hp => N p (hs p hp), j⟩
theorem comp_enumT {prog : Program} {w : World} {A : Around} {E : Value → Shared → Prop} {s : Shared} {h₀ : Heap} {L l : Addr} {m : PySem.Str → Option Value} {env : Env} {news : List (Addr × Obj)} {elt : PySem.Expr} {a b : PySem.Str} {iter : PySem.Expr} {pa pb tp : Pos} {kk : Nat} {scope : Scope} {cl : List (PySem.Str × Addr)} {pos : Pos} {items : Array Value} {Q : Value → Shared → Prop} (F₀ : Fr h₀ L s.heap m) (N₀ : News h₀ L s.heap news) (T₀ : IsTup h₀ l items) (J : Nat → List Value → Prop)
    (hh : A.handled = none) (hclos : closureFor scope env = pure cl) (hcell : ∀ y ∈ scope.names, y.2 ≠ .cell) (hkind : scope.kind = .function)
    (hnames : ∀ y ∈ scope.names, y.2 = .local → scope.names.lookup y.1 = some .local) (hxa : scope.names.lookup a = some .local) (hxb : scope.names.lookup b = some .local) (hab : ¬ a = b) (hsz : items.size ≤ sizeLine)
    (h : wpAny (model prog w) A (eval iter env) (EnumOut h₀ L m news items s) E s)
    (hJ : J 0 [])
    (turn : ∀ i x t ys h tk e it C D oe oi oC m₂ (E' : Value → Shared → Prop), items[i]? = some x → J i ys → LCg.NsObj oC m₂ → m₂ a = some (.int (i : Int) t) → m₂ b = some x → Fr h₀ L h m → News h₀ L h ((e, oe) :: (it, oi) :: (C, oC) :: (D, LCg.lst ys) :: news) →
      wpAny (model prog w) A (eval elt (compEnvC scope cl C env)) (EltOut h₀ L m ((e, oe) :: (it, oi) :: (C, oC) :: (D, LCg.lst ys) :: news) s (fun y => J (i + 1) (ys ++ [y]))) E' { s with heap := h, toks := tk })
    (fin : ∀ ys D h tk, J items.size ys → Fr h₀ L h m → News h₀ L h ((D, LCg.lst ys) :: news) → AllNe D news → Q (.ref D) { s with heap := h, toks := tk })
    (hs : ∀ x, foldedSetIterable iter env x = pure x) :
    wpAny (model prog w) A (eval (.ListComp elt [⟨.Tuple [.Name a pa, .Name b pb] kk tp, iter, [], 0⟩] scope pos) env) Q E s :=
  comp_enum J hh hclos hcell hkind hnames hxa hxb hab hsz h hJ turn fin hs
local macro_rules | `(tactic| walk_at "call type:enumerate") => `(tactic| (k_here; (with_reducible show wpAny _ _ (call (Value.type "enumerate") [Value.ref _]) (EnumOut _ _ _ _ _ _) _ _); k_dflt (refine' call_enum_tuple (tupUp ?F ?T) ?_; (case F => k_asm); (case T => k_asm); k_whole); intro h' he' hi' hz' hk'; exact enumOut (by assumption) (by assumption) (by assumption) he' hi' hk'))
theorem ints_sub {vs : List Value} {ns : List Int} (h : IntsAre vs ns) : ∀ ys : List Value, (∀ y ∈ ys, y ∈ vs) → ∃ ms, IntsAre ys ms ∧ ∀ x ∈ ms, x ∈ ns
  | [], _ => ⟨[], .nil, fun _ h => nomatch h⟩
  | y :: ys, hy => by
    obtain ⟨ms, h1, h2⟩ := ints_sub h ys fun z hz => hy z (.tail _ hz)
    have : ∀ {vs : List Value} {ns : List Int}, IntsAre vs ns → y ∈ vs → ∃ n t, y = .int n t ∧ n ∈ ns := by
      intro vs ns h
      induction h with
      | nil => intro h; nomatch h
      | cons n t _ ih =>
        intro hm
        rcases List.mem_cons.mp hm with rfl | hm
        · exact ⟨n, t, rfl, .head _⟩
        · obtain ⟨a, b, c, d⟩ := ih hm
          exact ⟨a, b, c, .tail _ d⟩
    obtain ⟨n, t, rfl, hn⟩ := this h (hy y (.head _))
    exact ⟨n :: ms, .cons n t h1, fun x hx => by rcases List.mem_cons.mp hx with rfl | hx; exact hn; exact h2 x hx⟩
theorem pick_mem {its : Array Value} {lo hi st : Option Int} : ∀ y ∈ (slicePick its lo hi st).toList, y ∈ its.toList := fun y hy => by
  unfold slicePick at hy
  obtain ⟨i, _, e⟩ := List.mem_filterMap.mp hy
  rw [Array.mem_toList_iff]
  exact Array.mem_of_getElem? e
theorem sum_le {ms : List Int} (h : ∀ x ∈ ms, 0 ≤ x ∧ x < 1000000) : 0 ≤ ms.sum ∧ ms.sum ≤ 1000000 * ms.length := by
  induction ms with
  | nil => exact ⟨Int.le_refl _, Int.le_refl _⟩
  | cons a l ih =>
    have := ih fun x hx => h x (.tail _ hx)
    have h2 := h a (.head _)
    rw [List.sum_cons, List.length_cons]
    omega
theorem slice_step {prog : Program} {w : World} {A : Around} {E : Value → Shared → Prop} {s : Shared} {h₀ : Heap} {L l : Addr} {m : Str → Option Value} {news : List (Addr × Obj)} {value slice : PySem.Expr} {vs : List Value} {ns : List Int} {vl vk : Value} {lo : Option Int} {st : Int} {ops : List Value} {Q : Value → Shared → Prop}
    (F : Fr h₀ L s.heap m) (N : News h₀ L s.heap news) (hl : s.heap.IsList l vs.toArray) (hi : IntsAre vs ns) (hO : HeadsOk ns) (pl : IsPart vl lo) (pk : IsPart vk (some st)) (h0 : st ≠ 0)
    (h : ∀ D ws ms h', Fr h₀ L h' m → News h₀ L h' ((D, listOf (List.toArray ws) 0) :: news) → (∀ p ∈ news, p.1 < D) → IntsAre ws ms → 0 ≤ ms.sum ∧ ms.sum ≤ 60000000 → Q (.ref D) { s with heap := h' })
    (hs : subscripted slice false (.ref l) (.ref s.heap.objs.size) = operate ops (getItem (.ref l) (.ref s.heap.objs.size))) (ht : ∀ r, letTemporaryGo value (.ref l) r = pure ()) :
    wpAny (model prog w) A (subscriptTail value slice (.ref l) (.ref s.heap.objs.size)) Q E { s with heap := s.heap.push { cls := .type "slice", data := .fields #[vl, .none, vk] } } := by
  obtain ⟨ms, h1, h2⟩ := ints_sub hi (slicePick vs.toArray lo none (some st)).toList (fun y hy => by simpa using pick_mem y hy)
  have hz := slicePick_size_le vs.toArray lo none (some st)
  have hlen := h1.length
  have hvl := hi.length
  have e1 : vs.toArray.size = vs.length := rfl
  have e2 : (slicePick vs.toArray lo none (some st)).toList.length = (slicePick vs.toArray lo none (some st)).size := rfl
  have hm := sum_le fun x hx => hO.2 x (h2 x hx)
  have hl60 := hO.1
  refine slice_list3 F N hl pl .none pk (by simpa using h0) (fun h' F' N' => h _ (slicePick vs.toArray lo none (some st)).toList ms h' F' ?_ (fun p hp => Nat.lt_succ_of_lt (Heap.lt_size (N p hp).1)) h1 ⟨hm.1, by omega⟩) hs ht (by rw [List.size_toArray, sizeLine_eq]; omega)
  rw [Array.toArray_toList]
  exact N'
theorem cellJ_step {i : Nat} {ys : List Value} {v : Int} {t : Tok} (h : CellJ i ys) (h0 : 0 ≤ v) (h1 : v ≤ 60000021) : CellJ (i + 1) (ys ++ [.int v t]) := by
  obtain ⟨cs, a, b, c⟩ := h
  refine ⟨cs ++ [v], a.append (.cons v t .nil), by simp [b], fun x hx => ?_⟩
  rcases List.mem_append.mp hx with hx | hx
  · exact c x hx
  · rw [List.mem_singleton.mp hx]; exact ⟨h0, h1⟩
local macro_rules | `(tactic| walk_at "subscriptTail Name Slice ref ref") => `(tactic| (k_here; (with_reducible show wpAny _ _ (subscriptTail _ (.Slice (some _) none (some _) _) (Value.ref _) (Value.ref _)) _ _ _); refine Stop.mk ?_))
local macro_rules | `(tactic| walk_at "eval ListComp") => `(tactic| (k_here; (with_reducible show wpAny _ _ (eval (.ListComp _ [⟨.Tuple _ _ _, _, _, _⟩] _ _) _) _ _ _); refine Stop.mk ?_))
theorem hide_nil (h : Heap) : hideAll h [] = h := rfl
theorem ints4 {ys : List Value} {cs : List Int} (h : IntsAre ys cs) (hl : cs.length = 4) : ∃ c0 c1 c2 c3 u0 u1 u2 u3, ys = [.int c0 u0, .int c1 u1, .int c2 u2, .int c3 u3] ∧ cs = [c0, c1, c2, c3] := by
  cases h with
  | nil => cases hl
  | cons _ u0 h => cases h with
    | nil => cases hl
    | cons _ u1 h => cases h with
      | nil => cases hl
      | cons _ u2 h => cases h with
        | nil => cases hl
        | cons _ u3 h => cases h with
          | nil => exact ⟨_, _, _, _, _, _, _, _, rfl, rfl⟩
          | cons _ _ _ => simp at hl
set_option maxHeartbeats 800000 in
theorem cells_ok {w : World} {p : Program} {loose : List Str} {mean : ExcName → Option Value} {mg mb : Str → Option Value} {dp un : Nat} {fr : Option (List Env)} {gd : Option (List Code)} {s0 : Shared} {R : Result → Shared → Prop} {H : Heap}
    (G : Gd w p loose mean mg mb H) (k : Ext H s0.heap) (hdp : dp + 10 < recursionLimit)
    {l T1 : Addr} {vs : List Value} {ns : List Int} {t0 t1 t2 t3 : Tok} (hl : s0.heap.IsList l vs.toArray) (hi : IntsAre vs ns) (hz : ns.length ≤ 63)
    (hT : IsTup s0.heap T1 #[.int 7 t0, .int 5 t1, .int 21 t2, .int 4 t3])
    (hR : ∀ D h' tk c0 c1 c2 c3 u0 u1 u2 u3, Ext s0.heap h' → s0.heap.get? D = none → h'.get? D = some (W.listOf #[.int c0 u0, .int c1 u1, .int c2 u2, .int c3 u3] 4) → (0 ≤ c0 ∧ c0 ≤ 60000021) ∧ (0 ≤ c1 ∧ c1 ≤ 60000021) ∧ (0 ≤ c2 ∧ c2 ≤ 60000021) ∧ (0 ≤ c3 ∧ c3 ≤ 60000021) → R (.ok (.ret (.ref D))) { s0 with heap := h', toks := tk }) :
    codeAny (model PR w) (Ar dp un fr gd) (.call (.ref 116) ⟨[.ref l, .ref T1], []⟩) R s0 := by
  have X := G.X.keeps k
  have T := G.T.keeps k
  have eh : hideAll s0.heap [] = s0.heap := hide_nil _
  unfold PR; revert X; k_fill; intro X
  rw [← eh] at X T
  refine' enterC (as := []) (news := []) rfl ?hN X T ?k6 ?k7 ?k8 ?k9 ?kB ?kD ?_ ?c2 ?c3 ?c4
  (case hN => intro q hq; cases hq)
  (case k6 => k_is)
  (case k7 => k_is)
  (case k8 => k_room)
  (case k9 => exact BindsTo.of_eq rfl)
  (case kB => exact rfl)
  (case kD => decide +kernel)
  (case c2 => exact rfl)
  (case c3 => exact rfl)
  (case c4 => exact rfl)
  intro L' h' tk' cells' F' N' Y' l1
  k_lt l1
  k_cells Y'
  (try simp only [List.cons_append, List.nil_append] at N')
  (try dsimp only)
  k_unmd
  k_fold
  rw [eh] at F' N' X T
  k_steps
  unfold Stop
  have hO' := headsOk ns
  rename Fr _ _ _ _ => F9
  rename News _ _ _ _ => N9
  refine comp_enumT F9 N9 hT CellJ rfl (by with_unfolding_all rfl) (by decide) rfl (by decide) rfl rfl (by decide) (show (4 : Nat) ≤ sizeLine by decide) ?h cellJ_0 ?turn ?fin (fun _ => rfl)
  case h =>
    k_steps
  case turn =>
    intro i' x' t' ys' h' tk' e' it' C' D' oe' oi' oC' m' E' hx' hJ' hC' ha' hb' F' N'
    obtain ⟨v', tv', rfl, hv0', hv1', hi4'⟩ := item4 hx' (by decide) (by decide) (by decide) (by decide)
    k_steps
    unfold Stop
    rename Fr _ _ _ _ => F8
    rename News _ _ _ _ => N8
    rename IntsAre _ (List.map _ _) => hI8
    refine slice_step F8 N8 (N8.isList (by k_mem)) hI8 hO' (IsPart.int _ _) (IsPart.int _ _) (show ((4 : Nat) : Int) ≠ 0 by decide) ?_ (by with_unfolding_all rfl) (by intro _; with_unfolding_all rfl)
    intro D8' ws8' ms8' h8' F8' N8' l8 hI8' hS8'
    k_steps
    rename Fr _ _ _ _ => F7
    rename News _ _ _ _ => N7
    refine eltOut F7 N7 (fun p hp => List.mem_cons_of_mem _ hp) (cellJ_step hJ' (by omega) (by omega))
  case fin =>
    intro ys' D' h' tk' hJ' F' N' l1'
    (try dsimp only)
    k_steps
    obtain ⟨cs, hcs, hlc, hbc⟩ := hJ'
    obtain ⟨c0, c1, c2, c3, u0, u1, u2, u3, rfl, rfl⟩ := ints4 hcs hlc
    exact hR D' h' _ c0 c1 c2 c3 u0 u1 u2 u3 F'.keep (News.fresh N' (.head _)) (News.get N' (.head _)) ⟨hbc _ (by simp), hbc _ (by simp), hbc _ (by simp), hbc _ (by simp)⟩
end
section
open PySem PySem.W PySem.Calls PyProof.Rows
local macro_rules | `(tactic| k_all) => `(tactic| exact allNe_mem (by assumption))
section
/-- the law's own def, taken from the row -/
def lawBody : List Stmt := match PySem.Challenge.pw_uy0018_01.main.body.drop 22 with
  | .FunctionDef _ _ b _ _ _ _ _ _ _ :: _ => b
  | _ => []
def lawScope : Scope := match PySem.Challenge.pw_uy0018_01.main.body.drop 22 with
  | .FunctionDef _ _ _ _ _ _ s _ _ _ :: _ => s
  | _ => default
/-- n of its statements from the i-th on, then others -/
def lawSeg (i n : Nat) (rest : List Stmt) : List Stmt := (lawBody.drop i).take n ++ rest
abbrev lawEnv (L fa : Addr) (cd : Value) : Env := envOfC (PySem.Str.ofString "law") lawScope L fa cd
/-- the block of the for at the i-th statement -/
def lawFor (i : Nat) : List Stmt := match lawBody.drop i with
  | .For _ _ b _ _ :: _ => b
  | _ => []
/-- n statements of that block from the a-th on, then others -/
def lawForSeg (i a n : Nat) (rest : List Stmt) : List Stmt := ((lawFor i).drop a).take n ++ rest
section
variable {w : World} {A : Scope → Around} {E : Value → Shared → Prop} {s : Shared} {Q : Flow → Shared → Prop} {rest l : List Stmt} {L fa : Addr} {cd : Value} {a b c d : Stmt} {n : List (PySem.Str × NameKind)} {g co : Bool} {m : List (PySem.Str × Const)}
theorem seg1 {k} (e : l = a :: rest) (es : lawScope = ⟨k, n, g, co, m⟩) (h : wpAny (model PR w) (A ⟨k, n, g, co, m⟩) (execs (a :: rest) (envOfC (PySem.Str.ofString "law") ⟨k, n, g, co, m⟩ L fa cd)) Q E s) : wpAny (model PR w) (A lawScope) (execs l (lawEnv L fa cd)) Q E s := by
  rw [lawEnv, es, e]; exact h
theorem seg2 {k} (e : l = a :: b :: rest) (es : lawScope = ⟨k, n, g, co, m⟩) (h : wpAny (model PR w) (A ⟨k, n, g, co, m⟩) (execs (a :: b :: rest) (envOfC (PySem.Str.ofString "law") ⟨k, n, g, co, m⟩ L fa cd)) Q E s) : wpAny (model PR w) (A lawScope) (execs l (lawEnv L fa cd)) Q E s := by
  rw [lawEnv, es, e]; exact h
theorem seg3 {k} (e : l = a :: b :: c :: rest) (es : lawScope = ⟨k, n, g, co, m⟩) (h : wpAny (model PR w) (A ⟨k, n, g, co, m⟩) (execs (a :: b :: c :: rest) (envOfC (PySem.Str.ofString "law") ⟨k, n, g, co, m⟩ L fa cd)) Q E s) : wpAny (model PR w) (A lawScope) (execs l (lawEnv L fa cd)) Q E s := by
  rw [lawEnv, es, e]; exact h
theorem segN {l' : List Stmt} {k} (e : l = l') (es : lawScope = ⟨k, n, g, co, m⟩) (h : wpAny (model PR w) (A ⟨k, n, g, co, m⟩) (execs l' (envOfC (PySem.Str.ofString "law") ⟨k, n, g, co, m⟩ L fa cd)) Q E s) : wpAny (model PR w) (A lawScope) (execs l (lawEnv L fa cd)) Q E s := by
  rw [lawEnv, es, e]; exact h
end
/-- what the law draws -/
structure Pars (sz sh va mo st sa : Int) : Prop where
  z : sz = 8 ∨ sz = 16
  h1 : 1 ≤ sh
  h8 : sh ≤ 8
  v1 : 1 ≤ va
  v8 : va ≤ 8
  m1 : 1 ≤ mo
  m7 : mo ≤ 7
  t0 : 1 ≤ st
  t1 : st < sz
  odd : st % 2 = 1
  a0 : 0 ≤ sa
  a1 : sa < sz
example : lawBody.length = 14 := by rfl
end
section
theorem isList_keep {h₀ h : Heap} {L l : Addr} {m : Str → Option Value} {its : Array Value} (x : h₀.IsList l its) (F : Fr h₀ L h m) : h.IsList l its := let ⟨o, e, r⟩ := x; ⟨o, F.keep _ _ e, r⟩
theorem small_01 {b : Int} (h0 : 0 ≤ b) (h1 : b ≤ 1000) : Builtin.Range.small 0 b 1 = true := small_one (by decide) (by decide) (by omega) (by omega)
theorem small_a {a b : Int} (h0 : 0 ≤ a) (h : 0 ≤ b) (h1 : b ≤ 1000) (h2 : a ≤ 1000) : Builtin.Range.small a b 1 = true := small_one (by omega) (by omega) (by omega) (by omega)
theorem size_01 {a b : Int} (h0 : a ≤ b) : Builtin.Range.rangeSize a b 1 = (((b - a).toNat : Nat) : Int) := by
  unfold Builtin.Range.rangeSize
  split <;> (try split) <;> (try rw [Int.ediv_one]) <;> omega
section
open LCg
variable {prog : Program} {w : World} {A : Around} {s : Shared} {h₀ : Heap} {L : Addr} {m : Str → Option Value} {env : Env}
theorem compRest_ind {elt : PySem.Expr} {x : Str} {scope : Scope} {cl : List (Str × Addr)} {S : List (Addr × Obj) → Prop} {P : Nat → Value → Prop} {Fin : List Value → List (Addr × Obj) → Prop} {n : Nat} {news : List (Addr × Obj)} (J : Nat → List Value → List (Addr × Obj) → Prop)
    (h0 : J 0 [] news)
    (turn : ∀ i ys nx v I oI C oC D m₂ h tk (E' : Value → Shared → Prop), i < n → P i v → J i ys nx → NsObj oC m₂ → m₂ x = some v → Fr h₀ L h m → News h₀ L h ((I, oI) :: (C, oC) :: (D, lst ys) :: nx) → Off3 I C D nx → ((@Ne Nat I C) ∧ (@Ne Nat I D) ∧ (@Ne Nat C D)) →
      wpAny (model prog w) A (eval elt (compEnvC scope cl C env)) (CompEnd h₀ L m { s with heap := h, toks := tk } I oI C oC D (lst ys) S (fun y nx' => J (i + 1) (ys ++ [y]) nx')) E' { s with heap := h, toks := tk })
    (fin : ∀ ys nx, J n ys nx → Fin ys nx) : CompRest prog w A h₀ L m env elt x scope cl s S P Fin n 0 [] news := by
  have key : ∀ k i ys nx, i + k = n → J i ys nx → CompRest prog w A h₀ L m env elt x scope cl s S P Fin k i ys nx := by
    intro k
    induction k with
    | zero => intro i ys nx e j; rw [Nat.add_zero] at e; subst e; exact fin ys nx j
    | succ k ih =>
      intro i ys nx e j
      refine CompRest.succ fun v I oI C oC D m₂ h tk E' hv hC hx F N off ne => ?_
      refine wpAny_mono (turn i ys nx v I oI C oC D m₂ h tk E' (by omega) hv j hC hx F N off ne) (fun y s' q => ?_) fun _ _ e => e
      obtain ⟨h', tk', nx', e', F', N', o', S', j'⟩ := q
      exact ⟨h', tk', nx', e', F', N', o', S', ih _ _ _ (by omega) j'⟩
  exact key n 0 [] news (by omega) h0
end

theorem idmc {w : World} {p : Program} {loose : List Str} {mean : ExcName → Option Value} {mg mb : Str → Option Value} {dp un : Nat} {fr : Option (List Env)} {gd : Option (List Code)} {s0 : Shared} {R : Result → Shared → Prop} {H : Heap}
    (G : Gd w p loose mean mg mb H) (k : Ext H s0.heap) (h51 : s0.heap.get? 51 = some (tabObj #[])) (h58 : s0.heap.get? 58 = some (tabObj #[])) (hdp : dp + 30 < recursionLimit)
    {b a : Int} {ta tb : Tok} (hb : b = 8 ∨ b = 16) (h0 : 0 ≤ a) (h1 : a < 16)
    (hR : ∀ D t1 t2 h' tk c51 o51 v51 q51 c58 o58 v58 q58, ColdEnd s0.heap h' D (tupO [.int (a.fdiv b) t1, .int (a.fmod b) t2]) c51 o51 v51 q51 c58 o58 v58 q58 → R (.ok (.ret (.ref D))) { s0 with heap := h', toks := tk }) :
    codeAny (model PR w) (Ar dp un fr gd) (.call (.ref 77) ⟨[.int a ta, .int b tb], []⟩) R s0 := by
  obtain ⟨x, rfl⟩ : ∃ x : Nat, a = x := ⟨a.toNat, by omega⟩
  exact idm_cold G k h51 h58 hdp hb (by omega) hR

/-- the row of the divisions, in the ledger's tail -/
structure Tail (nx : List (Addr × Obj)) : Prop where
  t51 : ∃ c o v q, (51, T51 c) ∈ nx ∧ (c, o) ∈ nx ∧ o.data = .fields v ∧ v[1]? = some (.str QI q)
  t58 : ∃ c o v q, (58, T58 c) ∈ nx ∧ (c, o) ∈ nx ∧ o.data = .fields v ∧ v[1]? = some (.str QD q)
theorem Tail.filled {nx : List (Addr × Obj)} {h : Heap} (T : Tail nx) (N : ∀ p ∈ nx, h.get? p.1 = some p.2) : Filled h := by
  obtain ⟨c, o, v, q, h1, h2, h3, h4⟩ := T.t51
  obtain ⟨c', o', v', q', g1, g2, g3, g4⟩ := T.t58
  exact ⟨c, c', N _ h1, N _ g1, ⟨c, o, v, q, rfl, N _ h2, h3, h4⟩, ⟨c', o', v', q', rfl, N _ g2, g3, g4⟩⟩
theorem Tail.mono {nx ny : List (Addr × Obj)} (T : Tail nx) (h : ∀ p ∈ nx, p ∈ ny) : Tail ny := by
  obtain ⟨c, o, v, q, h1, h2, h3, h4⟩ := T.t51
  obtain ⟨c', o', v', q', g1, g2, g3, g4⟩ := T.t58
  exact ⟨⟨c, o, v, q, h _ h1, h _ h2, h3, h4⟩, ⟨c', o', v', q', h _ g1, h _ g2, g3, g4⟩⟩
structure Turned (sz st sa : Int) (n : Nat) (vs : List Value) (nx : List (Addr × Obj)) : Prop where
  tail : Tail nx
  len : vs.length = n
  tup : ∀ i, i < n → ∃ d t u, vs[i]? = some (.ref d) ∧ (d, tupO [.int ((sa + (i : Int) * st).fdiv sz) t, .int ((sa + (i : Int) * st).fmod sz) u]) ∈ nx
theorem Turned.snoc {sz st sa : Int} {n : Nat} {vs : List Value} {nx ny : List (Addr × Obj)} {d : Addr} {t u : Tok} (T : Turned sz st sa n vs nx) (h : ∀ p ∈ nx, p ∈ ny) (hd : (d, tupO [.int ((sa + (n : Int) * st).fdiv sz) t, .int ((sa + (n : Int) * st).fmod sz) u]) ∈ ny) :
    Turned sz st sa (n + 1) (vs ++ [.ref d]) ny := ⟨T.tail.mono h, by simp [T.len], fun i hi => by
  by_cases q : i < n
  · obtain ⟨d', t', u', e, hm⟩ := T.tup i q
    exact ⟨d', t', u', by rw [List.getElem?_append_left (by rw [T.len]; exact q)]; exact e, h _ hm⟩
  · have : i = n := by omega
    subst this
    exact ⟨d, t, u, by rw [← T.len]; simp, hd⟩⟩
theorem turned_one {sz st sa : Int} {ny : List (Addr × Obj)} {d : Addr} {t u : Tok} (T : Tail ny) (hd : (d, tupO [.int ((sa + 0 * st).fdiv sz) t, .int ((sa + 0 * st).fmod sz) u]) ∈ ny) :
    Turned sz st sa 1 [.ref d] ny := ⟨T, rfl, fun i hi => by
  have : i = 0 := by omega
  subst this
  exact ⟨d, t, u, rfl, hd⟩⟩
theorem walk_bd {sz st sa i : Int} (hz : sz = 8 ∨ sz = 16) (t0 : 1 ≤ st) (t1 : st < sz) (a0 : 0 ≤ sa) (a1 : sa < sz) (i0 : 0 ≤ i) (i1 : i ≤ sz) : 0 ≤ sa + i * st ∧ sa + i * st < 256 := by
  have h := mul_bd (a := i) (b := st) (A := 16) (B := 15) i0 (by omega) (by omega) (by omega)
  omega
end
section
open PySem PySem.W PySem.Calls PyProof.Rows

section
theorem allNe_off1 {D : Addr} : ∀ {l : List (Addr × Obj)}, LCg.Off1 D l → AllNe D l
  | [], _ => trivial
  | _ :: _, h => ⟨h.1, allNe_off1 h.2⟩
theorem off3_of {I C D : Addr} {l : List (Addr × Obj)} (a : AllNe I l) (b : AllNe C l) (c : AllNe D l) : LCg.Off3 I C D l := LCg.Off3.of fun p hp => ⟨allNe_mem a p hp, allNe_mem b p hp, allNe_mem c p hp⟩
/-- kept out of sight of omega -/
structure Ne3 (x a b c : Nat) : Prop where
  n1 : @Ne Nat x a
  n2 : @Ne Nat x b
  n3 : @Ne Nat x c
structure Dif (a b c : Nat) : Prop where
  ab : @Ne Nat a b
  ac : @Ne Nat a c
  bc : @Ne Nat b c
def CellsNe (L : Addr) (nx : List (Addr × Obj)) : Prop := AllNe (L + 1 + 1 + 1 + 1 + 1 + 1) nx ∧ AllNe (L + 1 + 1 + 1 + 1 + 1) nx ∧ AllNe (L + 1 + 1 + 1 + 1) nx ∧ AllNe (L + 1 + 1 + 1) nx ∧ AllNe (L + 1 + 1) nx ∧ AllNe (L + 1) nx
def SBJ (L : Addr) (o1 o2 o3 o4 o5 o6 : Obj) (sz st sa : Int) (i : Nat) (ys : List Value) (nw : List (Addr × Obj)) : Prop :=
  (i = 0 ∧ ys = [] ∧ nw = [(L + 1 + 1 + 1 + 1 + 1 + 1, o6), (L + 1 + 1 + 1 + 1 + 1, o5), (L + 1 + 1 + 1 + 1, o4), (L + 1 + 1 + 1, o3), (L + 1 + 1, o2), (L + 1, o1), (58, tabObj #[]), (51, tabObj #[])]) ∨ ∃ nx, 0 < i ∧ nw = (L + 1 + 1 + 1 + 1 + 1 + 1, o6) :: (L + 1 + 1 + 1 + 1 + 1, o5) :: (L + 1 + 1 + 1 + 1, o4) :: (L + 1 + 1 + 1, o3) :: (L + 1 + 1, o2) :: (L + 1, o1) :: nx ∧ Turned sz st sa i ys nx ∧ CellsNe L nx
section
variable {prog : Program} {w : World} {A : Around} {E : Value → Shared → Prop} {s : Shared} {h₀ : Heap} {L : Addr} {m : PySem.Str → Option Value}
theorem updF_h {h h' : Heap} {D : Addr} {o o' : Obj} {news : List (Addr × Obj)} {g : Obj → List (Addr × Obj)} (U : UpdF D o news g) (F : Fr h₀ L h m) (N : News h₀ L h news) (hk : ∀ b ob, b ≠ D → h.get? b = some ob → h'.get? b = some ob) (hD : h'.get? D = some o') :
    Fr h₀ L h' m ∧ News h₀ L h' (g o') := by
  obtain ⟨pre, post, rfl, hg, h1, h2⟩ := U.split
  have hm := N (D, o) (List.mem_append_right _ (.head _))
  obtain ⟨oL, es, ep, hL, r⟩ := F.ns
  refine ⟨⟨⟨oL, es, ep, hk _ _ (Ne.symm hm.2.1) hL, r⟩, fun b ob e => hk b ob (fun q => by rw [q, hm.2.2] at e; cases e) (F.keep b ob e), F.above⟩, ?_⟩
  rw [hg]
  intro p hp
  rcases List.mem_append.mp hp with hp | hp
  · have n := N p (List.mem_append_left _ hp)
    exact ⟨hk _ _ (h1 p hp) n.1, n.2⟩
  · rcases List.mem_cons.mp hp with rfl | hp
    · exact ⟨hD, hm.2⟩
    · have n := N p (List.mem_append_right _ (.tail _ hp))
      exact ⟨hk _ _ (h2 p hp) n.1, n.2⟩
theorem append_L {D : Addr} {its : List Value} {n : Nat} {v : Value} {news : List (Addr × Obj)} {g : Obj → List (Addr × Obj)} {Q : Value → Shared → Prop} (F : Fr h₀ L s.heap m) (N : News h₀ L s.heap news) (U : UpdF D (W.listOf its.toArray n) news g) (hsz : its.length ≤ 1000)
    (h : ∀ h', Fr h₀ L h' m → News h₀ L h' (g (W.listOf (its ++ [v]).toArray (n + 1))) → Q .none { s with heap := h' }) : wpAny (model prog w) A (call (.builtin "list.append") [.ref D, v]) Q E s := by
  have hz : sizeLine ≥ 1000 := by decide
  have hD : s.heap.get? D = some (W.listOf its.toArray n) := by
    obtain ⟨pre, post, rfl, _, _, _⟩ := U.split
    exact (N _ (List.mem_append_right _ (.head _))).1
  refine append_at (hsz := by show its.toArray.size ≤ sizeLine; rw [List.size_toArray]; omega) hD fun h₅ hs₅ hD₅ => ?_
  obtain ⟨F', N'⟩ := updF_h U F N (fun b ob hb e => hs₅.extBut b ob hb e) hD₅
  rw [List.push_toArray] at N'
  exact h _ F' N'
end
def spotV (sz st sa : Int) (j : Nat) : Int := (sa + (j : Int) * st).fmod sz
def letV (sz st sa : Int) (j : Nat) : PySem.Str := if spotV sz st sa j < sz - st then PySem.Str.ofString "a" else PySem.Str.ofString "b"
def imgV (sz mo st sa : Int) (j : Nat) : Int := ((-(spotV sz st sa j)) % sz - 1 - mo * st).fmod sz
def SCJ (L Dt Ds Di Dl : Addr) (o1 o2 o3 o4 o5 o6 : Obj) (vs : List Value) (nx : List (Addr × Obj)) (sz sh va mo st sa : Int) (t5 t6 : Tok) (i : Nat) (m : Str → Option Value) (nw : List (Addr × Obj)) : Prop :=
  ∃ vss cs vsi ci vsl cl, nw = (Dl, W.listOf (List.toArray vsl) cl) :: (Di, W.listOf (List.toArray vsi) ci) :: (Ds, W.listOf (List.toArray vss) cs) :: (Dt, LCg.lst vs) :: (L + 1 + 1 + 1 + 1 + 1 + 1, o6) :: (L + 1 + 1 + 1 + 1 + 1, o5) :: (L + 1 + 1 + 1 + 1, o4) :: (L + 1 + 1 + 1, o3) :: (L + 1 + 1, o2) :: (L + 1, o1) :: nx ∧
    m (PySem.Str.ofString "turned") = some (.ref Dt) ∧ m (PySem.Str.ofString "share") = some (.int sh t5) ∧ m (PySem.Str.ofString "value") = some (.int va t6) ∧ m (PySem.Str.ofString "images") = some (.ref Di) ∧ m (PySem.Str.ofString "letters") = some (.ref Dl) ∧
    IntsAre vss ((List.range i).map (spotV sz st sa)) ∧ IntsAre vsi ((List.range i).map (imgV sz mo st sa)) ∧ StrsAre vsl ((List.range i).map (letV sz st sa))
theorem ints_snoc {vs : List Value} {ns : List Int} {v : Int} {t : Tok} (h : IntsAre vs ns) : IntsAre (vs ++ [.int v t]) (ns ++ [v]) := by
  induction h with
  | nil => exact .cons _ _ .nil
  | cons n u _ ih => exact .cons n u ih
theorem strs_snoc {vs : List Value} {ns : List PySem.Str} {v : PySem.Str} {t : Tok} (h : StrsAre vs ns) : StrsAre (vs ++ [.str v t]) (ns ++ [v]) := by
  induction h with
  | nil => exact .cons _ _ .nil
  | cons n u _ ih => exact .cons n u ih
theorem allNe_lt {d : Addr} : ∀ {l : List (Addr × Obj)}, AllLt d l → AllNe d l
  | [], _ => trivial
  | _ :: _, h => ⟨Nat.ne_of_lt h.1, allNe_lt h.2⟩
theorem cells_off6 {L : Addr} {o1 o2 o3 o4 o5 : Obj} {nx : List (Addr × Obj)} (h : AllNe (L + 1 + 1 + 1 + 1 + 1 + 1) nx) : AllNe (L + 1 + 1 + 1 + 1 + 1 + 1) ((L + 1 + 1 + 1 + 1 + 1, o5) :: (L + 1 + 1 + 1 + 1, o4) :: (L + 1 + 1 + 1, o3) :: (L + 1 + 1, o2) :: (L + 1, o1) :: nx) :=
  ⟨by show @Ne Nat _ _; simp, by show @Ne Nat _ _; simp, by show @Ne Nat _ _; simp, by show @Ne Nat _ _; simp, by show @Ne Nat _ _; simp, h⟩
theorem news_bd {h₀ h : Heap} {L : Addr} {a b c : Addr × Obj} {r : List (Addr × Obj)} (N : News h₀ L h (a :: b :: c :: r)) : News h₀ L h (b :: r) := fun q hq => N q (by
  rcases List.mem_cons.mp hq with rfl | hq
  · exact .tail _ (.head _)
  · exact .tail _ (.tail _ (.tail _ hq)))
end
section
theorem is_ofFrac {a b l : Int} (hb : 0 < b) (h : a * 1024 = l * b) (hl : l.natAbs < 2 ^ 53) : Is (Float64.ofFrac (decide (a < 0) != decide (b < 0)) a.natAbs b.natAbs) l := by
  have eb : decide (b < 0) = false := decide_eq_false (by omega)
  have hs : decide (a < 0) = decide (l < 0) := by
    by_cases q : a < 0
    · have : l < 0 := Int.not_le.mp fun z => by
        have := Int.mul_nonneg z (Int.le_of_lt hb)
        omega
      rw [decide_eq_true q, decide_eq_true this]
    · have : ¬ l < 0 := fun z => by
        have := Int.mul_neg_of_neg_of_pos z hb
        omega
      rw [decide_eq_false q, decide_eq_false this]
  have hab : a.natAbs * 1024 = l.natAbs * b.natAbs := by
    have := congrArg Int.natAbs h
    rw [Int.natAbs_mul, Int.natAbs_mul] at this
    exact this
  rw [eb, Bool.bne_false]
  refine is_of_right (D := 1) (by decide) hl (by rw [hs]; exact sgn_int _) rfl (Float64.ofFrac_right (by omega) ?_ (by decide))
  rw [K74]
  generalize 2 ^ 1064 = K
  calc a.natAbs * (K * 1024) * 1 = a.natAbs * 1024 * K := by ac_rfl
    _ = l.natAbs * b.natAbs * K := by rw [hab]
    _ = l.natAbs * K * 1 * b.natAbs := by ac_rfl
/-- a token made behind a token that is no 0 -/
def TokOk (a : Nat) (t : Tok) : Prop := a ≠ 0 → t ≠ 0
theorem TokOk.ok {a : Nat} {t : Tok} (h : TokOk (a + 1) t) : t ≠ 0 := h (Nat.succ_ne_zero _)
theorem cmpNe_no {prog : Program} {w : World} {A : Around} {E : Value → Shared → Prop} {s : Shared} {a b : UInt64} {i : Int} {t u : Tok} {Q : Value → Shared → Prop} (ha : Is a i) (hb : Is b i) (h : Q (.bool false) s) :
    wpAny (model prog w) A (compareOp .NotEq (.float a t) (.float b u)) Q E s :=
  AutoFloatOps.ne_0 (by rw [bne, is_eqB ha hb, decide_eq_true rfl]; exact h)
theorem divi_is {prog : Program} {w : World} {A : Around} {E : Value → Shared → Prop} {s : Shared} {a b l : Int} {t u : Tok} {Q : Value → Shared → Prop} (hA : A.handled = none) (hb : 0 < b) (l0 : 0 ≤ l) (l1 : l < 1000000000) (a0 : 0 ≤ a) (a1 : a < 1000000000) (e : a * 1024 = l * b)
    (h : ∀ z t', TokOk s.toks t' → Is z l → Q (.float z t') { s with toks := s.toks + 1 }) : wpAny (model prog w) A (binaryOp .Div (.int a t) (.int b u)) Q E s :=
  Flt.div_ii_fits hA (Nat.lt_of_lt_of_le (show a.natAbs < 2 ^ 53 by omega) (Nat.pow_le_pow_right (by decide) (by decide))) (fun q => absurd q (by omega)) fun _ _ => h _ _ (fun q => q) (is_ofFrac hb e (by omega))

theorem mulfi_is {prog : Program} {w : World} {A : Around} {E : Value → Shared → Prop} {s : Shared} {a : UInt64} {j n k : Int} {t u : Tok} {Q : Value → Shared → Prop} (hA : A.handled = none) (ha : Is a j) (n0 : 0 ≤ n) (n1 : n ≤ 16) (e : j * n = k * 1024) (k0 : 0 ≤ k) (k1 : k ≤ 16)
    (h : ∀ z t', Is z (k * 1024) → Q (.float z t') { s with toks := s.toks + 1 }) : wpAny (model prog w) A (binaryOp .Mult (.float a t) (.int n u)) Q E s :=
  mul_fi_sharp hA (fun q => absurd (Nat.lt_of_le_of_lt q (show n.natAbs < 2 ^ 40 by omega)) (by
    have : (2 : Nat) ^ 40 ≤ 2 ^ 1024 - 2 ^ 970 := by
      have e : (2 : Nat) ^ 1024 = 2 ^ 970 * 2 ^ 54 := by rw [← Nat.pow_add]
      have h2 : (2 : Nat) ^ 40 ≤ 2 ^ 970 := Nat.pow_le_pow_right (by decide) (by decide)
      have h3 : (2 : Nat) ^ 970 * 2 ≤ 2 ^ 970 * 2 ^ 54 := Nat.mul_le_mul_left _ (by decide)
      omega
    omega)) fun _ => h _ _ (is_mul ha (is_ofInt n (by omega)) (by rw [← Int.mul_assoc, e]) (by omega))
/-- what the three functions of colours must find -/
structure Hue (r g b V D cr cg cb k : Int) : Prop where
  mx : max (max r g) b = V
  mn : min (min r g) b = V - D
  er : (V - r) * 16 = cr * D
  eg : (V - g) * 16 = cg * D
  eb : (V - b) * 16 = cb * D
  r0 : 0 ≤ cr
  g0 : 0 ≤ cg
  b0 : 0 ≤ cb
  r1 : cr ≤ 16
  g1 : cg ≤ 16
  b1 : cb ≤ 16
  hk : 6 * k = if cr = 0 then cb - cg else if cg = 0 then 32 + cr - cb else 64 + cg - cr
  k0 : -16 < k
  k1 : k < 16
theorem rgb_parts (N sh va : Int) : rgbOf N sh va =
    (let i := 6 * N / 16 % 6
     let V := 128 * va
     let p := 128 * va - 16 * (sh * va)
     let q := 128 * va - (6 * N % 16) * (sh * va)
     let t := 128 * va - (16 - 6 * N % 16) * (sh * va)
     if i = 0 then (V, t, p) else if i = 1 then (q, V, p) else if i = 2 then (p, V, t) else if i = 3 then (p, q, V) else if i = 4 then (t, p, V) else (V, p, q)) := by
  have e1 : 16 * (va * (8 - sh)) = 128 * va - 16 * (sh * va) := by grind
  have e2 : va * (128 - sh * (6 * N % 16)) = 128 * va - (6 * N % 16) * (sh * va) := by grind
  have e3 : va * (128 - sh * (16 - 6 * N % 16)) = 128 * va - (16 - 6 * N % 16) * (sh * va) := by grind
  simp only [rgbOf, e1, e2, e3]
def hueT : List (Int × Int × Int × Int × Int) := [(0, 16, 16, 0, 0), (0, 10, 16, 1, -1), (0, 4, 16, 2, -2), (2, 0, 16, 3, 13), (8, 0, 16, 4, 12), (14, 0, 16, 5, 11), (16, 0, 12, 6, 10), (16, 0, 6, 7, 9), (16, 0, 0, 8, 8), (16, 6, 0, 9, 7), (16, 12, 0, 10, 6), (14, 16, 0, 11, 5), (8, 16, 0, 12, 4), (2, 16, 0, 13, 3), (0, 16, 4, -2, 2), (0, 16, 10, -1, 1)]
def hueB (r g b V D cr cg cb k : Int) : Bool :=
  decide (max (max r g) b = V) && (decide (min (min r g) b = V - D) && (decide ((V - r) * 16 = cr * D) && (decide ((V - g) * 16 = cg * D) && (decide ((V - b) * 16 = cb * D) && (decide (0 ≤ cr) && (decide (0 ≤ cg) && (decide (0 ≤ cb) && (decide (cr ≤ 16) && (decide (cg ≤ 16) && (decide (cb ≤ 16) &&
    (decide (6 * k = if cr = 0 then cb - cg else if cg = 0 then 32 + cr - cb else 64 + cg - cr) && (decide (-16 < k) && decide (k < 16)))))))))))))
theorem hue_of {r g b V D cr cg cb k : Int} (h : hueB r g b V D cr cg cb k = true) : Hue r g b V D cr cg cb k := by
  simp only [hueB, Bool.and_eq_true, decide_eq_true_eq] at h
  obtain ⟨a1, a2, a3, a4, a5, a6, a7, a8, a9, a10, a11, a12, a13, a14⟩ := h
  exact ⟨a1, a2, a3, a4, a5, a6, a7, a8, a9, a10, a11, a12, a13, a14⟩
def hueRow (n : Int) (sh va : Int) (c : Int × Int × Int × Int × Int) : Bool :=
  hueB (rgbOf n sh va).1 (rgbOf n sh va).2.1 (rgbOf n sh va).2.2 (128 * va) (16 * (sh * va)) c.1 c.2.1 c.2.2.1 c.2.2.2.1 &&
  (hueB (rgbOf n sh va).1 (rgbOf n sh va).2.2 (rgbOf n sh va).2.1 (128 * va) (16 * (sh * va)) c.1 c.2.2.1 c.2.1 c.2.2.2.2 && (decide (c.2.2.2.1 % 16 = n) && decide (c.2.2.2.2 % 16 = (-n) % 16)))
theorem hue_all : ∀ n : Fin 16, ∀ s : Fin 8, ∀ v : Fin 8, hueRow (n.val : Nat) ((s.val + 1 : Nat)) ((v.val + 1 : Nat)) (hueT.getD n.val (0, 0, 0, 0, 0)) = true := by decide +kernel
theorem rgb_mod (N sh va : Int) : rgbOf N sh va = rgbOf (N % 16) sh va := by
  rw [rgb_parts, rgb_parts (N % 16)]
  have a : 6 * N / 16 = 6 * (N % 16) / 16 + 6 * (N / 16) := by omega
  rw [show 6 * (N % 16) / 16 % 6 = 6 * N / 16 % 6 by rw [a, Int.add_mul_emod_self_left], show 6 * (N % 16) % 16 = 6 * N % 16 by omega]
theorem hues {N sh va : Int} (N0 : 0 ≤ N) (s1 : 1 ≤ sh) (s8 : sh ≤ 8) (v1 : 1 ≤ va) (v8 : va ≤ 8) :
    ∃ cr cg cb k k', Hue (rgbOf N sh va).1 (rgbOf N sh va).2.1 (rgbOf N sh va).2.2 (128 * va) (16 * (sh * va)) cr cg cb k ∧ Hue (rgbOf N sh va).1 (rgbOf N sh va).2.2 (rgbOf N sh va).2.1 (128 * va) (16 * (sh * va)) cr cb cg k' ∧ k % 16 = N % 16 ∧ k' % 16 = (-N) % 16 := by
  rw [rgb_mod]
  obtain ⟨n, hn, e⟩ : ∃ n : Nat, n < 16 ∧ N % 16 = n := ⟨(N % 16).toNat, by omega, by omega⟩
  obtain ⟨s, hs, es⟩ : ∃ s : Nat, s < 8 ∧ sh = ((s + 1 : Nat) : Int) := ⟨(sh - 1).toNat, by omega, by omega⟩
  obtain ⟨v, hv, ev⟩ : ∃ v : Nat, v < 8 ∧ va = ((v + 1 : Nat) : Int) := ⟨(va - 1).toNat, by omega, by omega⟩
  have := hue_all ⟨n, hn⟩ ⟨s, hs⟩ ⟨v, hv⟩
  rw [e, es, ev, show (-N) % 16 = (-(n : Int)) % 16 by omega]
  simp only [hueRow, Bool.and_eq_true, decide_eq_true_eq] at this
  obtain ⟨h1, h2, h3, h4⟩ := this
  exact ⟨_, _, _, _, _, hue_of h1, hue_of h2, h3, h4⟩
theorem hue_num {sz x : Int} (hz : sz = 8 ∨ sz = 16) (h0 : 0 ≤ x) (h1 : x < 256) : ∃ N, 0 ≤ N ∧ N < 4096 ∧ x * 1024 = 64 * N * sz ∧ x.fmod sz * 1024 = 64 * (N % 16) * sz ∧ (-(x.fmod sz)) % sz * 1024 = 64 * ((-N) % 16) * sz := by
  rcases hz with rfl | rfl
  · refine ⟨2 * x, by omega, by omega, by omega, ?_, ?_⟩ <;> rw [Int.fmod_eq_emod_of_nonneg _ (by decide)] <;> omega
  · refine ⟨x, by omega, by omega, by omega, ?_, ?_⟩ <;> rw [Int.fmod_eq_emod_of_nonneg _ (by decide)] <;> omega
theorem bord_num {sz st : Int} (hz : sz = 8 ∨ sz = 16) (t0 : 1 ≤ st) (t1 : st < sz) : ∃ B, 0 ≤ B ∧ B ≤ 1024 ∧ (sz - st) * 1024 = B * sz := by
  rcases hz with rfl | rfl
  · exact ⟨128 * (8 - st), by omega, by omega, by omega⟩
  · exact ⟨64 * (16 - st), by omega, by omega, by omega⟩
structure Col (sh va : Int) : Prop where
  D0 : 0 < 16 * (sh * va)
  V0 : 0 < 128 * va
  DV : 16 * (sh * va) ≤ 128 * va
  V1 : 128 * va ≤ 1024
  SV : 16 * (sh * va) * 1024 = 128 * sh * (128 * va)
  S0 : 0 ≤ 128 * sh
  S1 : 128 * sh ≤ 1024
  LM : 2 * (8 * (va * (16 - sh))) = 128 * va + (128 * va - 16 * (sh * va))
  q7 : va * (16 - sh) * 1024 = 8 * (va * (16 - sh)) * 128
  q5 : sh * 1024 = 128 * sh * 8
  q6 : va * 1024 = 128 * va * 8
  w0 : 0 ≤ va * (16 - sh)
  w1 : va * (16 - sh) ≤ 128
theorem col_num {sh va : Int} (s1 : 1 ≤ sh) (s8 : sh ≤ 8) (v1 : 1 ≤ va) (v8 : va ≤ 8) : Col sh va := by
  have hu1 : va ≤ sh * va := by
    have := Int.mul_le_mul_of_nonneg_right s1 (show 0 ≤ va by omega)
    omega
  have hu2 : sh * va ≤ 8 * va := Int.mul_le_mul_of_nonneg_right s8 (by omega)
  have w := mul_bd (a := va) (b := 16 - sh) (A := 8) (B := 15) (by omega) v8 (by omega) (by omega)
  exact ⟨by omega, by omega, by omega, by omega, by grind, by omega, by omega, by grind, by omega, by omega, by omega, w.1, by omega⟩
theorem no_gap {sz r' c u : Int} (e3 : sz * u = c - r') (s0 : 0 ≤ r') (s1 : r' < sz) (h1 : 0 ≤ c) (h2 : c < sz) (z0 : 0 < sz) : u = 0 := by
  rcases Int.lt_trichotomy u 0 with h | h | h
  · have := Int.mul_le_mul_of_nonneg_left (show u ≤ -1 from Int.le_sub_one_of_lt h) (Int.le_of_lt z0)
    rw [Int.mul_neg, Int.mul_one, e3] at this
    clear e3 h
    omega
  · exact h
  · have := Int.mul_le_mul_of_nonneg_left (show 1 ≤ u from h) (Int.le_of_lt z0)
    rw [Int.mul_one, e3] at this
    clear e3 h
    omega
theorem side_num {sz st x N B : Int} (z0 : 0 < sz) (t0 : 1 ≤ st) (t1 : st < sz) (q3 : x.fmod sz * 1024 = 64 * (N % 16) * sz) (q4 : (sz - st) * 1024 = B * sz) :
    (64 * (N % 16) < B → x.fmod sz < sz - st ∧ (x + st).fdiv sz = x.fdiv sz + 0) ∧ (¬ 64 * (N % 16) < B → ¬ x.fmod sz < sz - st ∧ (x + st).fdiv sz = x.fdiv sz + 1) := by
  have r0 := Int.fmod_nonneg_of_pos x z0
  have r1 := Int.fmod_lt_of_pos x z0
  have e := Int.mul_fdiv_add_fmod x sz
  have e2 := Int.mul_fdiv_add_fmod (x + st) sz
  have s0 := Int.fmod_nonneg_of_pos (x + st) z0
  have s1 := Int.fmod_lt_of_pos (x + st) z0
  have iff : 64 * (N % 16) < B ↔ x.fmod sz < sz - st := by
    constructor
    · intro h
      have := Int.mul_lt_mul_of_pos_right h z0
      omega
    · intro h
      refine Int.lt_of_mul_lt_mul_right (a := sz) ?_ (Int.le_of_lt z0)
      omega
  have uni : ∀ d : Int, d = 0 ∨ d = 1 → 0 ≤ x.fmod sz + st - sz * d → x.fmod sz + st - sz * d < sz → (x + st).fdiv sz = x.fdiv sz + d := by
    intro d hd h1 h2
    have e3 : sz * ((x + st).fdiv sz - x.fdiv sz - d) = x.fmod sz + st - sz * d - (x + st).fmod sz := by grind
    have e4 : (x + st).fdiv sz - x.fdiv sz - d = 0 := no_gap e3 s0 s1 h1 h2 z0
    clear e3
    omega
  refine ⟨fun h => ?_, fun h => ?_⟩
  · have h' := iff.mp h
    exact ⟨h', uni 0 (.inl rfl) (by omega) (by omega)⟩
  · have h' : ¬ x.fmod sz < sz - st := fun q => h (iff.mpr q)
    exact ⟨h', uni 1 (.inr rfl) (by omega) (by omega)⟩
end
section
section
variable {prog : Program} {w : World} {A : Around} {E : Value → Shared → Prop} {s : Shared}
theorem nsOk_of {K : Frag} {N : Addr} {o : Obj} (e : K.lookup N = some o) (q : nsOkIn [(N, o)] N = true) : nsOkIn K N = true := by
  unfold nsOkIn at q ⊢
  rw [e]
  simpa [List.lookup] using q
theorem booked {h : Heap} {P : Params} (X : (hd.heap_1 P).In h) : NoneBooked h := by
  have key : PySem.Challenge.rw_uy0018_01.row.prog = PySem.Challenge.rw_uy0018_01.row.prog → (hd.heap_1 P).In h → NoneBooked h := by
    k_fill
    intro _ X
    have hok : nsOkIn (hd.heap_1 P) cStatics = true := by
      refine' nsOk_of ?e ?q
      case e => k_is
      case q => decide +kernel
    exact ⟨h.nsMap cStatics, .of_isNs (isNs_of_in X hok), nsMap_none_of_in X hok (by k_is)⟩
  exact key rfl X
theorem isSame_float {M : Model} {y z : UInt64} {u v : Tok} {Q : Bool → Shared → Prop}
    (hu : u ≠ 0) (hv : v ≠ 0) (hb : NoneBooked s.heap) (hq : ∀ b, Q b s) : wpAny M A (isSame (.float y u) (.float z v)) Q E s := by
  show wpAny M A (isSame.created (y == z && !Float64.isNaN y) u v) Q E s
  unfold isSame.created
  refine wpAny_ite ?_
  split
  · rename_i h; simp [hu, hv] at h
  refine wpAny_ite ?_
  split
  · exact wpAny_pure (hq _)
  refine wpAny_ite ?_
  split
  · exact wpAny_pure (hq _)
  refine wpAny_bind (wpAny_sharingNotTold_none hb ?_)
  first | rw [if_neg Bool.false_ne_true] | simp only [Bool.false_eq_true, if_false]
  refine wpAny_bind (wpAny_sharingNotTold_none hb ?_)
  first | rw [if_neg Bool.false_ne_true] | simp only [Bool.false_eq_true, if_false]
  exact wpAny_bind (wpAny_rule (wpAny_bind (wpAny_askSetting (wpAny_pure (hq _)))))
theorem eqAt_float {a b : UInt64} {i : Int} {t u : Tok} (hb : NoneBooked s.heap) (ha : Is a i) (hb' : Is b i) (ht : t ≠ 0) (hu : u ≠ 0) : SeqAt.EqAt A s (.float a t) (.float b u) true := fun prog w E Q h => by
  unfold eqBool
  refine wpAny_holding ?_
  refine wpAny_ite_split (fun _ => wpAny_bind (wpAny_rule (wpAny_pure h))) (fun _ => ?_)
  refine wpAny_bind (isSame_float ht hu hb fun q => ?_)
  cases q
  · show wpAny _ _ (richCompare .Eq (.float a t) (.float b u) >>= _) _ _ _
    exact wpAny_bind (cmpEq_yes ha hb' rfl (wpAny_truthy_bool h))
  · exact wpAny_pure h
theorem eqAt3 {D1 D2 : Addr} {a b c a' b' c' : UInt64} {i j k : Int} {t1 t2 t3 u1 u2 u3 : Tok} {Q : Value → Shared → Prop} (hu : A.units < cLine) (hb : NoneBooked s.heap)
    (h1 : s.heap.get? D1 = some (tupO [.float a t1, .float b t2, .float c t3])) (h2 : s.heap.get? D2 = some (tupO [.float a' u1, .float b' u2, .float c' u3]))
    (ia : Is a i) (ib : Is b j) (ic : Is c k) (ja : Is a' i) (jb : Is b' j) (jc : Is c' k) (n1 : t1 ≠ 0) (n2 : t2 ≠ 0) (n3 : t3 ≠ 0) (m1 : u1 ≠ 0) (m2 : u2 ≠ 0) (m3 : u3 ≠ 0) (h : Q (.bool false) s) :
    wpAny (model prog w) A (compareOp .NotEq (.ref D1) (.ref D2)) Q E s := by
  refine SeqAt.RcNeAt.tuples (e := fun _ => true) ⟨_, h1, rfl, 0, rfl⟩ ⟨_, h2, rfl, 0, rfl⟩ hu (fun x q1 q2 => ?_) prog w E Q h
  have q : x = 0 ∨ x = 1 ∨ x = 2 := by simp at q1; omega
  rcases q with rfl | rfl | rfl
  · exact eqAt_float hb ia ja n1 m1
  · exact eqAt_float hb ib jb n2 m2
  · exact eqAt_float hb ic jc n3 m3
end
end
section
open PySem PySem.W PySem.Calls PyProof.Rows PySem.Builtin PySem.Builtin.Str
def sv (w : List Nat) : PySem.Str := ⟨w.toArray⟩
/-- the sign at a spot -/
def letN (sz st s : Nat) : Nat := if s < sz - st then 97 else 98
/-- the word of l signs from the spot s on -/
def Wn (sz st l s : Nat) : List Nat := (List.range l).map fun j => letN sz st ((s + j * st) % sz)
def wins (sz st l : Nat) : List (List Nat) := (List.range sz).map (Wn sz st l)
/-- the words of l signs, in the order in which they grow -/
def Gr (sz st : Nat) : Nat → List (List Nat)
  | 0 => [[]]
  | l + 1 => (Gr sz st l).flatMap fun w => ([97, 98].filter fun c => (wins sz st (l + 1)).contains (w ++ [c])).map fun c => w ++ [c]
def txV (sz st sa : Int) : PySem.Str := sv (Wn sz.toNat st.toNat (2 * sz.toNat) sa.toNat)

theorem sv_len (w : List Nat) : (sv w).length = w.length := by simp [sv, Str.length]
theorem sv_list (w : List Nat) : (sv w).cps.toList = w := by simp [sv]
theorem sv_inj {a b : List Nat} (h : sv a = sv b) : a = b := by
  have := congrArg (fun x : PySem.Str => x.cps.toList) h
  simpa [sv] using this
theorem sv_append (a b : List Nat) : sv a ++ sv b = sv (a ++ b) := by
  show (⟨a.toArray ++ b.toArray⟩ : PySem.Str) = ⟨(a ++ b).toArray⟩
  rw [List.append_toArray]
theorem sv_beq (a b : List Nat) : (sv a == sv b) = (a == b) := by
  by_cases h : a = b
  · subst h; rw [beq_self_eq_true, beq_self_eq_true]
  · have h' : ¬ sv a = sv b := fun e => h (sv_inj e)
    rw [beq_eq_false_iff_ne.mpr h, beq_eq_false_iff_ne.mpr h']
theorem Wn_len (sz st l s : Nat) : (Wn sz st l s).length = l := by simp [Wn]
theorem Wn_add (sz st l k s : Nat) : Wn sz st (l + k) s = Wn sz st l s ++ Wn sz st k ((s + l * st) % sz) := by
  unfold Wn
  rw [List.range_add, List.map_append, List.map_map]
  congr 1
  apply List.map_congr_left
  intro j _
  show letN sz st ((s + (l + j) * st) % sz) = letN sz st (((s + l * st) % sz + j * st) % sz)
  rw [Nat.mod_add_mod, Nat.add_mul, Nat.add_assoc]
theorem Wn_mod (sz st l s : Nat) : Wn sz st l (s % sz) = Wn sz st l s := by
  unfold Wn
  apply List.map_congr_left
  intro j _
  rw [Nat.mod_add_mod]
/-- a word of the text -/
theorem Wn_cut (sz st a b s : Nat) {l : Nat} (h : a + l ≤ b) : ((Wn sz st b s).drop a).take l = Wn sz st l ((s + a * st) % sz) := by
  obtain ⟨k, rfl⟩ : ∃ k, b = a + (l + k) := ⟨b - a - l, by omega⟩
  rw [Wn_add, List.drop_left' (Wn_len ..), Wn_add, List.take_left' (Wn_len ..)]
theorem Wn_drop (sz st a b s : Nat) (h : a ≤ b) : (Wn sz st b s).drop a = Wn sz st (b - a) ((s + a * st) % sz) := by
  obtain ⟨k, rfl⟩ : ∃ k, b = a + k := ⟨b - a, by omega⟩
  rw [Wn_add, List.drop_left' (Wn_len ..), Nat.add_sub_cancel_left]
theorem Wn_ab {sz st l s c : Nat} (h : c ∈ Wn sz st l s) : c = 97 ∨ c = 98 := by
  obtain ⟨j, _, rfl⟩ := List.mem_map.mp h
  unfold letN
  split <;> simp

/-! the finder -/
def occR (s sub : List Nat) (hi limit : Nat) : List Nat → Nat → Nat → List Nat
  | [], _, _ => []
  | i :: r, free, cnt => if cnt < limit ∧ free ≤ i ∧ i + sub.length ≤ hi ∧ (s.drop i).take sub.length = sub then i :: occR s sub hi limit r (i + sub.length) (cnt + 1) else occR s sub hi limit r free cnt
theorem occ_step (s sub : List Nat) (hi limit : Nat) : ∀ (l : List Nat) (st : Array Nat × Nat),
    (forIn (m := Id) l st (StrLaws.occBody (sv s) (sv sub) hi limit)).run.fst.toList = st.fst.toList ++ occR s sub hi limit l st.snd st.fst.size
  | [], st => by simp [occR]
  | i :: l, st => by
    rw [List.forIn_cons]
    unfold StrLaws.occBody
    have e : (((st.fst.size < limit ∧ st.snd ≤ i) ∧ i + (sv sub).length ≤ hi) ∧ subAt (sv s) (sv sub) i = true) ↔ (st.fst.size < limit ∧ st.snd ≤ i ∧ i + sub.length ≤ hi ∧ (s.drop i).take sub.length = sub) := by
      rw [StrLaws.subAt_eq, sv_len, sv_list, sv_list, beq_iff_eq]
      simp only [and_assoc]
    split
    · rename_i hc
      rw [e] at hc
      have := occ_step s sub hi limit l (st.fst.push i, i + (sv sub).length)
      unfold StrLaws.occBody at this
      simp only [pure_bind]
      refine this.trans ?_
      simp only [occR, if_pos hc, Array.toList_push, List.append_assoc, List.singleton_append, Array.size_push, sv_len]
    · rename_i hc
      rw [e] at hc
      have := occ_step s sub hi limit l (st.fst, st.snd)
      unfold StrLaws.occBody at this
      simp only [pure_bind]
      refine this.trans ?_
      simp only [occR, if_neg hc]
theorem occ_R (s sub : List Nat) (lo hi limit : Nat) : occurrences (sv s) (sv sub) lo hi limit = occR s sub hi limit (List.range' lo (hi + 1 - lo)) lo 0 := by
  rw [StrLaws.occ_eq, occ_step]
  simp
theorem occR_full (s sub : List Nat) (hi : Nat) : ∀ (l : List Nat) (free : Nat), occR s sub hi 1 l free 1 = []
  | [], _ => rfl
  | i :: l, free => by simp [occR, occR_full]
theorem occR_one (s sub : List Nat) (hi : Nat) : ∀ (n a : Nat) (free : Nat), free ≤ a →
    occR s sub hi 1 (List.range' a n) free 0 = ((List.range' a n).find? fun i => decide (i + sub.length ≤ hi ∧ (s.drop i).take sub.length = sub)).toList
  | 0, _, _, _ => rfl
  | n + 1, a, free, h => by
    rw [List.range'_succ]
    unfold occR
    by_cases q : a + sub.length ≤ hi ∧ (s.drop a).take sub.length = sub
    · rw [if_pos ⟨by decide, h, q⟩, occR_full, List.find?_cons_of_pos (by simpa using q)]
      rfl
    · rw [if_neg (fun z => q z.2.2), List.find?_cons_of_neg (by simpa using q), occR_one s sub hi n (a + 1) free (by omega)]
theorem fnd_eq (s sub : List Nat) {i j : Nat} (hj : j ≤ s.length) :
    fnd (sv s) (sv sub) (i : Int) (j : Int) = match (List.range' i (j + 1 - i)).find? fun k => decide (k + sub.length ≤ j ∧ (s.drop k).take sub.length = sub) with | some k => (k : Int) | none => -1 := by
  have e : ∀ k : Nat, fromIndex (sv s).length (k : Int) = k := fun k => by
    unfold fromIndex
    rw [if_neg (by omega)]
    omega
  unfold fnd
  rw [e, e, sv_len, Nat.min_eq_left hj, occ_R, occR_one _ _ _ _ _ _ (Nat.le_refl _)]
  cases (List.range' i (j + 1 - i)).find? fun k => decide (k + sub.length ≤ j ∧ (s.drop k).take sub.length = sub) <;> rfl
theorem fnd_nil (s : List Nat) {i j : Nat} (hij : i ≤ j) (hj : j ≤ s.length) : fnd (sv s) (sv []) (i : Int) (j : Int) = i := by
  rw [fnd_eq _ _ hj, show j + 1 - i = (j - i) + 1 by omega, List.range'_succ, List.find?_cons_of_pos (by simp [hij])]
theorem fnd_some {s sub : List Nat} {i j : Nat} (hj : j ≤ s.length) {k : Nat} (h1 : i ≤ k) (h2 : k + sub.length ≤ j) (h3 : (s.drop k).take sub.length = sub) :
    ∃ k', fnd (sv s) (sv sub) (i : Int) (j : Int) = (k' : Nat) ∧ k' + sub.length ≤ j := by
  rw [fnd_eq _ _ hj]
  cases q : (List.range' i (j + 1 - i)).find? fun k => decide (k + sub.length ≤ j ∧ (s.drop k).take sub.length = sub) with
  | none =>
    exfalso
    have := List.find?_eq_none.mp q k (by rw [List.mem_range'_1]; omega)
    exact this (by simpa using ⟨h2, h3⟩)
  | some k' => exact ⟨k', rfl, by have := List.find?_some q; simp at this; exact this.1⟩
theorem fnd_none {s sub : List Nat} {i j : Nat} (hj : j ≤ s.length) (h : ∀ k, i ≤ k → k + sub.length ≤ j → (s.drop k).take sub.length ≠ sub) : fnd (sv s) (sv sub) (i : Int) (j : Int) = -1 := by
  rw [fnd_eq _ _ hj]
  cases q : (List.range' i (j + 1 - i)).find? fun k => decide (k + sub.length ≤ j ∧ (s.drop k).take sub.length = sub) with
  | none => rfl
  | some k' =>
    exfalso
    have h1 := List.find?_some q
    have h2 := List.mem_of_find?_eq_some q
    rw [List.mem_range'_1] at h2
    simp at h1
    exact h k' (by omega) h1.1 h1.2
theorem ellE3 (g p q r : PySem.Str) : ellE g [p, q, r] = if (p.length : Int) = 0 then lastE g r [p, q] [p, q, r] 0 g.length else if Txt.startswith g p = true then lastE g r [q] [q, r] p.length g.length else false := rfl
theorem ellE2 (g p q : PySem.Str) : ellE g [p, q] = if (p.length : Int) = 0 then lastE g q [p] [p, q] 0 g.length else if Txt.startswith g p = true then lastE g q [] [q] p.length g.length else false := rfl
theorem len0 : ((sv ([] : List Nat)).length : Int) = 0 := by rw [sv_len]; rfl
theorem lastE0 (g : PySem.Str) (i l : List PySem.Str) {a b : Int} (h : a ≤ b) : lastE g (sv []) i l a b = loopE g l a b := by
  unfold lastE
  rw [if_pos len0, if_neg (by omega)]
theorem loopE0 (s : List Nat) {i j : Nat} (hij : i ≤ j) (hj : j ≤ s.length) (r : List PySem.Str) : loopE (sv s) (sv [] :: r) (i : Int) (j : Int) = loopE (sv s) r (i : Int) (j : Int) := by
  simp only [loopE]
  rw [fnd_nil s hij hj, if_neg (by omega), len0, Int.add_zero]
/-- a word within a text -/
theorem ell_in (s w : List Nat) : ellE (sv s) [sv [], sv w, sv []] = true ↔ ∃ k, k + w.length ≤ s.length ∧ (s.drop k).take w.length = w := by
  rw [ellE3, if_pos len0, lastE0 _ _ _ (by omega), sv_len]
  have e0 := loopE0 s (Nat.zero_le s.length) (Nat.le_refl _) [sv w, sv []]
  rw [Int.natCast_zero] at e0
  rw [e0]
  constructor
  · intro h
    refine Classical.byContradiction fun q => ?_
    have e : fnd (sv s) (sv w) ((0 : Nat) : Int) (s.length : Int) = -1 := fnd_none (Nat.le_refl _) fun k _ h1 h2 => q ⟨k, h1, h2⟩
    simp only [loopE] at h
    rw [Int.natCast_zero] at e
    rw [e, if_pos (by decide)] at h
    cases h
  · rintro ⟨k, h1, h2⟩
    obtain ⟨k', e, h3⟩ := fnd_some (i := 0) (Nat.le_refl _) (Nat.zero_le k) h1 h2
    rw [Int.natCast_zero] at e
    unfold loopE
    rw [e, if_neg (by omega), sv_len, ← Int.natCast_add, loopE0 s h3 (Nat.le_refl _)]
    rfl
theorem sw_eq (s w : List Nat) : Txt.startswith (sv s) (sv w) = (s.take w.length == w) := by
  unfold Txt.startswith
  rw [StrLaws.subAt_eq, sv_len, sv_len, sv_list, sv_list, List.drop_zero, Nat.zero_add]
  by_cases q : w.length ≤ s.length
  · rw [decide_eq_true q, Bool.true_and]
  · rw [decide_eq_false q, Bool.false_and]
    symm
    refine beq_eq_false_iff_ne.mpr fun e => q ?_
    have := congrArg List.length e
    rw [List.length_take] at this
    omega
theorem ew_eq (s w : List Nat) : Txt.endswith (sv s) (sv w) = (decide (w.length ≤ s.length) && (s.drop (s.length - w.length)).take w.length == w) := by
  unfold Txt.endswith
  rw [StrLaws.subAt_eq, sv_len, sv_len, sv_list, sv_list, Nat.zero_add]
/-- a text that begins so -/
theorem ell_begin {s w : List Nat} (hw : w ≠ []) : ellE (sv s) [sv w, sv []] = (s.take w.length == w) := by
  have hl : ¬ (((sv w).length : Int) = 0) := fun e => hw (List.length_eq_zero_iff.mp (by rw [sv_len] at e; omega))
  rw [ellE2, if_neg hl, sw_eq]
  by_cases q : (s.take w.length == w) = true
  · rw [if_pos q, q]
    have hle : w.length ≤ s.length := by
      have := congrArg List.length (beq_iff_eq.mp q)
      rw [List.length_take] at this
      omega
    rw [sv_len, sv_len, lastE0 _ _ _ (by omega), loopE0 s hle (Nat.le_refl _)]
    rfl
  · rw [if_neg q]
    exact (Bool.eq_false_iff.mpr q).symm
/-- a text that begins and ends so -/
theorem ell_both {s w u : List Nat} (hw : w ≠ []) (hu : u ≠ []) (h1 : s.take w.length = w) (h2 : (s.drop (s.length - u.length)).take u.length = u) (h3 : u.length ≤ s.length) :
    ellE (sv s) [sv w, sv u] = decide (w.length + u.length ≤ s.length) := by
  have hl : ¬ (((sv w).length : Int) = 0) := fun e => hw (List.length_eq_zero_iff.mp (by rw [sv_len] at e; omega))
  have hl2 : ¬ (((sv u).length : Int) = 0) := fun e => hu (List.length_eq_zero_iff.mp (by rw [sv_len] at e; omega))
  have hs : Txt.startswith (sv s) (sv w) = true := by rw [sw_eq, h1, beq_self_eq_true]
  have he : Txt.endswith (sv s) (sv u) = true := by rw [ew_eq, h2, beq_self_eq_true, decide_eq_true h3]; rfl
  rw [ellE2, if_neg hl, if_pos hs]
  unfold lastE
  rw [if_neg hl2, if_pos he, sv_len, sv_len, sv_len]
  by_cases q : w.length + u.length ≤ s.length
  · rw [decide_eq_true q, if_neg (by omega)]
    rfl
  · rw [decide_eq_false q, if_pos (by omega)]
end
section
open PySem PySem.W PySem.Calls PyProof.Rows PySem.Builtin PySem.Builtin.Str
abbrev dots : List Nat := [46, 46, 46]
theorem dots_eq : PySem.Str.ofString "..." = sv dots := by decide +kernel
/-- words with dots between -/
def jd : List (List Nat) → List Nat
  | [] => []
  | [w] => w
  | w :: v :: r => w ++ dots ++ jd (v :: r)
def cutsAt (a : Nat) : List (List Nat) → List Nat
  | [] => []
  | [_] => []
  | w :: v :: r => (a + w.length) :: cutsAt (a + w.length + 3) (v :: r)
theorem occR_skip (s sub : List Nat) (hi limit : Nat) : ∀ (n m a free cnt : Nat), (∀ i, a ≤ i → i < a + n → ¬ (cnt < limit ∧ free ≤ i ∧ i + sub.length ≤ hi ∧ (s.drop i).take sub.length = sub)) →
    occR s sub hi limit (List.range' a (n + m)) free cnt = occR s sub hi limit (List.range' (a + n) m) free cnt
  | 0, m, a, free, cnt, _ => by rw [Nat.zero_add, Nat.add_zero]
  | n + 1, m, a, free, cnt, h => by
    rw [show n + 1 + m = (n + m) + 1 by omega, List.range'_succ]
    conv => lhs; unfold occR
    rw [if_neg (h a (Nat.le_refl _) (by omega)), occR_skip s sub hi limit n m (a + 1) free cnt fun i h1 h2 => h i (by omega) (by omega), show a + 1 + n = a + (n + 1) by omega]
theorem at_dot {s : List Nat} {i : Nat} (h : (s.drop i).take dots.length = dots) : s[i]? = some 46 := by
  have := congrArg (fun l : List Nat => l[0]?) h
  simpa [List.getElem?_take, List.getElem?_drop] using this
theorem jd_cons (w v : List Nat) (r : List (List Nat)) : jd (w :: v :: r) = w ++ (dots ++ jd (v :: r)) := by
  show w ++ dots ++ jd (v :: r) = _
  rw [List.append_assoc]
theorem occ_jd (limit : Nat) : ∀ (ws : List (List Nat)) (pre : List Nat) (cnt : Nat), ws ≠ [] → (∀ w ∈ ws, 46 ∉ w) → cnt + ws.length ≤ limit →
    occR (pre ++ jd ws) dots (pre ++ jd ws).length limit (List.range' pre.length ((jd ws).length + 1)) pre.length cnt = cutsAt pre.length ws
  | [], _, _, h, _, _ => absurd rfl h
  | [w], pre, cnt, _, h, _ => by
    have := occR_skip (pre ++ jd [w]) dots (pre ++ jd [w]).length limit ((jd [w]).length + 1) 0 pre.length pre.length cnt (by
      rintro i h1 h2 ⟨_, _, h3, h4⟩
      have e := at_dot h4
      have hw : jd [w] = w := rfl
      rw [hw] at h2 h3 e
      rw [List.length_append, show dots.length = 3 from rfl] at h3
      rw [List.getElem?_append_right h1] at e
      exact h w (.head _) (List.mem_of_getElem? e))
    rw [Nat.add_zero] at this
    rw [this]
    rfl
  | w :: v :: r, pre, cnt, _, h, hl => by
    have hw : 46 ∉ w := h w (.head _)
    have es : pre ++ jd (w :: v :: r) = (pre ++ w ++ dots) ++ jd (v :: r) := by rw [jd_cons]; simp only [List.append_assoc]
    have el : (jd (w :: v :: r)).length + 1 = w.length + (1 + (2 + ((jd (v :: r)).length + 1))) := by rw [jd_cons, List.length_append, List.length_append, show dots.length = 3 from rfl]; omega
    have ih := occ_jd limit (v :: r) (pre ++ w ++ dots) (cnt + 1) (by simp) (fun q hq => h q (.tail _ hq)) (by simp only [List.length_cons] at hl ⊢; omega)
    have lp : (pre ++ w ++ dots).length = pre.length + w.length + 3 := by rw [List.length_append, List.length_append]; rfl
    rw [lp] at ih
    rw [el, occR_skip _ _ _ _ w.length _ _ _ _ (by
      rintro i h1 h2 ⟨_, _, h3, h4⟩
      have e := at_dot h4
      rw [jd_cons, List.getElem?_append_right h1, List.getElem?_append_left (by omega)] at e
      exact hw (List.mem_of_getElem? e))]
    rw [show 1 + (2 + ((jd (v :: r)).length + 1)) = (2 + ((jd (v :: r)).length + 1)) + 1 by omega, List.range'_succ]
    unfold occR
    rw [if_pos ⟨by simp only [List.length_cons] at hl; omega, by omega, by rw [es, List.length_append, lp]; show _ + 3 ≤ _; omega, by
      rw [es, List.append_assoc, List.drop_left' (by rw [List.length_append])]
      rfl⟩]
    rw [occR_skip _ _ _ _ 2 _ _ _ _ (by
      rintro i h1 h2 ⟨_, h5, _, _⟩
      rw [show dots.length = 3 from rfl] at h5
      omega)]
    rw [es, show pre.length + w.length + 1 + 2 = pre.length + w.length + 3 by omega, show pre.length + w.length + dots.length = pre.length + w.length + 3 from rfl, ih]
    rfl
theorem parts_jd : ∀ (ws : List (List Nat)) (pre : List Nat), ws ≠ [] → StrLaws.partsFrom (sv (pre ++ jd ws)) 3 pre.length (cutsAt pre.length ws) = ws.map sv
  | [], _, h => absurd rfl h
  | [w], pre, _ => by
    show [strSub (sv (pre ++ w)) pre.length (sv (pre ++ w)).length] = [sv w]
    congr 1
    refine PySem.Str.ext' ?_
    rw [← Array.toList_inj, StrLaws.strSub_toList, sv_list, sv_list, sv_len, List.drop_left, List.length_append, Nat.add_sub_cancel_left, List.take_length]
  | w :: v :: r, pre, _ => by
    have es : pre ++ jd (w :: v :: r) = (pre ++ w ++ dots) ++ jd (v :: r) := by rw [jd_cons]; simp only [List.append_assoc]
    have lp : (pre ++ w ++ dots).length = pre.length + w.length + 3 := by rw [List.length_append, List.length_append]; rfl
    have ih := parts_jd (v :: r) (pre ++ w ++ dots) (by simp)
    rw [lp] at ih
    show strSub (sv (pre ++ jd (w :: v :: r))) pre.length (pre.length + w.length) :: StrLaws.partsFrom _ 3 (pre.length + w.length + 3) (cutsAt (pre.length + w.length + 3) (v :: r)) = sv w :: (v :: r).map sv
    rw [es, ih]
    congr 1
    refine PySem.Str.ext' ?_
    rw [← Array.toList_inj, StrLaws.strSub_toList, sv_list, sv_list, Nat.add_sub_cancel_left, List.append_assoc, List.append_assoc, List.drop_left, List.take_left]
theorem jd_len : ∀ (ws : List (List Nat)), ws.length ≤ (jd ws).length + 1
  | [] => Nat.zero_le _
  | [_] => by simp
  | w :: v :: r => by
    have := jd_len (v :: r)
    rw [jd_cons, List.length_append, List.length_append, show dots.length = 3 from rfl]
    simp only [List.length_cons] at this ⊢
    omega
theorem kind_dots : PySem.Builtin.Str.strKind (sv dots) = 1 := by decide +kernel
theorem kind_pos (x : PySem.Str) : ¬ PySem.Builtin.Str.strKind x < 1 := by
  unfold PySem.Builtin.Str.strKind
  split
  · omega
  · split <;> omega
theorem split_jd {w v : List Nat} {r : List (List Nat)} (h : ∀ q ∈ w :: v :: r, 46 ∉ q) : Txt.split (sv (jd (w :: v :: r))) (sv dots) = (w :: v :: r).map sv := by
  have hl : 3 ≤ (jd (w :: v :: r)).length := by rw [jd_cons, List.length_append, List.length_append, show dots.length = 3 from rfl]; omega
  have o := occ_jd ((jd (w :: v :: r)).length + 1) (w :: v :: r) [] 0 (by simp) h (by have := jd_len (w :: v :: r); omega)
  rw [List.nil_append] at o
  have e : occurrences (sv (jd (w :: v :: r))) (sv dots) 0 (sv (jd (w :: v :: r))).length ((sv (jd (w :: v :: r))).length + 1) = cutsAt 0 (w :: v :: r) := by
    rw [occ_R, sv_len]
    exact o
  unfold Txt.split
  rw [e, if_neg (by
    rw [sv_len, sv_len, kind_dots, decide_eq_false (show ¬ (jd (w :: v :: r)).length < dots.length by show ¬ _ < 3; omega), decide_eq_false (kind_pos _)]
    decide), if_neg (by simp [cutsAt]), StrLaws.partsBetween_eq]
  exact parts_jd (w :: v :: r) [] (by simp)
theorem has_dots {w v : List Nat} {r : List (List Nat)} : (occurrences (sv (jd (w :: v :: r))) (sv dots) 0 (sv (jd (w :: v :: r))).length 1).isEmpty = false := by
  rw [occ_R, occR_one _ _ _ _ _ _ (Nat.le_refl _), sv_len]
  cases q : (List.range' 0 ((jd (w :: v :: r)).length + 1 - 0)).find? fun i => decide (i + dots.length ≤ (jd (w :: v :: r)).length ∧ ((jd (w :: v :: r)).drop i).take dots.length = dots) with
  | some k => rfl
  | none =>
    exfalso
    have hl : (jd (w :: v :: r)).length = w.length + (3 + (jd (v :: r)).length) := by rw [jd_cons, List.length_append, List.length_append]; rfl
    have := List.find?_eq_none.mp q w.length (by rw [List.mem_range'_1]; omega)
    refine this (by
      simp only [decide_eq_true_eq]
      refine ⟨by rw [hl]; show _ + 3 ≤ _; omega, ?_⟩
      rw [jd_cons, List.drop_left]
      rfl)
theorem no_dots {w : List Nat} (h : 46 ∉ w) : (occurrences (sv w) (sv dots) 0 (sv w).length 1).isEmpty = true := by
  rw [occ_R, occR_one _ _ _ _ _ _ (Nat.le_refl _), sv_len]
  cases q : (List.range' 0 (w.length + 1 - 0)).find? fun i => decide (i + dots.length ≤ w.length ∧ (w.drop i).take dots.length = dots) with
  | none => rfl
  | some k =>
    exfalso
    have h1 := List.find?_some q
    simp only [decide_eq_true_eq] at h1
    exact h (List.mem_of_getElem? (at_dot h1.2))
end
section
open PySem PySem.W PySem.Calls PyProof.Rows PySem.Builtin PySem.Builtin.Str
/-- the drawn numbers, as naturals -/
structure ParN (n st sa mo : Nat) : Prop where
  z : n = 8 ∨ n = 16
  t0 : 1 ≤ st
  t1 : st < n
  odd : st % 2 = 1
  a1 : sa < n
  m1 : 1 ≤ mo
  m7 : mo ≤ 7
theorem Pars.nat {sz sh va mo st sa : Int} (P : Pars sz sh va mo st sa) : ParN sz.toNat st.toNat sa.toNat mo.toNat ∧ sz = (sz.toNat : Nat) ∧ st = (st.toNat : Nat) ∧ sa = (sa.toNat : Nat) ∧ mo = (mo.toNat : Nat) := by
  obtain ⟨z, h1, h8, v1, v8, m1, m7, t0, t1, odd, a0, a1⟩ := P
  refine ⟨⟨?_, ?_, ?_, ?_, ?_, ?_, ?_⟩, ?_, ?_, ?_, ?_⟩ <;> omega
theorem spot_nat {n st sa : Nat} (j : Nat) : spotV (n : Int) (st : Int) (sa : Int) j = (((sa + j * st) % n : Nat) : Int) := by
  unfold spotV
  rw [Int.fmod_eq_emod_of_nonneg _ (by omega)]
  rfl
theorem letV_nat {n st sa : Nat} (h : st ≤ n) (j : Nat) : letV (n : Int) (st : Int) (sa : Int) j = sv [letN n st ((sa + j * st) % n)] := by
  unfold letV letN
  rw [spot_nat]
  by_cases q : (sa + j * st) % n < n - st
  · rw [if_pos q, if_pos (by omega)]
    decide +kernel
  · rw [if_neg q, if_neg (by omega)]
    decide +kernel
theorem join_signs : ∀ (l : List Nat), Str.join (sv []) (l.map fun c => sv [c]) = sv l
  | [] => rfl
  | [c] => rfl
  | c :: d :: r => by
    have ih := join_signs (d :: r)
    show sv [c] ++ sv [] ++ Str.join (sv []) ((d :: r).map fun c => sv [c]) = _
    rw [ih, sv_append, sv_append]
    rfl
theorem ofStr_nil : PySem.Str.ofString "" = sv [] := by decide +kernel
theorem join_letters {n st sa : Nat} (h : st ≤ n) : Txt.join (PySem.Str.ofString "") ((List.range n).map (letV (n : Int) (st : Int) (sa : Int))) = sv (Wn n st n sa) := by
  unfold Txt.join
  rw [StrLaws.glued_eq_join, ofStr_nil]
  have : (List.range n).map (letV (n : Int) (st : Int) (sa : Int)) = (Wn n st n sa).map fun c => sv [c] := by
    unfold Wn
    rw [List.map_map]
    exact List.map_congr_left fun j _ => letV_nat h j
  rw [this, join_signs]
theorem twice_text {n st sa : Nat} (hn : 0 < n) : Txt.mul (sv (Wn n st n sa)) 2 = sv (Wn n st (2 * n) sa) := by
  unfold Txt.mul
  rw [if_neg (by decide), if_neg (by rw [sv_len, Wn_len]; simp; omega)]
  have e : Wn n st (2 * n) sa = Wn n st n sa ++ Wn n st n sa := by
    rw [show 2 * n = n + n by omega, Wn_add, Nat.add_mul_mod_self_left, Wn_mod]
  rw [e]
  show (⟨#[] ++ (Wn n st n sa).toArray ++ (Wn n st n sa).toArray⟩ : PySem.Str) = ⟨(Wn n st n sa ++ Wn n st n sa).toArray⟩
  rw [Array.empty_append, List.append_toArray]
def coverChk (n : Nat) : Bool := (List.range n).all fun st => st % 2 == 0 || (List.range n).all fun sa => (List.range n).all fun s => (List.range n).any fun i => (sa + i * st) % n == s
theorem cover8 : coverChk 8 = true := by decide +kernel
theorem cover16 : coverChk 16 = true := by decide +kernel
theorem cover {n st sa mo s : Nat} (P : ParN n st sa mo) (hs : s < n) : ∃ i, i < n ∧ (sa + i * st) % n = s := by
  have h : coverChk n = true := by
    rcases P.z with h | h <;> rw [h]
    · exact cover8
    · exact cover16
  unfold coverChk at h
  rw [List.all_eq_true] at h
  have h1 := h st (List.mem_range.mpr P.t1)
  rw [P.odd] at h1
  simp only [Nat.reduceBEq, Bool.false_or, List.all_eq_true] at h1
  have h2 := h1 sa (List.mem_range.mpr P.a1) s (List.mem_range.mpr hs)
  rw [List.any_eq_true] at h2
  obtain ⟨i, hi, e⟩ := h2
  exact ⟨i, List.mem_range.mp hi, beq_iff_eq.mp e⟩
theorem in_text {n st sa mo l : Nat} {w : List Nat} (P : ParN n st sa mo) (hw : w.length = l) (hl : l ≤ 7) :
    (∃ k, k + w.length ≤ (Wn n st (2 * n) sa).length ∧ ((Wn n st (2 * n) sa).drop k).take w.length = w) ↔ (wins n st l).contains w = true := by
  rw [Wn_len, hw, List.contains_iff_mem]
  unfold wins
  rw [List.mem_map]
  have hn : 8 ≤ n := by rcases P.z with h | h <;> omega
  constructor
  · rintro ⟨k, h1, h2⟩
    rw [Wn_cut _ _ _ _ _ h1] at h2
    exact ⟨_, List.mem_range.mpr (Nat.mod_lt _ (by omega)), h2⟩
  · rintro ⟨s, h1, h2⟩
    obtain ⟨i, h3, h4⟩ := cover P (List.mem_range.mp h1)
    exact ⟨i, by omega, by rw [Wn_cut _ _ _ _ _ (by omega), h4]; exact h2⟩
theorem Gr_win {n st : Nat} : ∀ {l : Nat} {w : List Nat}, w ∈ Gr n st l → w = [] ∧ l = 0 ∨ ∃ s, s < n ∧ w = Wn n st l s
  | 0, w, h => .inl ⟨List.mem_singleton.mp h, rfl⟩
  | l + 1, w, h => by
    obtain ⟨v, _, hw⟩ := List.mem_flatMap.mp h
    obtain ⟨c, hc, rfl⟩ := List.mem_map.mp hw
    have := (List.mem_filter.mp hc).2
    rw [List.contains_iff_mem] at this
    obtain ⟨s, h1, h2⟩ := List.mem_map.mp this
    exact .inr ⟨s, List.mem_range.mp h1, h2.symm⟩
theorem Gr_len {n st l : Nat} {w : List Nat} (h : w ∈ Gr n st l) : w.length = l := by
  rcases Gr_win h with ⟨h1, h2⟩ | ⟨s, _, h1⟩
  · rw [h1, h2]; rfl
  · rw [h1, Wn_len]
theorem Gr_ab {n st l c : Nat} {w : List Nat} (h : w ∈ Gr n st l) (hc : c ∈ w) : c = 97 ∨ c = 98 := by
  rcases Gr_win h with ⟨h1, h2⟩ | ⟨s, _, h1⟩
  · rw [h1] at hc; cases hc
  · rw [h1] at hc; exact Wn_ab hc
/-- what the growing words must satisfy -/
def grChk (n st : Nat) : Bool := (List.range 7).all fun k => (Gr n st (k + 1)).length == k + 2 && ((Gr n st (k + 1)).filter fun w => w == w.reverse).length == 1 + (k + 1) % 2 && ((Gr n st (k + 1)).filter fun w => !(w == w.reverse)).length == (k + 1) - (k + 1) % 2
/-- the numbers that are stored in order -/
def cutX (n st k : Nat) : Nat := (n - (k * st) % n) % n
def cutA (n st k : Nat) (l : List Nat) : Nat := (l.takeWhile fun c => decide (c < cutX n st k)).length
def cutsN (n st : Nat) : Nat → List Nat
  | 0 => []
  | k + 1 => (cutsN n st k).take (cutA n st k (cutsN n st k)) ++ cutX n st k :: (cutsN n st k).drop (cutA n st k (cutsN n st k))
def insChk (n st : Nat) : Bool := (List.range 8).all fun k => ((cutsN n st k).take (cutA n st k (cutsN n st k))).all (fun c => decide (c < cutX n st k)) && ((cutsN n st k).drop (cutA n st k (cutsN n st k))).all (fun c => !decide (c < cutX n st k))
def cntN (n st mo s : Nat) : Nat := ((cutsN n st (mo + 1)).takeWhile fun c => decide (c ≤ s)).length
def imgN (n st mo s : Nat) : Nat := ((n - s) % n + 8 * n - 1 - mo * st) % n
def endChk (n st mo s : Nat) : Bool :=
  ((cutsN n st (mo + 1)).take (cntN n st mo s)).all (fun c => decide (c ≤ s)) && ((cutsN n st (mo + 1)).drop (cntN n st mo s)).all (fun c => decide (s < c)) &&
  decide (1 ≤ cntN n st mo s) && decide (cntN n st mo s ≤ mo + 1) && (Gr n st mo)[cntN n st mo s - 1]? == some (Wn n st mo s) &&
  !((Gr n st mo)[(cntN n st mo s - 1 + mo) % (mo + 1)]? == some (Wn n st mo s)) && Wn n st mo (imgN n st mo s) == (Wn n st mo s).reverse
def allChk (n : Nat) : Bool := (List.range n).all fun st => st % 2 == 0 || (grChk n st && insChk n st && (List.range 7).all fun k => (List.range n).all fun s => endChk n st (k + 1) s)
theorem all8 : allChk 8 = true := by decide +kernel
theorem all16 : allChk 16 = true := by decide +kernel
theorem lets_fit {sz st sa : Int} {n : Nat} (h : n ≤ 16) : (((List.range n).map (letV sz st sa)).map (·.length)).sum + ((List.range n).map (letV sz st sa)).length * (PySem.Str.ofString "").length ≤ 16777216 := by
  have e0 : (PySem.Str.ofString "").length = 0 := by decide +kernel
  have ea : (PySem.Str.ofString "a").length = 1 := by decide +kernel
  have eb : (PySem.Str.ofString "b").length = 1 := by decide +kernel
  have : ∀ l : List Nat, ((l.map (letV sz st sa)).map (·.length)).sum ≤ l.length := by
    intro l
    induction l with
    | nil => simp
    | cons a l ih =>
      simp only [List.map_cons, List.sum_cons, List.length_cons]
      have : (letV sz st sa a).length = 1 := by
        unfold letV
        split <;> assumption
      omega
  have := this (List.range n)
  rw [List.length_range] at this
  rw [e0]
  omega
theorem mulOk2 {n st sa : Nat} (h : n ≤ 16) : MulOk (sv (Wn n st n sa)) 2 := by
  have e : sizeLine ≥ 1000 := by decide
  refine ⟨by decide, fun _ _ => ?_, fun _ _ => ?_⟩
  · rw [sv_len, Wn_len]
    have : ((2 : Int) ^ 63 - 1) / 2 = 4611686018427387903 := by decide
    rw [this]
    omega
  · rw [sv_len, Wn_len]
    unfold tooLong
    exact decide_eq_false (by show ¬ n * 2 > sizeLine; omega)
end
section
open PySem PySem.W PySem.Calls PyProof.Rows PySem.Builtin PySem.Builtin.Str
def extJ (n st l : Nat) (w : List Nat) (j : Nat) : List (List Nat) := (([97, 98].take j).filter fun c => (wins n st l).contains (w ++ [c])).map fun c => w ++ [c]
def growJ (n st l : Nat) (i j : Nat) : List (List Nat) := ((Gr n st l).take i).flatMap (extJ n st (l + 1) · 2) ++ (match (Gr n st l)[i]? with | some w => extJ n st (l + 1) w j | none => [])
/-- what the growing comprehension holds -/
def GK (n st l : Nat) (i j : Nat) (ys : List Value) : Prop := StrsAre ys ((growJ n st l i j).map sv)
theorem extJ_0 (n st l : Nat) (w : List Nat) : extJ n st l w 0 = [] := rfl
theorem growJ_0 (n st l i : Nat) : growJ n st l i 0 = ((Gr n st l).take i).flatMap (extJ n st (l + 1) · 2) := by
  unfold growJ
  cases (Gr n st l)[i]? <;> simp [extJ_0]
theorem GK_0 (n st l : Nat) : GK n st l 0 0 [] := by
  unfold GK
  rw [growJ_0]
  exact .nil
theorem growJ_next {n st l i : Nat} (hi : i < (Gr n st l).length) : growJ n st l i 2 = growJ n st l (i + 1) 0 := by
  rw [growJ_0, growJ, List.getElem?_eq_getElem hi, List.take_succ_eq_append_getElem hi, List.flatMap_append]
  simp
theorem GK_next {n st l i : Nat} {ys : List Value} (hi : i < (Gr n st l).length) (h : GK n st l i 2 ys) : GK n st l (i + 1) 0 ys := by
  unfold GK at h ⊢
  rw [← growJ_next hi]
  exact h
theorem GK_end {n st l : Nat} {ys : List Value} (h : GK n st l (Gr n st l).length 0 ys) : StrsAre ys ((Gr n st (l + 1)).map sv) := by
  unfold GK at h
  rw [growJ_0, List.take_length] at h
  exact h
theorem extJ_step {n st l j c : Nat} {w : List Nat} (hc : [97, 98][j]? = some c) : extJ n st l w (j + 1) = extJ n st l w j ++ if (wins n st l).contains (w ++ [c]) = true then [w ++ [c]] else [] := by
  unfold extJ
  rw [List.take_add_one, hc, List.filter_append, List.map_append]
  congr 1
  by_cases q : (wins n st l).contains (w ++ [c]) = true
  · rw [if_pos q, Option.toList, List.filter_cons, if_pos q]
    rfl
  · rw [if_neg q, Option.toList, List.filter_cons, if_neg q]
    rfl
theorem growJ_step {n st l i j c : Nat} {w : List Nat} (hw : (Gr n st l)[i]? = some w) (hc : [97, 98][j]? = some c) :
    growJ n st l i (j + 1) = growJ n st l i j ++ if (wins n st (l + 1)).contains (w ++ [c]) = true then [w ++ [c]] else [] := by
  unfold growJ
  rw [hw]
  dsimp only
  rw [extJ_step hc, List.append_assoc]
theorem GK_yes {n st l i j c : Nat} {w : List Nat} {t : Tok} {ys : List Value} (hw : (Gr n st l)[i]? = some w) (hc : [97, 98][j]? = some c) (q : (wins n st (l + 1)).contains (w ++ [c]) = true) (h : GK n st l i j ys) : GK n st l i (j + 1) (ys ++ [.str (sv (w ++ [c])) t]) := by
  unfold GK at h ⊢
  rw [growJ_step hw hc, if_pos q, List.map_append]
  exact strs_snoc h
theorem GK_no {n st l i j c : Nat} {w : List Nat} {ys : List Value} (hw : (Gr n st l)[i]? = some w) (hc : [97, 98][j]? = some c) (q : (wins n st (l + 1)).contains (w ++ [c]) = false) (h : GK n st l i j ys) : GK n st l i (j + 1) ys := by
  unfold GK at h ⊢
  rw [growJ_step hw hc, if_neg (by rw [q]; exact Bool.false_ne_true), List.append_nil]
  exact h
theorem ab_eq : PySem.Str.ofString "ab" = sv [97, 98] := by decide +kernel
theorem ab_at {j c : Nat} (h : (PySem.Str.ofString "ab").cps[j]? = some c) : [97, 98][j]? = some c := by
  rw [ab_eq] at h
  simpa [sv] using h
theorem ab_or {j c : Nat} (h : [97, 98][j]? = some c) : c = 97 ∨ c = 98 := by
  match j, h with
  | 0, h => cases h; exact .inl rfl
  | 1, h => cases h; exact .inr rfl
/-! the decided facts -/
theorem all_of {n st sa mo : Nat} (P : ParN n st sa mo) : grChk n st = true ∧ insChk n st = true ∧ ∀ k, k < 7 → ∀ s, s < n → endChk n st (k + 1) s = true := by
  have h : allChk n = true := by
    rcases P.z with h | h <;> rw [h]
    · exact all8
    · exact all16
  unfold allChk at h
  rw [List.all_eq_true] at h
  have h1 := h st (List.mem_range.mpr P.t1)
  rw [P.odd] at h1
  simp only [Nat.reduceBEq, Bool.false_or, Bool.and_eq_true, List.all_eq_true, List.mem_range] at h1
  exact ⟨h1.1.1, h1.1.2, h1.2⟩
theorem gr_len {n st sa mo l : Nat} (P : ParN n st sa mo) (h : l ≤ 7) : (Gr n st l).length = l + 1 := by
  match l, h with
  | 0, _ => rfl
  | l + 1, h =>
    have := (all_of P).1
    unfold grChk at this
    simp only [List.all_eq_true, List.mem_range, Bool.and_eq_true, beq_iff_eq] at this
    exact (this l (by omega)).1.1
theorem gr_pal {n st sa mo l : Nat} (P : ParN n st sa mo) (h1 : 1 ≤ l) (h : l ≤ 7) : ((Gr n st l).filter fun w => w == w.reverse).length = 1 + l % 2 ∧ ((Gr n st l).filter fun w => !(w == w.reverse)).length = l - l % 2 := by
  obtain ⟨k, rfl⟩ : ∃ k, l = k + 1 := ⟨l - 1, by omega⟩
  have := (all_of P).1
  unfold grChk at this
  simp only [List.all_eq_true, List.mem_range, Bool.and_eq_true, beq_iff_eq] at this
  exact ⟨(this k (by omega)).1.2, (this k (by omega)).2⟩
theorem grow_le (n st l i j : Nat) (hi : i ≤ (Gr n st l).length) : (growJ n st l i j).length ≤ 2 * (Gr n st l).length + 2 := by
  have e2 : ∀ (w : List Nat) (j : Nat), (extJ n st (l + 1) w j).length ≤ 2 := fun w j => by
    unfold extJ
    rw [List.length_map]
    refine Nat.le_trans (List.length_filter_le _ _) ?_
    rw [List.length_take]
    exact Nat.min_le_right _ _
  have : ∀ ws : List (List Nat), (ws.flatMap (extJ n st (l + 1) · 2)).length ≤ 2 * ws.length := fun ws => by
    induction ws with
    | nil => simp
    | cons a r ih =>
      rw [List.flatMap_cons, List.length_append, List.length_cons]
      have := e2 a 2
      omega
  unfold growJ
  rw [List.length_append]
  have h1 := this ((Gr n st l).take i)
  rw [List.length_take] at h1
  have h2 : (match (Gr n st l)[i]? with | some w => extJ n st (l + 1) w j | none => []).length ≤ 2 := by
    cases (Gr n st l)[i]? with
    | none => simp
    | some w => exact e2 w j
  omega
/-- the test of the growing comprehension -/
theorem grow_test {n st sa mo l : Nat} {w : List Nat} {c : Nat} (P : ParN n st sa mo) (hw : w.length = l) (hl : l + 1 ≤ 7) : ellE (sv (Wn n st (2 * n) sa)) ([[], w ++ [c], []].map sv) = (wins n st (l + 1)).contains (w ++ [c]) := by
  rw [Bool.eq_iff_iff]
  exact (ell_in _ _).trans (in_text P (by rw [List.length_append, hw]; rfl) hl)
theorem jd3 (u : List Nat) : jd [[], u, []] = dots ++ u ++ dots := by
  rw [jd_cons, jd_cons, List.nil_append]
  show dots ++ (u ++ (dots ++ [])) = _
  rw [List.append_nil, List.append_assoc]
theorem addS {prog : Program} {w : World} {A : Around} {E : Value → Shared → Prop} {s : Shared} {x y : PySem.Str} {a b : List Nat} {t u : Tok} {Q : Value → Shared → Prop} (hx : x = sv a) (hy : y = sv b) (hl : a.length + b.length ≤ 1000)
    (h : ∀ t' k, Q (.str (sv (a ++ b)) t') { s with toks := k }) : wpAny (model prog w) A (binaryOp .Add (.str x t) (.str y u)) Q E s := by
  subst hx hy
  refine SBL.add (fun t' k => ?_) ?_
  · rw [sv_append]; exact fun _ => h t' k
  · have e : sizeLine ≥ 2000 := by decide
    rw [sv_len, sv_len]
    omega
theorem no46 {n st l : Nat} {w : List Nat} {c : Nat} (h : w ∈ Gr n st l) (hc : c = 97 ∨ c = 98) : 46 ∉ w ++ [c] := fun hm => by
  rcases List.mem_append.mp hm with hm | hm
  · have := Gr_ab h hm
    omega
  · have := List.mem_singleton.mp hm
    omega
theorem has3 (u : List Nat) : (occurrences (sv (dots ++ u ++ dots)) (PySem.Str.ofString "...") 0 (sv (dots ++ u ++ dots)).length 1).isEmpty = false := by
  rw [dots_eq, ← jd3]
  exact has_dots
theorem split3 {u : List Nat} (h : 46 ∉ u) : Txt.split (sv (dots ++ u ++ dots)) (PySem.Str.ofString "...") = sv [] :: sv u :: [sv []] := by
  rw [dots_eq, ← jd3]
  refine split_jd fun q hq => ?_
  rcases List.mem_cons.mp hq with rfl | hq
  · simp
  rcases List.mem_cons.mp hq with rfl | hq
  · exact h
  rw [List.mem_singleton.mp hq]
  simp
theorem sl_le {n : Nat} (h : n ≤ 1000) : n + 2 ≤ sizeLine := by
  have e : sizeLine ≥ 2000 := by decide
  omega
theorem rev_slice (w : List Nat) (u : Tok) : Txt.sliceBy (sv w) none none (-1, u) = sv w.reverse := by
  have e : slicePicked (sv w) none none (some (-1, u)) = (List.range w.length).map fun k => w.length - 1 - k := by
    unfold slicePicked strSliceIndices sliceRange
    simp only [Option.map_none, Option.map_some, Option.getD_some, sv_len]
    have e1 : ¬ ((-1 : Int) > 0) := by decide
    simp only [e1, if_false]
    by_cases q : (w.length : Int) - 1 > -1
    · rw [if_pos q]
      have : (((w.length : Int) - 1 - -1 - -1 - 1) / (- -1)).toNat = w.length := by
        rw [show (- -1 : Int) = 1 from rfl, Int.ediv_one]
        omega
      rw [this]
      refine List.map_congr_left fun k hk => ?_
      have := List.mem_range.mp hk
      omega
    · rw [if_neg q]
      have : w.length = 0 := by omega
      rw [this]
      rfl
  unfold Txt.sliceBy
  rw [e, if_neg (by simp)]
  unfold sv
  congr 2
  have : ∀ (l : List Nat), (∀ i ∈ l, i < w.length) → l.filterMap (w.toArray[·]?) = l.map fun i => w.getD i 0 := by
    intro l
    induction l with
    | nil => intro _; rfl
    | cons a r ih =>
      intro h
      have ha := h a (.head _)
      rw [List.map_cons, ← ih fun i hi => h i (.tail _ hi), List.filterMap_cons]
      have : w.toArray[a]? = some (w.getD a 0) := by
        simp [List.getD_eq_getElem?_getD, List.getElem?_eq_getElem ha]
      rw [this]
  rw [this _ (fun i hi => by
    obtain ⟨k, hk, rfl⟩ := List.mem_map.mp hi
    have := List.mem_range.mp hk
    omega), List.map_map]
  refine List.ext_getElem (by simp) fun i h1 h2 => ?_
  simp only [List.length_map, List.length_range] at h1
  rw [List.getElem_map, List.getElem_range, List.getElem_reverse]
  simp only [Function.comp_apply]
  rw [List.getD_eq_getElem?_getD, List.getElem?_eq_getElem (by omega)]
  rfl
section
variable {prog : Program} {w : World} {A : Around} {E : Value → Shared → Prop} {s : Shared} {value slice : PySem.Expr} {t : Tok} {h₀ : Heap} {L : Addr} {m : PySem.Str → Option Value} {news : List (Addr × Obj)} {Q : Value → Shared → Prop} {uk : Tok}
theorem revS {wd : List Nat} (hF : Fr h₀ L s.heap m) (hN : News h₀ L s.heap news) (hl : wd.length ≤ 1000) (h : ∀ h' t' c, Fr h₀ L h' m → News h₀ L h' news → Q (.str (sv wd.reverse) t') { s with heap := h', toks := c })
    (hs : subscripted slice false (.str (sv wd) t) (.ref s.heap.objs.size) = operate [.ref s.heap.objs.size, .str (sv wd) t] (getItem (.str (sv wd) t) (.ref s.heap.objs.size)) := by with_unfolding_all rfl)
    (ht : ∀ r, letTemporaryGo value (.str (sv wd) t) r = pure () := by intro _; with_unfolding_all rfl) :
    wpAny (model prog w) A (subscriptTail value slice (.str (sv wd) t) (.ref s.heap.objs.size)) Q E { s with heap := s.heap.push { cls := .type "slice", data := .fields #[.none, .none, .int (-1) uk] } } :=
  slice_strK_nn (k := -1) hF hN (by decide) (fun h' t' c F N => by rw [rev_slice]; exact h h' t' c F N) hs ht (by rw [sv_len]; exact Nat.le_trans hl (by decide))
end
theorem no46w {n st l : Nat} {w : List Nat} (h : w ∈ Gr n st l) : 46 ∉ w := fun hm => by
  have := Gr_ab h hm
  omega
theorem no_dotsS {w : List Nat} (h : 46 ∉ w) : (occurrences (sv w) (PySem.Str.ofString "...") 0 (sv w).length 1).isEmpty = true := by
  rw [dots_eq]
  exact no_dots h
theorem pal_take {n st l j : Nat} {wd : List Nat} (hw : (Gr n st l)[j]? = some wd) : ((Gr n st l).take j).map (fun w => Value.bool (w == w.reverse)) ++ [.bool (sv wd == sv wd.reverse)] = ((Gr n st l).take (j + 1)).map fun w => Value.bool (w == w.reverse) := by
  rw [List.take_add_one, hw, List.map_append, sv_beq]
  rfl
theorem lenL {prog : Program} {w : World} {A : Around} {E : Value → Shared → Prop} {s : Shared} {h₀ : Heap} {L D : Addr} {its : List Value} {n : Nat} {news : List (Addr × Obj)} {Q : Value → Shared → Prop} (N : News h₀ L s.heap news) (hm : (D, W.listOf its.toArray n) ∈ news) (hz : its.length ≤ 1000)
    (h : Q (.int (its.length : Int) (s.toks + 1)) { s with toks := s.toks + 1 + 1 }) : wpAny (model prog w) A (call (.builtin "len") [.ref D]) Q E s := by
  refine len_list (list_news N hm) (by rw [List.size_toArray]; omega) ?_
  rw [List.size_toArray]
  exact h
theorem filt_step {gs : List (List Nat)} {P : List Nat → Bool} {j : Nat} {wd : List Nat} {v : Value} (hw : gs[j]? = some wd) : ((gs.take (j + 1)).filter P).map (fun _ => v) = ((gs.take j).filter P).map (fun _ => v) ++ if P wd = true then [v] else [] := by
  rw [List.take_add_one, hw, List.filter_append, List.map_append]
  congr 1
  by_cases q : P wd = true
  · rw [if_pos q, Option.toList, List.filter_cons, if_pos q]
    rfl
  · rw [if_neg q, Option.toList, List.filter_cons, if_neg q]
    rfl
theorem filt_yes {gs : List (List Nat)} {P : List Nat → Bool} {j : Nat} {wd : List Nat} {v : Value} (hw : gs[j]? = some wd) (q : P wd = true) : ((gs.take j).filter P).map (fun _ => v) ++ [v] = ((gs.take (j + 1)).filter P).map (fun _ => v) := by
  rw [filt_step hw, if_pos q]
theorem filt_no {gs : List (List Nat)} {P : List Nat → Bool} {j : Nat} {wd : List Nat} {v : Value} (hw : gs[j]? = some wd) (q : P wd = false) : ((gs.take j).filter P).map (fun _ => v) = ((gs.take (j + 1)).filter P).map (fun _ => v) := by
  rw [filt_step hw, if_neg (by rw [q]; exact Bool.false_ne_true), List.append_nil]
end
section
open PySem PySem.W PySem.Calls PyProof.Rows PySem.Builtin PySem.Builtin.Str
def letChk (n st : Nat) : Bool := (List.range 6).all fun k => (Gr n st (k + 2)).all fun w => ellE (sv w.reverse) (w.map fun c => sv [c]) == (w == w.reverse)
def letAll (n : Nat) : Bool := (List.range n).all fun st => st % 2 == 0 || letChk n st
theorem let8 : letAll 8 = true := by decide +kernel
theorem let16 : letAll 16 = true := by decide +kernel
theorem let_test {n st sa mo l : Nat} {w : List Nat} (P : ParN n st sa mo) (h2 : 2 ≤ l) (h7 : l ≤ 7) (hw : w ∈ Gr n st l) : ellE (sv w.reverse) (w.map fun c => sv [c]) = (w == w.reverse) := by
  have h : letAll n = true := by
    rcases P.z with h | h <;> rw [h]
    · exact let8
    · exact let16
  unfold letAll at h
  rw [List.all_eq_true] at h
  have h1 := h st (List.mem_range.mpr P.t1)
  rw [P.odd] at h1
  unfold letChk at h1
  simp only [Nat.reduceBEq, Bool.false_or, List.all_eq_true, List.mem_range, beq_iff_eq] at h1
  obtain ⟨k, rfl⟩ : ∃ k, l = k + 2 := ⟨l - 2, by omega⟩
  exact h1 k (by omega) w hw
/-- the letters of a word with dots between -/
theorem jd_letters : ∀ (w : List Nat), Txt.join (PySem.Str.ofString "...") (w.map fun c => sv [c]) = sv (jd (w.map fun c => [c]))
  | [] => by unfold Txt.join; rw [StrLaws.glued_eq_join]; rfl
  | [c] => by unfold Txt.join; rw [StrLaws.glued_eq_join]; rfl
  | c :: d :: r => by
    have ih := jd_letters (d :: r)
    unfold Txt.join at ih ⊢
    rw [StrLaws.glued_eq_join] at ih ⊢
    show sv [c] ++ PySem.Str.ofString "..." ++ Str.join (PySem.Str.ofString "...") ((d :: r).map fun c => sv [c]) = _
    rw [ih, dots_eq, sv_append, sv_append]
    rfl
end
section
open PySem PySem.W PySem.Calls PyProof.Rows PySem.Builtin PySem.Builtin.Str
def castL (l : List Nat) : List Int := l.map fun c : Nat => (c : Int)
theorem castL_getD {l : List Nat} {i : Int} (h0 : 0 ≤ i) (h : i < l.length) : ∃ c, c ∈ l ∧ l[i.toNat]? = some c ∧ (castL l).getD i.toNat 0 = (c : Int) := by
  have hi : i.toNat < l.length := by omega
  refine ⟨l[i.toNat], List.getElem_mem hi, List.getElem?_eq_getElem hi, ?_⟩
  unfold castL
  rw [List.getD_eq_getElem?_getD, List.getElem?_map, List.getElem?_eq_getElem hi]
  rfl
theorem cutA_le (n st k : Nat) (l : List Nat) : cutA n st k l ≤ l.length := List.IsPrefix.length_le (List.takeWhile_prefix _)
structure InsOk (l : List Nat) (x a : Nat) : Prop where
  ha : 0 ≤ (a : Int) ∧ (a : Int) ≤ (castL l).length
  h1 : ∀ i : Int, 0 ≤ i → i < (a : Int) → (castL l).getD i.toNat 0 < (x : Int)
  h2 : ∀ i : Int, (a : Int) ≤ i → i < (castL l).length → ¬ (castL l).getD i.toNat 0 < (x : Int)
theorem castL_len (l : List Nat) : (castL l).length = l.length := by simp [castL]
theorem ins_of {n st sa mo k : Nat} (P : ParN n st sa mo) (hk : k < 8) : InsOk (cutsN n st k) (cutX n st k) (cutA n st k (cutsN n st k)) := by
  have h := (all_of P).2.1
  unfold insChk at h
  simp only [List.all_eq_true, List.mem_range, Bool.and_eq_true, decide_eq_true_eq, Bool.not_eq_true', decide_eq_false_iff_not] at h
  obtain ⟨q1, q2⟩ := h k hk
  have hle := cutA_le n st k (cutsN n st k)
  refine ⟨⟨by omega, by rw [castL_len]; omega⟩, fun i h0 h1 => ?_, fun i h0 h1 => ?_⟩
  · obtain ⟨c, _, h3, h4⟩ := castL_getD (l := cutsN n st k) h0 (by omega)
    rw [h4]
    have := q1 c (List.mem_of_getElem? (i := i.toNat) (by rw [List.getElem?_take, if_pos (by omega)]; exact h3))
    omega
  · rw [castL_len] at h1
    obtain ⟨c, _, h3, h4⟩ := castL_getD (l := cutsN n st k) (by omega) h1
    rw [h4]
    have := q2 c (List.mem_of_getElem? (i := i.toNat - cutA n st k (cutsN n st k)) (by rw [List.getElem?_drop, ← h3]; congr 1; omega))
    omega
theorem ints_take {vs : List Value} {ns : List Int} (h : IntsAre vs ns) : ∀ k, IntsAre (vs.take k) (ns.take k) := by
  induction h with
  | nil => intro k; simp; exact .nil
  | cons n t _ ih => intro k; cases k with
    | zero => exact .nil
    | succ k => exact .cons n t (ih k)
theorem ints_drop {vs : List Value} {ns : List Int} (h : IntsAre vs ns) : ∀ k, IntsAre (vs.drop k) (ns.drop k) := by
  induction h with
  | nil => intro k; simp; exact .nil
  | cons n t h ih => intro k; cases k with
    | zero => exact .cons n t h
    | succ k => exact ih k
theorem ints_ins {n st k : Nat} {vs : List Value} {t : Tok} (h : IntsAre vs (castL (cutsN n st k))) : IntsAre (kl_ins vs.toArray.toList (cutA n st k (cutsN n st k) : Int) (.int (cutX n st k : Int) t)) (castL (cutsN n st (k + 1))) := by
  have hl := h.length
  rw [castL_len] at hl
  have hle := cutA_le n st k (cutsN n st k)
  unfold kl_ins
  rw [if_neg (by omega), List.toList_toArray, Int.toNat_natCast, Nat.min_eq_left (by omega)]
  have e : castL (cutsN n st (k + 1)) = (castL (cutsN n st k)).take (cutA n st k (cutsN n st k)) ++ (cutX n st k : Int) :: (castL (cutsN n st k)).drop (cutA n st k (cutsN n st k)) := by
    show castL (_ ++ _ :: _) = _
    unfold castL
    rw [List.map_append, List.map_cons, List.map_take, List.map_drop]
  rw [e]
  exact intsAre_append (ints_take h _) (.cons _ _ (ints_drop h _))
theorem cuts_len (n st : Nat) : ∀ k, (cutsN n st k).length = k
  | 0 => rfl
  | k + 1 => by
    have ih := cuts_len n st k
    have hle := cutA_le n st k (cutsN n st k)
    show (_ ++ _ :: _ : List Nat).length = _
    rw [List.length_append, List.length_cons, List.length_take, List.length_drop]
    omega
theorem cut_int {n st k : Nat} (hn : 0 < n) : (-(k : Int) * (st : Int)).fmod (n : Int) = (cutX n st k : Int) := by
  unfold cutX
  rw [Int.fmod_eq_emod_of_nonneg _ (by omega), Int.neg_mul]
  have e : ((k : Int) * (st : Int)) = ((k * st : Nat) : Int) := by simp
  rw [e]
  generalize k * st = x
  have h1 := Nat.mod_lt x hn
  have h3 : ((x % n : Nat) : Int) = (x : Int) % (n : Int) := by simp
  have hq := Int.mul_ediv_add_emod (x : Int) (n : Int)
  have h2 : (-(x : Int)) % (n : Int) = ((n : Int) - (x % n : Nat)) % (n : Int) := by
    rw [h3]
    have : (-(x : Int)) = ((n : Int) - (x : Int) % (n : Int)) + (n : Int) * (-((x : Int) / (n : Int)) - 1) := by grind
    rw [this, Int.add_mul_emod_self_left]
  rw [h2]
  have : ((n : Int) - (x % n : Nat)) = ((n - x % n : Nat) : Int) := by omega
  rw [this]
  simp
end
section
open PySem PySem.W PySem.Calls PyProof.Rows PySem.Builtin PySem.Builtin.Str
theorem slice_plain (w : List Nat) {l u : Option Int} {a b : Nat} (hab : a ≤ b) (hb : b ≤ w.length) (e : strSliceIndices l u 1 w.length = strSliceIndices (some (a : Int)) (some (b : Int)) 1 w.length) : Txt.slice (sv w) l u = sv ((w.drop a).take (b - a)) := by
  unfold Txt.slice
  have hb' : b ≤ (sv w).length := by rw [sv_len]; exact hb
  rw [sv_len, e]
  have e2 := StrLaws.sliced_plain (sv w) hab hb'
  rw [sv_len, sv_list] at e2
  by_cases q : ((1 : Int) == 1 && (strSliceIndices (some (a : Int)) (some (b : Int)) 1 w.length).length == w.length) = true
  · rw [if_pos q]
    rw [StrLaws.strSliceIndices_plain hab hb] at q
    simp only [beq_self_eq_true, Bool.true_and, List.length_map, List.length_range, beq_iff_eq] at q
    obtain rfl : a = 0 := by omega
    obtain rfl : b = w.length := by omega
    simp
  · rw [if_neg q]
    show (⟨_⟩ : PySem.Str) = ⟨_⟩
    rw [e2]
theorem slice_ss (w : List Nat) {a b : Nat} (hab : a ≤ b) (hb : b ≤ w.length) : Txt.slice (sv w) (some (a : Int)) (some (b : Int)) = sv ((w.drop a).take (b - a)) := slice_plain w hab hb rfl
theorem slice_sn (w : List Nat) {a : Nat} (ha : a ≤ w.length) : Txt.slice (sv w) (some (a : Int)) none = sv (w.drop a) := by
  rw [slice_plain w ha (Nat.le_refl _) (by
    unfold strSliceIndices
    have h2 : ¬ ((w.length : Int) < 0) := by omega
    have e2 : max (0 : Int) (min (w.length : Int) (w.length : Int)) = w.length := by omega
    simp only [h2, if_false, e2, show ((1 : Int) > 0) = True from by simp, if_true])]
  rw [List.take_of_length_le (by rw [List.length_drop]; exact Nat.le_refl _)]
theorem slice_ns (w : List Nat) {b : Nat} (hb : b ≤ w.length) : Txt.slice (sv w) none (some (b : Int)) = sv (w.take b) := by
  rw [slice_plain w (Nat.zero_le b) hb (by
    unfold strSliceIndices
    have e2 : max (0 : Int) (min ((0 : Nat) : Int) (w.length : Int)) = 0 := by omega
    simp only [show ¬ (((0 : Nat) : Int) < 0) by decide, if_false, e2, show ((1 : Int) > 0) = True from by simp, if_true])]
  rfl
theorem slice_neg (w : List Nat) {k : Nat} (h0 : 0 < k) (hk : k ≤ w.length) : Txt.slice (sv w) (some (-(k : Int))) none = sv (w.drop (w.length - k)) := by
  rw [slice_plain (a := w.length - k) w (Nat.sub_le _ _) (Nat.le_refl _) (by
    unfold strSliceIndices
    have h2 : ¬ ((w.length : Int) < 0) := by omega
    have h3 : (-(k : Int)) < 0 := by omega
    have h4 : ¬ (((w.length - k : Nat) : Int) < 0) := by omega
    have e2 : max (0 : Int) (min (w.length : Int) (w.length : Int)) = w.length := by omega
    have e3 : (-(k : Int)) + (w.length : Int) = ((w.length - k : Nat) : Int) := by omega
    simp only [h2, h3, h4, if_false, e2, e3, show ((1 : Int) > 0) = True from by simp, if_true])]
  rw [List.take_of_length_le (by rw [List.length_drop]; exact Nat.le_refl _)]
section
variable {prog : Program} {w : World} {A : Around} {E : Value → Shared → Prop} {s : Shared} {value slice : PySem.Expr} {x y : PySem.Str} {t : Tok} {h₀ : Heap} {L : Addr} {m : PySem.Str → Option Value} {news : List (Addr × Obj)} {Q : Value → Shared → Prop}
theorem cut_ss {i j : Int} {ui uj : Tok} (hF : Fr h₀ L s.heap m) (hN : News h₀ L s.heap news) (hl : x.length ≤ 1000) (e : Txt.slice x (some i) (some j) = y) (h : ∀ h' t' k, Fr h₀ L h' m → News h₀ L h' news → Q (.str y t') { s with heap := h', toks := k })
    (hs : subscripted slice false (.str x t) (.ref s.heap.objs.size) = operate [.ref s.heap.objs.size, .str x t] (getItem (.str x t) (.ref s.heap.objs.size)) := by with_unfolding_all rfl)
    (ht : ∀ r, letTemporaryGo value (.str x t) r = pure () := by intro _; with_unfolding_all rfl) :
    wpAny (model prog w) A (subscriptTail value slice (.str x t) (.ref s.heap.objs.size)) Q E { s with heap := s.heap.push { cls := .type "slice", data := .fields #[.int i ui, .int j uj, .none] } } :=
  slice_strN_ss hF hN (e ▸ h) hs ht (Nat.le_trans hl (by decide))
theorem cut_sn {i : Int} {ui : Tok} (hF : Fr h₀ L s.heap m) (hN : News h₀ L s.heap news) (hl : x.length ≤ 1000) (e : Txt.slice x (some i) none = y) (h : ∀ h' t' k, Fr h₀ L h' m → News h₀ L h' news → Q (.str y t') { s with heap := h', toks := k })
    (hs : subscripted slice false (.str x t) (.ref s.heap.objs.size) = operate [.ref s.heap.objs.size, .str x t] (getItem (.str x t) (.ref s.heap.objs.size)) := by with_unfolding_all rfl)
    (ht : ∀ r, letTemporaryGo value (.str x t) r = pure () := by intro _; with_unfolding_all rfl) :
    wpAny (model prog w) A (subscriptTail value slice (.str x t) (.ref s.heap.objs.size)) Q E { s with heap := s.heap.push { cls := .type "slice", data := .fields #[.int i ui, .none, .none] } } :=
  slice_strN_sn hF hN (e ▸ h) hs ht (Nat.le_trans hl (by decide))
theorem cut_ns {j : Int} {uj : Tok} (hF : Fr h₀ L s.heap m) (hN : News h₀ L s.heap news) (hl : x.length ≤ 1000) (e : Txt.slice x none (some j) = y) (h : ∀ h' t' k, Fr h₀ L h' m → News h₀ L h' news → Q (.str y t') { s with heap := h', toks := k })
    (hs : subscripted slice false (.str x t) (.ref s.heap.objs.size) = operate [.ref s.heap.objs.size, .str x t] (getItem (.str x t) (.ref s.heap.objs.size)) := by with_unfolding_all rfl)
    (ht : ∀ r, letTemporaryGo value (.str x t) r = pure () := by intro _; with_unfolding_all rfl) :
    wpAny (model prog w) A (subscriptTail value slice (.str x t) (.ref s.heap.objs.size)) Q E { s with heap := s.heap.push { cls := .type "slice", data := .fields #[.none, .int j uj, .none] } } :=
  slice_strN_ns hF hN (e ▸ h) hs ht (Nat.le_trans hl (by decide))
theorem cut_rev {uk : Tok} {wd : List Nat} (hF : Fr h₀ L s.heap m) (hN : News h₀ L s.heap news) (hl : wd.length ≤ 1000) (h : ∀ h' t' c, Fr h₀ L h' m → News h₀ L h' news → Q (.str (sv wd.reverse) t') { s with heap := h', toks := c })
    (hs : subscripted slice false (.str (sv wd) t) (.ref s.heap.objs.size) = operate [.ref s.heap.objs.size, .str (sv wd) t] (getItem (.str (sv wd) t) (.ref s.heap.objs.size)) := by with_unfolding_all rfl)
    (ht : ∀ r, letTemporaryGo value (.str (sv wd) t) r = pure () := by intro _; with_unfolding_all rfl) :
    wpAny (model prog w) A (subscriptTail value slice (.str (sv wd) t) (.ref s.heap.objs.size)) Q E { s with heap := s.heap.push { cls := .type "slice", data := .fields #[.none, .none, .int (-1) uk] } } := revS hF hN hl h hs ht
end
theorem ints_at {vs : List Value} {ns : List Int} (h : IntsAre vs ns) : ∀ {i : Nat} {k : Int}, ns[i]? = some k → ∃ t, vs[i]? = some (.int k t) := by
  induction h with
  | nil => intro i k e; simp at e
  | cons n t _ ih =>
    intro i k e
    cases i with
    | zero => simp at e; subst e; exact ⟨t, rfl⟩
    | succ i => exact ih (by simpa using e)
theorem text_cut {n st sa mo i : Nat} (P : ParN n st sa mo) (hi : i < n) : Txt.slice (sv (Wn n st (2 * n) sa)) (some (i : Int)) (some ((i : Int) + (mo : Int))) = sv (Wn n st mo ((sa + i * st) % n)) := by
  have h7 := P.m7
  have hn : 8 ≤ n := by rcases P.z with h | h <;> omega
  have e : (i : Int) + (mo : Int) = ((i + mo : Nat) : Int) := by simp
  rw [e, slice_ss _ (by omega) (by rw [Wn_len]; omega), Nat.add_sub_cancel_left, Wn_cut _ _ _ _ _ (by omega)]
theorem compEnd_ins {h₀ h' : Heap} {L I C D T : Addr} {m : PySem.Str → Option Value} {s₁ : Shared} {oI oC oD o : Obj} {rest : Value → List (Addr × Obj) → Prop} {y : Value} {tk : Nat} (bs nx : List (Addr × Obj))
    (F : Fr h₀ L h' m) (N : News h₀ L h' ((T, o) :: (I, oI) :: (C, oC) :: (D, oD) :: (bs ++ nx))) (off : LCg.Off3 I C D (bs ++ nx)) (h1 : I ≠ T) (h2 : C ≠ T) (h3 : D ≠ T) (r : rest y (bs ++ (T, o) :: nx)) :
    LCg.CompEnd h₀ L m s₁ I oI C oC D oD (fun _ => True) rest y { s₁ with heap := h', toks := tk } := by
  refine LCg.CompEnd.intro F N (bs ++ (T, o) :: nx) (fun p hp => ?_) (LCg.Off3.of fun p hp => ?_) trivial r
  · simp only [List.mem_cons, List.mem_append] at hp ⊢
    rcases hp with h | h | h | h | h | h <;> simp [h]
  · rcases List.mem_append.mp hp with hp | hp
    · exact off.mem p (List.mem_append_left _ hp)
    · rcases List.mem_cons.mp hp with rfl | hp
      · exact ⟨Ne.symm h1, Ne.symm h2, Ne.symm h3⟩
      · exact off.mem p (List.mem_append_right _ hp)
end
section
/-- a sorting tree, run -/
def runB {α : Type} (n : Nat) (lt : Nat → Nat → Bool) : KasT α → Option α
  | .ret a => some a
  | .ask i j k => if decide (i < n) && decide (j < n) && !(i == j) then runB n lt (k (lt i j)) else none
theorem runB_wp {α : Type} {n : Nat} {lt : Nat → Nat → Bool} {cmp : Nat → Nat → (Bool → Shared → Prop) → Shared → Prop} {Q : α → Shared → Prop} {s : Shared} (hc : ∀ i j C, i < n → j < n → i ≠ j → C (lt i j) s → cmp i j C s) :
    ∀ (t : KasT α) (a : α), runB n lt t = some a → Q a s → t.kasWp cmp Q s
  | .ret b, a, h, hq => by
    cases h
    exact hq
  | .ask i j k, a, h, hq => by
    unfold runB at h
    by_cases q : (decide (i < n) && decide (j < n) && !(i == j)) = true
    · rw [if_pos q] at h
      simp only [Bool.and_eq_true, decide_eq_true_eq, Bool.not_eq_true', beq_eq_false_iff_ne] at q
      exact hc i j _ q.1.1 q.1.2 q.2 (runB_wp hc _ a h hq)
    · rw [if_neg q] at h
      cases h
def spN (n st sa j : Nat) : Nat := (sa + j * st) % n
def sortChk (n st sa : Nat) : Bool := match runB n (fun i j => decide (spN n st sa i < spN n st sa j)) (kas_sort n) with
  | some p => p.toList.map (spN n st sa) == List.range n && p.toList.all fun i => decide (i < n)
  | none => false
def sortAll (n st : Nat) : Bool := (List.range n).all fun sa => sortChk n st sa
theorem so8_1 : sortAll 8 1 = true := by decide +kernel
theorem so8_3 : sortAll 8 3 = true := by decide +kernel
theorem so8_5 : sortAll 8 5 = true := by decide +kernel
theorem so8_7 : sortAll 8 7 = true := by decide +kernel
theorem so1 : sortAll 16 1 = true := by decide +kernel
theorem so3 : sortAll 16 3 = true := by decide +kernel
theorem so5 : sortAll 16 5 = true := by decide +kernel
theorem so7 : sortAll 16 7 = true := by decide +kernel
theorem so9 : sortAll 16 9 = true := by decide +kernel
theorem so11 : sortAll 16 11 = true := by decide +kernel
theorem so13 : sortAll 16 13 = true := by decide +kernel
theorem so15 : sortAll 16 15 = true := by decide +kernel
theorem sort_of {n st sa mo : Nat} (P : ParN n st sa mo) : ∃ p, runB n (fun i j => decide (spN n st sa i < spN n st sa j)) (kas_sort n) = some p ∧ p.toList.map (spN n st sa) = List.range n ∧ ∀ i ∈ p.toList, i < n := by
  have h : sortAll n st = true := by
    obtain ⟨z, t0, t1, odd, _, _, _⟩ := P
    rcases z with rfl | rfl
    · have : st = 1 ∨ st = 3 ∨ st = 5 ∨ st = 7 := by omega
      rcases this with rfl | rfl | rfl | rfl 
      · exact so8_1
      · exact so8_3
      · exact so8_5
      · exact so8_7
    · have : st = 1 ∨ st = 3 ∨ st = 5 ∨ st = 7 ∨ st = 9 ∨ st = 11 ∨ st = 13 ∨ st = 15 := by omega
      rcases this with rfl | rfl | rfl | rfl | rfl | rfl | rfl | rfl 
      · exact so1
      · exact so3
      · exact so5
      · exact so7
      · exact so9
      · exact so11
      · exact so13
      · exact so15
  unfold sortAll at h
  rw [List.all_eq_true] at h
  have h1 := h sa (List.mem_range.mpr P.a1)
  unfold sortChk at h1
  cases q : runB n (fun i j => decide (spN n st sa i < spN n st sa j)) (kas_sort n) with
  | none => rw [q] at h1; cases h1
  | some p =>
    rw [q] at h1
    simp only [Bool.and_eq_true, beq_iff_eq, List.all_eq_true, decide_eq_true_eq] at h1
    exact ⟨p, rfl, h1.1, h1.2⟩
theorem inj8 : ∀ st, st < 8 → st % 2 = 1 → ∀ i, i < 8 → ∀ j, j < 8 → i * st % 8 = j * st % 8 → i = j := by decide +kernel
theorem inj16 : ∀ st, st < 16 → st % 2 = 1 → ∀ i, i < 16 → ∀ j, j < 16 → i * st % 16 = j * st % 16 → i = j := by decide +kernel
theorem spN_inj {n st sa mo i j : Nat} (P : ParN n st sa mo) (hi : i < n) (hj : j < n) (e : spN n st sa i = spN n st sa j) : i = j := by
  obtain ⟨z, _, t1, odd, _, _, _⟩ := P
  unfold spN at e
  generalize hx : i * st = x at e
  generalize hy : j * st = y at e
  rcases z with rfl | rfl
  · have q : x % 8 = y % 8 := by clear hx hy hi hj t1 odd; omega
    exact inj8 st t1 odd i hi j hj (by rw [hx, hy]; exact q)
  · have q : x % 16 = y % 16 := by clear hx hy hi hj t1 odd; omega
    exact inj16 st t1 odd i hi j hj (by rw [hx, hy]; exact q)
theorem katTups_of {h : Heap} : ∀ (vs : List Value) (fs : List Int), vs.length = fs.length → (∀ (j : Nat) (k : Int), fs[j]? = some k → ∃ (d : Addr) (t : Tok) (v : Value), vs[j]? = some (.ref d) ∧ h.get? d = some (tupO [.int k t, v])) → ∃ gs : List Value, KatTups h vs gs ∧ gs.length = fs.length ∧ ∀ v ∈ gs, ∃ k t, v = Value.int k t
  | [], [], _, _ => ⟨[], KatTups.nil, rfl, fun _ h => nomatch h⟩
  | [], _ :: _, e, _ => by simp at e
  | _ :: _, [], e, _ => by simp at e
  | v :: vs, k :: fs, e, hv => by
    obtain ⟨d, t, u, h1, h2⟩ := hv 0 k rfl
    have h1' : v = .ref d := by simpa using h1
    subst h1'
    obtain ⟨gs, g1, g2, g3⟩ := katTups_of vs fs (by simpa using e) fun j k hk => hv (j + 1) k (by simpa using hk)
    refine ⟨.int k t :: gs, KatTups.cons (xs := #[.int k t, u]) (n := 0) h2 rfl rfl rfl g1, by simp [g2], fun v hv => ?_⟩
    rcases List.mem_cons.mp hv with rfl | hv
    · exact ⟨_, _, rfl⟩
    · exact g3 v hv
section
variable {prog : Program} {w : World} {A : Around} {E : Value → Shared → Prop} {s : Shared} {h₀ : Heap} {L : Addr} {m : PySem.Str → Option Value} {news : List (Addr × Obj)} {Q : Value → Shared → Prop}
/-- a list of pairs, their first items the spots, in order -/
theorem sortedH {n st sa mo : Nat} (P : ParN n st sa mo) {l : Addr} {vs : List Value} {c : Nat} {z : Nat → PySem.Str} (F : Fr h₀ L s.heap m) (N : News h₀ L s.heap news) (hl : (l, W.listOf (List.toArray vs) c) ∈ news) (hv : vs.length = n)
    (it : ∀ j, j < n → ∃ (d : Addr) (t u : Tok), vs[j]? = some (.ref d) ∧ (d, tupO [.int (spN n st sa j : Int) t, .str (z (spN n st sa j)) u]) ∈ news)
    (h : ∀ D out c' h' tk, out.length = n → (∀ k, k < n → ∃ (d : Addr) (t u : Tok), out[k]? = some (.ref d) ∧ (d, tupO [.int (k : Int) t, .str (z k) u]) ∈ news) → Fr h₀ L h' m → News h₀ L h' ((D, W.listOf (List.toArray out) c') :: news) → AllNe D news → Q (.ref D) { s with heap := h', toks := tk }) :
    wpAny (model prog w) A (call (.builtin "sorted") [.ref l]) Q E s := by
  have hn : 8 ≤ n ∧ n ≤ 16 := by rcases P.z with h | h <;> omega
  refine kat_sorted F N (list_news N hl) (by omega) (by omega) fun D e1 h' F' N' hlt => ?_
  have get : ∀ j, j < n → ∃ (d : Addr) (t u : Tok), vs[j]? = some (.ref d) ∧ h'.get? d = some (tupO [.int (spN n st sa j : Int) t, .str (z (spN n st sa j)) u]) := fun j hj => by
    obtain ⟨d, t, u, h1, h2⟩ := it j hj
    exact ⟨d, t, u, h1, (N' _ (.tail _ h2)).1⟩
  obtain ⟨gs, g1, g2, g3⟩ := katTups_of (h := h') vs ((List.range n).map fun j => (spN n st sa j : Int)) (by simp [hv]) fun j k hk => by
    rw [List.getElem?_map] at hk
    cases q : (List.range n)[j]? with
    | none => rw [q] at hk; cases hk
    | some j' =>
      rw [q] at hk
      obtain ⟨hj, e⟩ := List.getElem?_eq_some_iff.mp q
      rw [List.getElem_range] at e
      subst e
      cases hk
      obtain ⟨d, t, u, h1, h2⟩ := get j (by simpa using hj)
      exact ⟨d, t, _, h1, h2⟩
  refine kat_kind (s := { s with heap := h' }) (T := .type "int") g1 (by rw [g2]; simp; omega) (fun v hv => ?_) rfl ?_
  · obtain ⟨k, t, rfl⟩ := g3 v hv
    exact Looks.of_pure rfl
  · obtain ⟨p, hp, hp2, hp3⟩ := sort_of P
    rw [hv]
    refine runB_wp (lt := fun i j => decide (spN n st sa i < spN n st sa j)) (n := n) (fun i j C hi hj hij hC => ?_) _ p hp ?_
    · obtain ⟨d1, t1, u1, a1, a2⟩ := get i hi
      obtain ⟨d2, t2, u2, b1, b2⟩ := get j hj
      unfold kas_ask
      rw [List.getD_eq_getElem?_getD, List.getD_eq_getElem?_getD, a1, b1]
      show wpAny _ _ (keyLt' (tuples' true) (.ref d1) (.ref d2)) _ _ _
      refine kat_lt a2 rfl b2 rfl (kat_cons (wpAny_eqBool_int ?_))
      have hne : ((spN n st sa i : Int) == (spN n st sa j : Int)) = false := beq_eq_false_iff_ne.mpr fun e => hij (spN_inj P hi hj (by omega))
      rw [hne]
      refine kat_no (oneLt_int ?_)
      have : decide ((spN n st sa i : Int) < (spN n st sa j : Int)) = decide (spN n st sa i < spN n st sa j) := by
        rw [decide_eq_decide]
        omega
      rw [this]
      exact hC
    · refine KasFin.intro F' N' (.head (fun q hq => Nat.ne_of_lt (hlt q hq))) fun h2 c2 F2 N2 => ?_
      have hpl : p.toList.length = n := by have := congrArg List.length hp2; simpa using this
      refine h D _ c2 h2 s.toks (by rw [List.length_map, hpl]) (fun k hk => ?_) F2 N2 (allNe_of fun q hq => Nat.ne_of_lt (hlt q hq))
      have hk2 : k < p.toList.length := by omega
      have e1 : spN n st sa p.toList[k] = k := by
        have := congrArg (fun l : List Nat => l[k]?) hp2
        simp only [List.getElem?_map, List.getElem?_eq_getElem hk2, Option.map_some] at this
        rw [List.getElem?_range hk] at this
        exact Option.some.inj this
      obtain ⟨d, t, u, h3, h4⟩ := it p.toList[k] (hp3 _ (List.getElem_mem hk2))
      refine ⟨d, t, u, ?_, ?_⟩
      · rw [List.getElem?_map, List.getElem?_eq_getElem hk2]
        show some (vs.getD _ _) = _
        rw [List.getD_eq_getElem?_getD, h3]
        rfl
      · rw [e1] at h4
        exact h4
end
end
section
open PySem PySem.W PySem.Calls PyProof.Rows PySem.Builtin PySem.Builtin.Str
structure EndOk (n st mo s : Nat) : Prop where
  ha : 0 ≤ (cntN n st mo s : Int) ∧ (cntN n st mo s : Int) ≤ (castL (cutsN n st (mo + 1))).length
  h1 : ∀ i : Int, 0 ≤ i → i < (cntN n st mo s : Int) → ¬ (s : Int) < (castL (cutsN n st (mo + 1))).getD i.toNat 0
  h2 : ∀ i : Int, (cntN n st mo s : Int) ≤ i → i < (castL (cutsN n st (mo + 1))).length → (s : Int) < (castL (cutsN n st (mo + 1))).getD i.toNat 0
  c1 : 1 ≤ cntN n st mo s
  c2 : cntN n st mo s ≤ mo + 1
  g1 : (Gr n st mo)[cntN n st mo s - 1]? = some (Wn n st mo s)
  g2 : ∃ w', (Gr n st mo)[(cntN n st mo s - 1 + mo) % (mo + 1)]? = some w' ∧ (Wn n st mo s == w') = false
  r : Wn n st mo (imgN n st mo s) = (Wn n st mo s).reverse
theorem end_of {n st sa mo s : Nat} (P : ParN n st sa mo) (hs : s < n) : EndOk n st mo s := by
  obtain ⟨k, hk⟩ : ∃ k, mo = k + 1 := ⟨mo - 1, by have := P.m1; omega⟩
  have h := (all_of P).2.2 k (by have := P.m7; omega) s hs
  rw [← hk] at h
  unfold endChk at h
  simp only [List.all_eq_true, Bool.and_eq_true, decide_eq_true_eq, beq_iff_eq, Bool.not_eq_true', beq_eq_false_iff_ne] at h
  obtain ⟨⟨⟨⟨⟨⟨q1, q2⟩, q3⟩, q4⟩, q5⟩, q6⟩, q7⟩ := h
  have hcl : (cutsN n st (mo + 1)).length = mo + 1 := cuts_len _ _ _
  refine ⟨⟨by omega, by rw [castL_len, hcl]; omega⟩, fun i h0 h1 => ?_, fun i h0 h1 => ?_, q3, q4, q5, ?_, q7⟩
  · obtain ⟨c, _, h3, h4⟩ := castL_getD (l := cutsN n st (mo + 1)) h0 (by omega)
    rw [h4]
    have := q1 c (List.mem_of_getElem? (i := i.toNat) (by rw [List.getElem?_take, if_pos (by omega)]; exact h3))
    omega
  · rw [castL_len] at h1
    obtain ⟨c, _, h3, h4⟩ := castL_getD (l := cutsN n st (mo + 1)) (by omega) h1
    rw [h4]
    have := q2 c (List.mem_of_getElem? (i := i.toNat - cntN n st mo s) (by rw [List.getElem?_drop, ← h3]; congr 1; omega))
    omega
  · have hl := gr_len P P.m7
    have hi : (cntN n st mo s - 1 + mo) % (mo + 1) < (Gr n st mo).length := by rw [hl]; exact Nat.mod_lt _ (by omega)
    refine ⟨_, List.getElem?_eq_getElem hi, ?_⟩
    rw [List.getElem?_eq_getElem hi] at q6
    exact beq_eq_false_iff_ne.mpr fun e => q6 (by rw [e])
theorem img_nat {n st sa mo i : Nat} (P : ParN n st sa mo) : imgV (n : Int) (mo : Int) (st : Int) (sa : Int) i = (imgN n st mo (spN n st sa i) : Int) := by
  unfold imgV
  rw [spot_nat]
  have hn : 8 ≤ n := by rcases P.z with h | h <;> omega
  have e : ((sa + i * st) % n) = spN n st sa i := rfl
  rw [e]
  have hs : spN n st sa i < n := Nat.mod_lt _ (by omega)
  generalize spN n st sa i = s at *
  unfold imgN
  have hm : mo * st ≤ 8 * n - 1 := by
    have h7 := P.m7
    have h1 := P.t1
    have := Nat.mul_le_mul h7 (show st ≤ n - 1 by omega)
    omega
  have e2 : (mo : Int) * (st : Int) = ((mo * st : Nat) : Int) := by simp
  rw [e2]
  generalize mo * st = x at *
  have e3 : (-(s : Int)) % (n : Int) = (((n - s) % n : Nat) : Int) := by
    have : (((n - s) % n : Nat) : Int) = ((n : Int) - (s : Int)) % (n : Int) := by
      rw [Int.natCast_emod, Int.ofNat_sub (Nat.le_of_lt hs)]
    rw [this, show (n : Int) - (s : Int) = -(s : Int) + (n : Int) * 1 by omega, Int.add_mul_emod_self_left]
  rw [e3, Int.fmod_eq_emod_of_nonneg _ (by omega)]
  generalize (n - s) % n = y
  have e4 : ((y + 8 * n - 1 - x : Nat) : Int) = ((y : Int) - 1 - (x : Int)) + (n : Int) * 8 := by omega
  rw [Int.natCast_emod, e4, Int.add_mul_emod_self_left]
theorem behind_eq {n st sa mo i : Nat} (_P : ParN n st sa mo) (hi : i < n) : Txt.slice (sv (Wn n st (2 * n) sa)) (some (i : Int)) none = sv (Wn n st (2 * n - i) (spN n st sa i)) := by
  rw [slice_sn _ (by rw [Wn_len]; omega), Wn_drop _ _ _ _ _ (by omega)]
  rfl
theorem tail_eq {n st sa mo : Nat} (P : ParN n st sa mo) : Txt.slice (sv (Wn n st (2 * n) sa)) (some (-(mo : Int))) none = sv ((Wn n st (2 * n) sa).drop (2 * n - mo)) := by
  have h1 := P.m1
  have h7 := P.m7
  have hn : 8 ≤ n := by rcases P.z with h | h <;> omega
  rw [slice_neg _ (by omega) (by rw [Wn_len]; omega), Wn_len]
theorem begin_eq {n st sa mo i : Nat} (P : ParN n st sa mo) (hi : i < n) : (Wn n st (2 * n - i) (spN n st sa i)).take mo = Wn n st mo (spN n st sa i) := by
  have h7 := P.m7
  have hn : 8 ≤ n := by rcases P.z with h | h <;> omega
  have := Wn_cut n st 0 (2 * n - i) (spN n st sa i) (l := mo) (by omega)
  rw [List.drop_zero, Nat.zero_mul, Nat.add_zero, Wn_mod] at this
  exact this
theorem rest_eq {n st sa mo i : Nat} (P : ParN n st sa mo) (hi : i < n) : ((Wn n st (2 * n - i) (spN n st sa i)).drop ((2 * n - i) - mo)).take mo = (Wn n st (2 * n) sa).drop (2 * n - mo) := by
  have h7 := P.m7
  have hn : 8 ≤ n := by rcases P.z with h | h <;> omega
  have e : Wn n st (2 * n - i) (spN n st sa i) = (Wn n st (2 * n) sa).drop i := by
    rw [Wn_drop _ _ _ _ _ (by omega)]
    rfl
  rw [e, List.drop_drop, show i + (2 * n - i - mo) = 2 * n - mo by omega, List.take_of_length_le]
  rw [List.length_drop, Wn_len]
  omega
theorem cutb_eq {n st sa mo i : Nat} (P : ParN n st sa mo) (hi : i < n) : Txt.slice (sv (Wn n st (2 * n - i) (spN n st sa i))) none (some (mo : Int)) = sv (Wn n st mo (spN n st sa i)) := by
  have h7 := P.m7
  have hn : 8 ≤ n := by rcases P.z with h | h <;> omega
  rw [slice_ns _ (by rw [Wn_len]; omega), begin_eq P hi]
theorem strs_at {vs : List Value} {ns : List PySem.Str} (h : StrsAre vs ns) : ∀ {i : Nat} {k : PySem.Str}, ns[i]? = some k → ∃ t, vs[i]? = some (.str k t) := by
  induction h with
  | nil => intro i k e; simp at e
  | cons n t _ ih =>
    intro i k e
    cases i with
    | zero => simp at e; subst e; exact ⟨t, rfl⟩
    | succ i => exact ih (by simpa using e)
section
variable {prog : Program} {w : World} {A : Around} {E : Value → Shared → Prop} {s : Shared} {Q : Value → Shared → Prop}
theorem item_wrap {value slice : PySem.Expr} {l : Addr} {items : List Value} {k : Int} {u : Tok} {v : Value} (hl : s.heap.IsList l (List.toArray items)) (hz : items.length ≤ 1000) (h0 : -1 ≤ k) (hk : k < 1000) (hne : items ≠ []) (e : items[(if k < 0 then k + items.length else k).toNat]? = some v) (h : Q v s)
    (hs : subscripted slice false (.ref l) (.int k u) = operate [.ref l, .int k u] (getItem (.ref l) (.int k u))) (hg : ∀ r, letTemporaryGo value (.ref l) r = pure ()) :
    wpAny (model prog w) A (subscriptTail value slice (.ref l) (.int k u)) Q E s := by
  by_cases q : k < 0
  · have hk1 : k = -1 := by omega
    subst hk1
    rw [if_pos q] at e
    have hlen : items.length ≠ 0 := fun z => hne (List.length_eq_zero_iff.mp z)
    refine subscriptTail_builtin hl.typeIs slot_list_getitem.lookup (wpAny_getItem_list_neg hl (by decide) (by simp; omega) (by decide) (x := v) ?_ h) hs hg
    simpa using e
  · rw [if_neg q] at e
    exact item_known hl (by omega) (by omega) (by simpa using e) h hs hg
theorem eqAt2 {D1 D2 : Addr} {a b : Int} {x y : PySem.Str} {t1 t2 u1 u2 : Tok} (hu : A.units < cLine)
    (h1 : s.heap.get? D1 = some (tupO [.int a t1, .str x t2])) (h2 : s.heap.get? D2 = some (tupO [.int b u1, .str y u2])) (ea : a = b) (ex : x = y) (h : Q (.bool false) s) :
    wpAny (model prog w) A (compareOp .NotEq (.ref D1) (.ref D2)) Q E s := by
  subst ea ex
  refine SeqAt.RcNeAt.tuples (e := fun _ => true) ⟨_, h1, rfl, 0, rfl⟩ ⟨_, h2, rfl, 0, rfl⟩ hu (fun i q1 q2 => ?_) prog w E Q h
  have q : i = 0 ∨ i = 1 := by simp at q1; omega
  rcases q with rfl | rfl
  · intro prog w E Q h
    exact wpAny_eqBool_int (by simpa using h)
  · intro prog w E Q h
    exact wpAny_eqBool_str (by simpa using h)
end
end
section
open PySem PySem.W PySem.Calls PyProof.Rows PyProof.Rows.LCg
/-- a turn of the inner loop of a comprehension with two fors -/
theorem turn_in (elt t0 t1 it0 it1 : PySem.Expr) (ifs : List PySem.Expr) (scope : Scope) (pos : Pos) (it acc : Value) (env : Env) :
    compTurn (.ListComp elt [⟨t0, it0, [], 0⟩, ⟨t1, it1, ifs, 0⟩] scope pos) 1 it acc env = (do
      standAt it1.pos
      match ← pyNext it with
      | none => pure (.done .next)
      | some v =>
        letOwnedTupleGo t1 it v
        assign t1 env v
        let mut ok := true
        for c in ifs do
          if ok then ok ← isTrue c env (eval c env)
        if ok then
          (do let _ ← call (.builtin "list.append") [acc, ← eval elt env])
        again (.compLoop (.ListComp elt [⟨t0, it0, [], 0⟩, ⟨t1, it1, ifs, 0⟩] scope pos) 1 it acc env)) := by rfl
/-- a turn of the outer one -/
theorem turn_out (elt t0 t1 it0 it1 : PySem.Expr) (ifs : List PySem.Expr) (scope : Scope) (pos : Pos) (it acc : Value) (env : Env) :
    compTurn (.ListComp elt [⟨t0, it0, [], 0⟩, ⟨t1, it1, ifs, 0⟩] scope pos) 0 it acc env = (do
      standAt it0.pos
      match ← pyNext it with
      | none => pure (.done .next)
      | some v =>
        letOwnedTupleGo t0 it v
        assign t0 env v
        let mut ok := true
        for c in ([] : List PySem.Expr) do
          if ok then ok ← isTrue c env (eval c env)
        if ok then
          let x ← eval it1 env
          standAt it1.pos
          let x ← foldedSetIterable it1 env x
          let _ ← runOwn (.compStart (.ListComp elt [⟨t0, it0, [], 0⟩, ⟨t1, it1, ifs, 0⟩] scope pos) 1 (← holding [x] (pyIter x)) acc env) env
        again (.compLoop (.ListComp elt [⟨t0, it0, [], 0⟩, ⟨t1, it1, ifs, 0⟩] scope pos) 0 it acc env)) := by rfl
section
variable {prog : Program} {w : World} {A : Around} {R : Result → Shared → Prop} {s : Shared}
theorem loop_in {elt t0 t1 it0 it1 : PySem.Expr} {ct : PySem.Expr} {scope : Scope} {pos : Pos} {it acc : Value} {env : Env} (I : Nat → Shared → Prop)
    (turn : ∀ n s, I n s → wpAny (model prog w) A (pyNext it) (fun r s₁ => match r with
      | none => R (.ok .next) s₁
      | some v => wpAny (model prog w) A (assign t1 env v) (fun _ s₂ =>
          wpAny (model prog w) A (isTrue ct env (eval ct env)) (fun ok s₃ =>
            if ok = true then wpAny (model prog w) A (eval elt env) (fun x s₄ =>
              wpAny (model prog w) A (call (.builtin "list.append") [acc, x]) (fun _ s₅ => ∃ m, m < n ∧ I m s₅) (notedBy (model prog w) A env fun e s' => R (.error e) s') s₄) (notedBy (model prog w) A env fun e s' => R (.error e) s') s₃
            else ∃ m, m < n ∧ I m s₃) (notedBy (model prog w) A env fun e s' => R (.error e) s') s₂) (notedBy (model prog w) A env fun e s' => R (.error e) s') s₁) (notedBy (model prog w) A env fun e s' => R (.error e) s') s)
    (n : Nat) (h : I n s) (ht : ∀ v, letOwnedTupleGo t1 it v = pure () := by intro _; rfl) :
    codeAny (model prog w) A (.compLoop (.ListComp elt [⟨t0, it0, [], 0⟩, ⟨t1, it1, [ct], 0⟩] scope pos) 1 it acc env) R s := by
  refine codeAny_loop rfl I (fun n s hI => ?_) n h
  show wpAny _ A ((compTurn (.ListComp elt [⟨t0, it0, [], 0⟩, ⟨t1, it1, [ct], 0⟩] scope pos) 1 it acc env).onRaise (fun x => do noteFrame x env; theTreesLotGoes x)) _ _ s
  refine wpAny_noted ?_
  rw [turn_in]
  refine wpAny_bind (wpAny_standAt (wpAny_bind (wpAny_mono (turn n s hI) (fun r s₁ h₁ => ?_) fun _ _ h' => h')))
  cases r with
  | none => exact wpAny_pure h₁
  | some v =>
    refine wpAny_bind (wpAny_of_eq (ht v) ?_)
    refine wpAny_bind (wpAny_mono h₁ (fun _ s₂ h₂ => wpAny_bind (wpAny_tests_one (wpAny_mono h₂ (fun ok s₃ h₃ => ?_) fun _ _ h' => h'))) fun _ _ h' => h')
    cases ok with
    | false => exact wpAny_pure ⟨rfl, h₃⟩
    | true =>
      exact wpAny_bind (wpAny_bind (wpAny_mono h₃ (fun x s₄ h₄ => wpAny_bind (wpAny_mono h₄ (fun _ s₅ h₅ => wpAny_pure (wpAny_pure ⟨rfl, h₅⟩)) fun _ _ h' => h')) fun _ _ h' => h'))
theorem loop_out {elt t0 t1 it0 it1 : PySem.Expr} {ct : PySem.Expr} {scope : Scope} {pos : Pos} {it acc : Value} {env : Env} (I : Nat → Shared → Prop)
    (turn : ∀ n s, I n s → wpAny (model prog w) A (pyNext it) (fun r s₁ => match r with
      | none => R (.ok .next) s₁
      | some v => wpAny (model prog w) A (assign t0 env v) (fun _ s₂ =>
          wpAny (model prog w) A (eval it1 env) (fun x s₃ => wpAny (model prog w) A (pyIter x) (fun it' s₄ =>
            codeAny (model prog w) A (.compStart (.ListComp elt [⟨t0, it0, [], 0⟩, ⟨t1, it1, [ct], 0⟩] scope pos) 1 it' acc env) (fun r s₅ => match r with
              | .ok _ => ∃ m, m < n ∧ I m s₅
              | .error e => cameBackBy (model prog w) A env (notedBy (model prog w) A env fun e s' => R (.error e) s') e s₅) s₄)
            (notedBy (model prog w) A env fun e s' => R (.error e) s') s₃) (notedBy (model prog w) A env fun e s' => R (.error e) s') s₂) (notedBy (model prog w) A env fun e s' => R (.error e) s') s₁) (notedBy (model prog w) A env fun e s' => R (.error e) s') s)
    (n : Nat) (h : I n s) (ht : ∀ v, letOwnedTupleGo t0 it v = pure () := by intro _; rfl) (hs : ∀ v, foldedSetIterable it1 env v = pure v := by intro _; rfl) :
    codeAny (model prog w) A (.compLoop (.ListComp elt [⟨t0, it0, [], 0⟩, ⟨t1, it1, [ct], 0⟩] scope pos) 0 it acc env) R s := by
  refine codeAny_loop rfl I (fun n s hI => ?_) n h
  show wpAny _ A ((compTurn (.ListComp elt [⟨t0, it0, [], 0⟩, ⟨t1, it1, [ct], 0⟩] scope pos) 0 it acc env).onRaise (fun x => do noteFrame x env; theTreesLotGoes x)) _ _ s
  refine wpAny_noted ?_
  rw [turn_out]
  refine wpAny_bind (wpAny_standAt (wpAny_bind (wpAny_mono (turn n s hI) (fun r s₁ h₁ => ?_) fun _ _ h' => h')))
  cases r with
  | none => exact wpAny_pure h₁
  | some v =>
    refine wpAny_bind (wpAny_of_eq (ht v) ?_)
    refine wpAny_bind (wpAny_mono h₁ (fun _ s₂ h₂ => wpAny_bind (wpAny_tests_nil ?_)) fun _ _ h' => h')
    simp only [if_true]
    refine wpAny_bind (wpAny_mono h₂ (fun x s₃ h₃ => ?_) fun _ _ h' => h')
    refine wpAny_bind (wpAny_standAt (wpAny_bind (wpAny_of_eq (hs x) ?_)))
    refine wpAny_bind (wpAny_holding (wpAny_mono h₃ (fun it' s₄ h₄ => ?_) fun _ _ h' => h'))
    refine wpAny_bind (wpAny_runOwn (codeAny_mono h₄ (fun r s₅ h₅ => ?_)))
    cases r with
    | ok f => exact wpAny_pure ⟨rfl, h₅⟩
    | error e => exact h₅
theorem start_in {elt t0 t1 it0 it1 ct : PySem.Expr} {scope : Scope} {pos : Pos} {it acc : Value} {env : Env}
    (h0 : codeAny (model prog w) A (.compLoop (.ListComp elt [⟨t0, it0, [], 0⟩, ⟨t1, it1, [ct], 0⟩] scope pos) 1 it acc env) R s)
    (h : wpAny (model prog w) A (pyIter it) (fun it' s' => codeAny (model prog w) A (.compLoop (.ListComp elt [⟨t0, it0, [], 0⟩, ⟨t1, it1, [ct], 0⟩] scope pos) 1 it' acc env) R s')
      (notedBy (model prog w) A env fun x s' => R (.error x) s') s) :
    codeAny (model prog w) A (.compStart (.ListComp elt [⟨t0, it0, [], 0⟩, ⟨t1, it1, [ct], 0⟩] scope pos) 1 it acc env) R s := by
  refine codeAny_of_tree ?_
  show wpAny _ _ ((compStart (.ListComp elt [⟨t0, it0, [], 0⟩, ⟨t1, it1, [ct], 0⟩] scope pos) 1 it acc env).onRaise (fun x => do noteFrame x env; standAt theWindowsPlace)) _ _ s
  refine wpAny_notedAt ?_
  unfold compStart
  show wpAny _ _ (ask >>= _) _ _ s
  refine wpAny_bind (wpAny_askSetting (wpAny_ite ?_))
  split
  · first
      | exact wpAny_bind (wpAny_pure (wpAny_pure (And.intro rfl h0)))
      | exact wpAny_pure (And.intro rfl h0)
  · refine wpAny_bind (wpAny_rule ?_)
    show wpAny _ _ (standAt it1.pos >>= _) _ _ s
    exact wpAny_bind (wpAny_standAt (wpAny_bind (wpAny_mono h (fun it' s' h' => wpAny_pure (And.intro rfl h')) fun _ _ x => x)))
end
/-- where the outer loop stands -/
inductive OutI (s : Shared) (its : Array Value) (h₀ : Heap) (L : Addr) (m : PySem.Str → Option Value) (ax I C D : Addr) (news : List (Addr × Obj)) (K : Nat → Nat → List Value → Prop) : Nat → Shared → Prop
  | mk (h : Heap) (tk i : Nat) (ys : List Value) (m' : PySem.Str → Option Value) (hi : i ≤ its.size) (hst : h.IsListIter I ax i) (hl : h.IsList ax its) (F : Fr h₀ L h m) (hn : h.Ns C m') (N : News h₀ L h ((D, lst ys) :: news)) (hK : K i 0 ys) :
    OutI s its h₀ L m ax I C D news K (its.size + 1 - i) { s with heap := h, toks := tk }
/-- where the inner loop stands -/
inductive InI (s : Shared) (its : Array Value) (h₀ : Heap) (L : Addr) (m : PySem.Str → Option Value) (ax I C D JA : Addr) (ab : PySem.Str) (t : Tok) (x : PySem.Str) (v : Value) (i : Nat) (news : List (Addr × Obj)) (K : Nat → Nat → List Value → Prop) : Nat → Shared → Prop
  | mk (h : Heap) (tk j : Nat) (ys : List Value) (m' : PySem.Str → Option Value) (hj : j ≤ 2) (hsj : h.IsStrIter JA "str_ascii_iterator" ab t j) (hst : h.IsListIter I ax (i + 1)) (hl : h.IsList ax its) (F : Fr h₀ L h m) (hn : h.Ns C m') (hx : m' x = some v) (N : News h₀ L h ((D, lst ys) :: news)) (hJ : @LT.lt Nat _ JA h.objs.size) (hK : K i j ys) :
    InI s its h₀ L m ax I C D JA ab t x v i news K (3 - j) { s with heap := h, toks := tk }
section
variable {prog : Program} {w : World} {A : Around} {E : Value → Shared → Prop} {s : Shared} {h₀ : Heap} {L : Addr} {m : PySem.Str → Option Value} {env : Env} {news : List (Addr × Obj)}
/-- name = [elt for x in a list of the ledger for y in a text of two signs if ct], its element leaves nothing behind -/
theorem comp_two {elt ct it0 it1 : PySem.Expr} {x y z : PySem.Str} {px py pz : Pos} {scope : Scope} {cl : List (PySem.Str × Addr)} {pos spos : Pos} {its : Array Value} {n0 : Nat} {ax : Addr} {ab : PySem.Str} {Q : Flow → Shared → Prop} (K : Nat → Nat → List Value → Prop) (hLe : env.locals = L)
    (hsw : swapsWith (.ListComp elt [⟨.Name x px, it0, [], 0⟩, ⟨.Name y py, it1, [ct], 0⟩] scope pos) (some (.Name z pz)) spos.line env = pure true)
    (hh : A.handled = none) (hclos : closureFor scope env = pure cl) (hcell : ∀ q ∈ scope.names, q.2 ≠ .cell) (hkind : scope.kind = .function)
    (hnames : ∀ q ∈ scope.names, q.2 = .local → scope.names.lookup q.1 = some .local) (hx : scope.names.lookup x = some .local) (hy : scope.names.lookup y = some .local) (hxy : ¬ x = y)
    (hz : env.kindOf z = some .local) (hp : (env.scope.kind == .class || (env.scope.kind == .module && env.locals != env.globals)) = false) (hsz : its.size ≤ 100) (hab : ab.cps.size = 2) (hasc : ab.cps.all (· < 128) = true)
    (h : wpAny (model prog w) A (eval it0 env) (fun xv s₁ => xv = .ref ax ∧ ∃ h tk, s₁ = { s with heap := h, toks := tk } ∧ Fr h₀ L h m ∧ News h₀ L h news) E s)
    (hm : (ax, W.listOf its n0) ∈ news) (hJ : K 0 0 []) (hlen : ∀ i j ys, i ≤ its.size → j ≤ 2 → K i j ys → ys.length ≤ 300)
    (next : ∀ i ys, i < its.size → K i 2 ys → K (i + 1) 0 ys)
    (h1 : ∀ C (s : Shared) (Q : Value → Shared → Prop) (E : Value → Shared → Prop), (∀ t tk, Q (.str ab t) { s with toks := tk }) → wpAny (model prog w) A (eval it1 (compEnvC scope cl C env)) Q E s)
    (turn : ∀ i j v c t ys h tk JA I C D oJ oI oC m₂ (E' : Value → Shared → Prop), its[i]? = some v → j < 2 → ab.cps[j]? = some c → K i j ys → NsObj oC m₂ → m₂ x = some v → m₂ y = some (.str ⟨#[c]⟩ t) → Fr h₀ L h m → News h₀ L h ((JA, oJ) :: (I, oI) :: (C, oC) :: (D, lst ys) :: news) →
      wpAny (model prog w) A (isTrue ct (compEnvC scope cl C env) (eval ct (compEnvC scope cl C env))) (fun ok s' => if ok = true then
        wpAny (model prog w) A (eval elt (compEnvC scope cl C env)) (EltOut h₀ L m ((JA, oJ) :: (I, oI) :: (C, oC) :: (D, lst ys) :: news) s (fun q => K i (j + 1) (ys ++ [q]))) E' s'
        else EltOut h₀ L m ((JA, oJ) :: (I, oI) :: (C, oC) :: (D, lst ys) :: news) s (fun _ => K i (j + 1) ys) .none s') E' { s with heap := h, toks := tk })
    (fin : ∀ ys D h tk, K its.size 0 ys → Fr h₀ L h (fun q => if q = z then some (.ref D) else m q) → News h₀ L h ((D, lst ys) :: news) → AllNe D news → Q .next { s with heap := h, toks := tk })
    (hs : ∀ x, foldedSetIterable it0 env x = pure x := by intro _; rfl) (hs1 : ∀ env x, foldedSetIterable it1 env x = pure x := by intro _ _; rfl) :
    wpAny (model prog w) A (exec (.Assign [.Name z pz] (.ListComp elt [⟨.Name x px, it0, [], 0⟩, ⟨.Name y py, it1, [ct], 0⟩] scope pos) spos) env) Q E s := by
  subst hLe
  rw [exec_Assign_Name_used _ _ _ _ hsw]
  refine wpAny_bind (wpAny_standAt (wpAny_bind ?_))
  show wpAny _ A (do let _ ← comprehension (.ListComp elt [⟨.Name x px, it0, [], 0⟩, ⟨.Name y py, it1, [ct], 0⟩] scope pos) scope env _ (newList []) false (eval it0 env) (some (assign (.Name z pz) env))) _ _ s
  refine wpAny_bind (wpAny_mono (wpAny_comprehension_free (use := some (assign (.Name z pz) env)) (Q := fun _ s' => Q .next s') rfl hs hclos hkind hnames
    (wpAny_mono h (fun xv s₁ h₁ => ?_) fun _ _ e => e)) (fun _ s' hq => wpAny_pure (wpAny_pure hq)) fun _ _ e => e)
  obtain ⟨rfl, g₁, tk₁, rfl, F₁, N₁⟩ := h₁
  have hl : g₁.IsList ax its := ⟨_, (N₁ _ hm).1, rfl, n0, rfl⟩
  have hlt : @LT.lt Nat _ ax g₁.objs.size := Heap.lt_size (N₁ _ hm).1
  refine wpAny_pyIter_list hl ?_
  dsimp only
  generalize hI : g₁.objs.size = I at *
  have up1 : ∀ b o, g₁.get? b = some o → (g₁.push { cls := .type "list_iterator", data := .fields #[.ref ax, .int 0 0] }).get? b = some o := fun b o e => Heap.get?_push_of_some _ e
  have hst0 : (g₁.push { cls := .type "list_iterator", data := .fields #[.ref ax, .int 0 0] }).IsListIter I ax 0 := ⟨_, hI ▸ Heap.get?_push_size _ rfl, rfl, rfl⟩
  have hg2 : (g₁.push { cls := .type "list_iterator", data := .fields #[.ref ax, .int 0 0] }).objs.size = I + 1 := by rw [Heap.size_push, hI]
  generalize (g₁.push { cls := .type "list_iterator", data := .fields #[.ref ax, .int 0 0] }) = g₂ at *
  have F₂ : Fr h₀ env.locals g₂ m := F₁.keeps up1
  have N₂ : News h₀ env.locals g₂ news := N₁.grown up1
  have nlt : ∀ p ∈ news, @LT.lt Nat _ p.1 I := fun p hp => hI ▸ Heap.lt_size (N₁ p hp).1
  have hLI : @LT.lt Nat _ env.locals I := hI ▸ F₁.ns.lt
  refine wpAny_newObj_type (wpAny_newFunctionEnv hcell (by intro y hy; simp at hy) (fun h₁ hns₁ hsb₁ => ?_) hkind)
  dsimp only at hns₁ hsb₁ ⊢
  generalize hH2 : g₂.push { cls := .type "list", dict := none, data := .seq ([] : List Value).toArray } = H2 at hns₁ hsb₁ ⊢
  generalize hD : g₂.objs.size = D at *
  have hC : H2.objs.size = D + 1 := by rw [← hH2, Heap.size_push, hD]
  generalize hCC : H2.objs.size = C at *
  have oDC : @LT.lt Nat _ D C := by rw [hC]; exact Nat.lt_succ_self _
  have oID : @LT.lt Nat _ I D := by first | (rw [hg2]; exact Nat.lt_succ_self _) | omega
  have old : ∀ b o, g₂.get? b = some o → h₁.get? b = some o := fun b o e => hsb₁.extBut b o (by have q : @LT.lt Nat _ b g₂.objs.size := Heap.lt_size e; show @Ne Nat _ _; omega) (Heap.get?_push_of_some _ (hH2 ▸ Heap.get?_push_of_some _ e))
  have hacc : h₁.get? D = some (lst []) := hsb₁.extBut _ _ (by show @Ne Nat _ _; first | fail "ne?" | (show @Ne Nat _ _; refine orNe zl ?_ ?_; fail "ne?"; first | exact Nat.le_refl _ | exact Nat.le_of_lt (by fail "lt?")) | omega) (Heap.get?_push_of_some _ (hH2 ▸ hD ▸ Heap.get?_push_size _ rfl))
  have none0 : ∀ a : Nat, @LT.lt Nat _ env.locals a → h₀.get? a = none := fun a ha => Heap.get?_none_of_le (Nat.le_of_lt (Nat.lt_of_le_of_lt F₂.above ha))
  have W := Walks.list (prog := prog) (w := w) (A := A) hh I ax (by show @Ne Nat _ _; first | fail "ne?" | (show @Ne Nat _ _; refine orNe zl ?_ ?_; fail "ne?"; first | exact Nat.le_refl _ | exact Nat.le_of_lt (by fail "lt?")) | omega) its
  have upD : ∀ {g g' : Heap} {ys ys' : List Value}, News h₀ env.locals g ((D, lst ys) :: news) → (∀ b o, b ≠ I → b ≠ C → b ≠ D → g.get? b = some o → g'.get? b = some o) → g'.get? D = some (lst ys') → News h₀ env.locals g' ((D, lst ys') :: news) := by
    intro g g' ys ys' N k e p hp
    rcases List.mem_cons.mp hp with rfl | hp
    · exact ⟨e, by show @Ne Nat D _; first | fail "ne?" | omega, none0 D (by show @LT.lt Nat _ _ D; omega)⟩
    · have q := nlt p hp
      have z := N p (.tail _ hp)
      exact ⟨k _ _ (by show @Ne Nat _ _; first | fail "ne?" | (show @Ne Nat _ _; refine orNe zl ?_ ?_; fail "ne?"; first | exact Nat.le_refl _ | exact Nat.le_of_lt (by fail "lt?")) | omega) (by show @Ne Nat _ _; first | fail "ne?" | (show @Ne Nat _ _; refine orNe zl ?_ ?_; fail "ne?"; first | exact Nat.le_refl _ | exact Nat.le_of_lt (by fail "lt?")) | omega) (by show @Ne Nat _ _; first | fail "ne?" | (show @Ne Nat _ _; refine orNe zl ?_ ?_; fail "ne?"; first | exact Nat.le_refl _ | exact Nat.le_of_lt (by fail "lt?")) | omega) z.1, z.2⟩
  have upF : ∀ {g g' : Heap}, Fr h₀ env.locals g m → (∀ b o, b ≠ I → b ≠ C → b ≠ D → g.get? b = some o → g'.get? b = some o) → Fr h₀ env.locals g' m := by
    intro g g' F k
    refine ⟨F.ns.at' fun o q => k _ o (by show @Ne Nat _ _; first | fail "ne?" | (show @Ne Nat _ _; refine orNe zl ?_ ?_; fail "ne?"; first | exact Nat.le_refl _ | exact Nat.le_of_lt (by fail "lt?")) | omega) (by show @Ne Nat _ _; first | fail "ne?" | (show @Ne Nat _ _; refine orNe zl ?_ ?_; fail "ne?"; first | exact Nat.le_refl _ | exact Nat.le_of_lt (by fail "lt?")) | omega) (by show @Ne Nat _ _; first | fail "ne?" | (show @Ne Nat _ _; refine orNe zl ?_ ?_; fail "ne?"; first | exact Nat.le_refl _ | exact Nat.le_of_lt (by fail "lt?")) | omega) q, fun c o q => ?_, F.above⟩
    have hc : ∀ a : Nat, @LT.lt Nat _ env.locals a → c ≠ a := fun a ha e => by rw [e, none0 a ha] at q; cases q
    exact k c o (hc I (by omega)) (hc C (by omega)) (hc D (by omega)) (F.keep c o q)
  have loop : ∀ s₃ : Shared, s₃ = { s with heap := h₁, toks := tk₁ + ([] : List (PySem.Str × Value)).length } →
      codeAny (model prog w) A (.compLoop (.ListComp elt [⟨.Name x px, it0, [], 0⟩, ⟨.Name y py, it1, [ct], 0⟩] scope pos) 0 (.ref I) (.ref D) (compEnvC scope cl C env))
        (compPost (model prog w) A E (some (assign (.Name z pz) env)) (fun _ s' => Q .next s') (.ref D) C) s₃ := by
    rintro s₃ rfl
    refine loop_out (hs := fun v => hs1 _ v)
      (OutI s its h₀ env.locals m ax I C D news K) ?_ (its.size + 1)
      (OutI.mk h₁ _ 0 [] _ (Nat.zero_le _) (hst0.at fun o e => old _ _ e) (hl.at fun o e => old _ _ (up1 _ _ e)) (F₂.keeps old) hns₁ (fun p hp => ?_) hJ)
    · rintro _ _ ⟨h', tk, i, ys, m', hin, hst1, hst2, F', hn', N', hJ'⟩
      have hst := And.intro hst1 hst2
      by_cases hlt2 : i < its.size
      · refine W.item i _ _ _ hlt2 hst fun v h₂ tk₂ hPv hst₂ hk₂ => ?_
        refine wpAny_assign_Name (wpAny_storeName_local (lookup_relabel_local hx) (hn'.at' fun o q => hk₂ _ o (by simp; show ¬ @Eq Nat C I; omega) q) (fun h₃ hn₃ hs₃ => ?_) (by simp [compEnvC, relabel, hkind]))
        have up3 : ∀ b o, b ≠ I → b ≠ C → b ≠ D → h'.get? b = some o → h₃.get? b = some o := fun b o h1 h2 h3 q => hs₃.extBut b o h2 (hk₂ b o (by simpa using h1) q)
        have F₃ := upF F' up3
        have hD3 : h₃.get? D = some (lst ys) := hs₃.extBut D _ (by show @Ne Nat D C; first | fail "ne?" | omega) (hk₂ D _ (by simp; show ¬ @Eq Nat D I; omega) (N' _ (.head _)).1)
        have N₃ := upD N' up3 hD3
        have hst₃ : h₃.IsListIter I ax (i + 1) ∧ h₃.IsList ax its := ⟨hst₂.1.at fun o q => hs₃.extBut I o (by show @Ne Nat I C; first | fail "ne?" | omega) q, hst₂.2.at fun o q => hs₃.extBut ax o (by show @Ne Nat ax C; first | fail "ne?" | omega) q⟩
        refine h1 C _ _ _ fun t tk₃ => ?_
        refine wpAny_pyIter_ascii hasc ?_
        have WJ := fun hA => Walks.strAscii (prog := prog) (w := w) (A := A) hA h₃.objs.size ab t
        have hsJ : (h₃.push { cls := .type "str_ascii_iterator", data := .fields #[.str ab t, .int 0 0] }).IsStrIter h₃.objs.size "str_ascii_iterator" ab t 0 := ⟨_, Heap.get?_push_size _ rfl, rfl, rfl⟩
        dsimp only at WJ hsJ ⊢
        generalize hoJ : ({ cls := .type "str_ascii_iterator", data := .fields #[.str ab t, .int 0 0] } : Obj) = oJ₀ at *
        have hIlt : @LT.lt Nat _ I h₃.objs.size := by obtain ⟨o, q, _⟩ := hst₃.1; exact Heap.lt_size q
        have hClt : @LT.lt Nat _ C h₃.objs.size := hn₃.lt
        have hDlt : @LT.lt Nat _ D h₃.objs.size := Heap.lt_size hD3
        have hsJ' : (h₃.push oJ₀).objs.size = h₃.objs.size + 1 := Heap.size_push ..
        have upJ : ∀ b o, h₃.get? b = some o → (h₃.push oJ₀).get? b = some o := fun b o q => Heap.get?_push_of_some _ q
        generalize hJA : h₃.objs.size = JA at *
        generalize h₃.push oJ₀ = h₄ at *
        have WJ' := WJ hh
        have inner : ∀ s₅ : Shared, (∃ tk₅, s₅ = { s with heap := h₄, toks := tk₅ }) → codeAny (model prog w) A (.compLoop (.ListComp elt [⟨.Name x px, it0, [], 0⟩, ⟨.Name y py, it1, [ct], 0⟩] scope pos) 1 (.ref JA) (.ref D) (compEnvC scope cl C env))
            (fun r s₅ => match r with
              | .ok _ => ∃ mm, mm < its.size + 1 - i ∧ OutI s its h₀ env.locals m ax I C D news K mm s₅
              | .error e => cameBackBy (model prog w) A (compEnvC scope cl C env) (notedBy (model prog w) A (compEnvC scope cl C env) fun e s' => compPost (model prog w) A E (some (assign (.Name z pz) env)) (fun _ s' => Q .next s') (.ref D) C (.error e) s') e s₅) s₅ := by
          rintro s₅ ⟨tk₅, rfl⟩
          refine loop_in
            (InI s its h₀ env.locals m ax I C D JA ab t x v i news K) ?_ 3
            (InI.mk h₄ _ 0 ys _ (by decide) hsJ (hst₃.1.at fun o q => upJ _ o q) (hst₃.2.at fun o q => upJ _ o q) (F₃.keeps upJ) (hn₃.at' fun o q => upJ _ o q) (by simp) (N₃.grown upJ) (by rw [hsJ']; exact Nat.lt_succ_self _) hJ')
          rintro _ _ ⟨h', tk, j, ys, m', hj2, hsj, hsi1, hsi2, F', hn', hmx, N', hJs, hK⟩
          have hsi := And.intro hsi1 hsi2
          by_cases hjl : j < 2
          · refine WJ'.item j _ _ _ (by rw [hab]; exact hjl) hsj fun v' h₅ tk₅ hPv' hst₅ hk₅ => ?_
            obtain ⟨c, t', hc, rfl⟩ := hPv'
            refine wpAny_assign_Name (wpAny_storeName_local (lookup_relabel_local hy) (hn'.at' fun o q => hk₅ _ o (by simp; show ¬ @Eq Nat C JA; omega) q) (fun h₆ hn₆ hs₆ => ?_) (by simp [compEnvC, relabel, hkind]))
            have up6 : ∀ b o, b ≠ JA → b ≠ C → h'.get? b = some o → h₆.get? b = some o := fun b o h1 h2 q => hs₆.extBut b o h2 (hk₅ b o (by simpa using h1) q)
            have none1 : h₀.get? JA = none := none0 JA (by first | fail "lt?" | omega)
            have none2 : h₀.get? C = none := none0 C (by first | fail "lt?" | omega)
            have F₆ : Fr h₀ env.locals h₆ m := ⟨F'.ns.at' fun o q => up6 _ o (by show @Ne Nat _ _; first | fail "ne?" | (show @Ne Nat _ _; refine orNe zl ?_ ?_; fail "ne?"; first | exact Nat.le_refl _ | exact Nat.le_of_lt (by fail "lt?")) | omega) (by show @Ne Nat _ _; first | fail "ne?" | (show @Ne Nat _ _; refine orNe zl ?_ ?_; fail "ne?"; first | exact Nat.le_refl _ | exact Nat.le_of_lt (by fail "lt?")) | omega) q, fun c o q => up6 c o (fun e => by rw [e, none1] at q; cases q) (fun e => by rw [e, none2] at q; cases q) (F'.keep c o q), F'.above⟩
            have hst₆ : h₆.IsStrIter JA "str_ascii_iterator" ab t (j + 1) := WJ'.frame _ _ _ hst₅ fun b hb o q => hs₆.extBut b o (by rw [List.mem_singleton.mp hb]; show @Ne Nat JA C; omega) q
            obtain ⟨oC, heC, hoC⟩ := ns_obj hn₆
            obtain ⟨oI, heI⟩ : ∃ o, h₆.get? I = some o := by
              obtain ⟨o, q, _⟩ := hsi.1
              exact ⟨o, up6 I o (by show @Ne Nat _ _; first | fail "ne?" | (show @Ne Nat _ _; refine orNe zl ?_ ?_; fail "ne?"; first | exact Nat.le_refl _ | exact Nat.le_of_lt (by fail "lt?")) | omega) (by show @Ne Nat _ _; first | fail "ne?" | (show @Ne Nat _ _; refine orNe zl ?_ ?_; fail "ne?"; first | exact Nat.le_refl _ | exact Nat.le_of_lt (by fail "lt?")) | omega) q⟩
            obtain ⟨oJ, heJ⟩ : ∃ o, h₆.get? JA = some o := let ⟨o, q, _⟩ := hst₆; ⟨o, q⟩
            have N₆ : News h₀ env.locals h₆ ((JA, oJ) :: (I, oI) :: (C, oC) :: (D, lst ys) :: news) := fun q hq => by
              rcases List.mem_cons.mp hq with rfl | hq
              · exact ⟨heJ, by show @Ne Nat JA _; first | fail "ne?" | omega, none1⟩
              · rcases List.mem_cons.mp hq with rfl | hq
                · exact ⟨heI, by show @Ne Nat I _; first | fail "ne?" | omega, none0 I hLI⟩
                · rcases List.mem_cons.mp hq with rfl | hq
                  · exact ⟨heC, by show @Ne Nat C _; first | fail "ne?" | omega, none2⟩
                  · have z := N' q hq
                    have zl : @Eq Nat q.1 D ∨ @LT.lt Nat _ q.1 I := by
                      rcases List.mem_cons.mp hq with rfl | hq
                      · exact .inl rfl
                      · exact .inr (nlt q hq)
                    exact ⟨up6 _ _ (by show @Ne Nat _ _; first | fail "ne?" | (show @Ne Nat _ _; refine orNe zl ?_ ?_; fail "ne?"; first | exact Nat.le_refl _ | exact Nat.le_of_lt (by fail "lt?")) | omega) (by show @Ne Nat _ _; first | fail "ne?" | (show @Ne Nat _ _; refine orNe zl ?_ ?_; fail "ne?"; first | exact Nat.le_refl _ | exact Nat.le_of_lt (by fail "lt?")) | omega) z.1, z.2⟩
            have hPv2 : its[i]? = some v := hPv
            have fin6 : ∀ {ys' : List Value} {g : Heap} {tk9 : Nat}, Fr h₀ env.locals g m → News h₀ env.locals g ((JA, oJ) :: (I, oI) :: (C, oC) :: news) → g.get? D = some (lst ys') → K i (j + 1) ys' →
                ∃ mm, mm < 3 - j ∧ InI s its h₀ env.locals m ax I C D JA ab t x v i news K mm { s with heap := g, toks := tk9 } := by
              intro ys' g tk9 Fg Ng eD hK'
              refine ⟨3 - (j + 1), by omega, InI.mk g tk9 (j + 1) ys' _ (by omega) (WJ'.frame _ _ _ hst₆ fun b hb o q => ?_) ?_ ?_ Fg (hoC.ns (Ng _ (.tail _ (.tail _ (.head _)))).1) (by simp [hxy, hmx]) (fun q hq => ?_) (Heap.lt_size (Ng _ (.head _)).1) hK'⟩
              · rw [List.mem_singleton.mp hb] at q ⊢
                rw [heJ] at q; cases q
                exact (Ng _ (.head _)).1
              · obtain ⟨o, q, r⟩ := hsi.1
                have q2 := up6 I o (by show @Ne Nat _ _; first | fail "ne?" | (show @Ne Nat _ _; refine orNe zl ?_ ?_; fail "ne?"; first | exact Nat.le_refl _ | exact Nat.le_of_lt (by fail "lt?")) | omega) (by show @Ne Nat _ _; first | fail "ne?" | (show @Ne Nat _ _; refine orNe zl ?_ ?_; fail "ne?"; first | exact Nat.le_refl _ | exact Nat.le_of_lt (by fail "lt?")) | omega) q
                rw [heI] at q2; cases q2
                exact ⟨_, (Ng _ (.tail _ (.head _))).1, r⟩
              · exact ⟨_, (Ng _ (.tail _ (.tail _ (.tail _ hm)))).1, rfl, n0, rfl⟩
              · rcases List.mem_cons.mp hq with rfl | hq
                · exact ⟨eD, by show @Ne Nat D _; first | fail "ne?" | omega, none0 D (by first | fail "lt?" | omega)⟩
                · exact Ng q (.tail _ (.tail _ (.tail _ hq)))
            refine wpAny_mono (turn i j v c t' ys h₆ _ JA I C D oJ oI oC _ _ hPv2 hjl hc hK hoC (by simp [hxy, hmx]) (by simp) F₆ N₆) (fun ok s₇ h₇ => ?_) fun _ _ e => e
            cases ok with
            | true =>
              simp only [if_true] at h₇ ⊢
              refine wpAny_mono h₇ (fun yv s₈ h₈ => ?_) fun _ _ e => e
              obtain ⟨h₈, tk₈, rfl, F₈, N₈, K₈⟩ := h₈
              have zD := (N₈ (D, lst ys) (.tail _ (.tail _ (.tail _ (.head _))))).1
              refine append_at (hsz := by show ys.toArray.size ≤ sizeLine; rw [List.size_toArray]; exact Nat.le_trans (hlen i j ys (Nat.le_of_lt hlt2) (by omega) hK) (by decide)) zD fun h₉ hs₉ hD₉ => ?_
              refine fin6 (F₈.change hs₉ (by show @Ne Nat _ _; first | fail "ne?" | (show @Ne Nat _ _; refine orNe zl ?_ ?_; fail "ne?"; first | exact Nat.le_refl _ | exact Nat.le_of_lt (by fail "lt?")) | omega) (none0 D (by first | fail "lt?" | omega))) (fun q hq => ?_) (hD₉.trans (congrArg some (lst_snoc ys yv))) K₈
              have z := N₈ q (by
                rcases List.mem_cons.mp hq with rfl | hq
                · exact .head _
                rcases List.mem_cons.mp hq with rfl | hq
                · exact .tail _ (.head _)
                rcases List.mem_cons.mp hq with rfl | hq
                · exact .tail _ (.tail _ (.head _))
                exact .tail _ (.tail _ (.tail _ (.tail _ hq))))
              refine ⟨hs₉.extBut _ _ ?_ z.1, z.2⟩
              rcases List.mem_cons.mp hq with rfl | hq
              · show @Ne Nat JA D; omega
              rcases List.mem_cons.mp hq with rfl | hq
              · show @Ne Nat I D; omega
              rcases List.mem_cons.mp hq with rfl | hq
              · show @Ne Nat C D; omega
              have q9 := nlt q hq
              show @Ne Nat _ _; omega
            | false =>
              simp only [Bool.false_eq_true, if_false] at h₇ ⊢
              obtain ⟨h₈, tk₈, rfl, F₈, N₈, K₈⟩ := h₇
              refine fin6 F₈ (fun q hq => N₈ q ?_) (N₈ (D, lst ys) (.tail _ (.tail _ (.tail _ (.head _))))).1 K₈
              rcases List.mem_cons.mp hq with rfl | hq
              · exact .head _
              rcases List.mem_cons.mp hq with rfl | hq
              · exact .tail _ (.head _)
              rcases List.mem_cons.mp hq with rfl | hq
              · exact .tail _ (.tail _ (.head _))
              exact .tail _ (.tail _ (.tail _ (.tail _ hq)))
          · obtain rfl : j = 2 := by omega
            refine WJ'.done _ _ _ (by rw [hab]; exact hsj) fun h₅ tk₅ hk₅ => ?_
            have k5 : ∀ b o, b ≠ JA → h'.get? b = some o → h₅.get? b = some o := fun b o hb q => hk₅ b o (by simpa using hb) q
            have none1 : h₀.get? JA = none := none0 JA (by first | fail "lt?" | omega)
            refine ⟨its.size + 1 - (i + 1), by omega, OutI.mk h₅ tk₅ (i + 1) ys _ hlt2 (hsi.1.at fun o q => k5 _ o (by show @Ne Nat _ _; first | fail "ne?" | (show @Ne Nat _ _; refine orNe zl ?_ ?_; fail "ne?"; first | exact Nat.le_refl _ | exact Nat.le_of_lt (by fail "lt?")) | omega) q) (hsi.2.at fun o q => k5 _ o (by show @Ne Nat _ _; first | fail "ne?" | (show @Ne Nat _ _; refine orNe zl ?_ ?_; fail "ne?"; first | exact Nat.le_refl _ | exact Nat.le_of_lt (by fail "lt?")) | omega) q)
              ⟨F'.ns.at' fun o q => k5 _ o (by show @Ne Nat _ _; first | fail "ne?" | (show @Ne Nat _ _; refine orNe zl ?_ ?_; fail "ne?"; first | exact Nat.le_refl _ | exact Nat.le_of_lt (by fail "lt?")) | omega) q, fun c o q => k5 c o (fun e => by rw [e, none1] at q; cases q) (F'.keep c o q), F'.above⟩ (hn'.at' fun o q => k5 _ o (by show @Ne Nat _ _; first | fail "ne?" | (show @Ne Nat _ _; refine orNe zl ?_ ?_; fail "ne?"; first | exact Nat.le_refl _ | exact Nat.le_of_lt (by fail "lt?")) | omega) q) (fun q hq => ?_) (next i ys hlt2 hK)⟩
            have z := N' q hq
            have zl : @Eq Nat q.1 D ∨ @LT.lt Nat _ q.1 I := by
              rcases List.mem_cons.mp hq with rfl | hq
              · exact .inl rfl
              · exact .inr (nlt q hq)
            exact ⟨k5 _ _ (by show @Ne Nat _ _; first | fail "ne?" | (show @Ne Nat _ _; refine orNe zl ?_ ?_; fail "ne?"; first | exact Nat.le_refl _ | exact Nat.le_of_lt (by fail "lt?")) | omega) z.1, z.2⟩
        exact start_in (inner _ ⟨_, rfl⟩) (WJ'.self 0 _ _ _ hsJ (inner _ ⟨_, rfl⟩))
      · have hin' : i = its.size := by omega
        subst hin'
        refine W.done _ _ _ hst fun h₂ tk₂ hk₂ => ?_
        have k2 : ∀ c o, c ≠ I → h'.get? c = some o → h₂.get? c = some o := fun c o h1 q => hk₂ c o (by simpa using h1) q
        have F₂' := upF F' fun b o h1 _ _ q => k2 b o h1 q
        show wpAny _ A (assign (.Name z pz) env (.ref D)) _ _ _
        refine wpAny_assign_Name (wpAny_storeName_local hz F₂'.ns (fun h₃ hn₃ hs₃ => ?_) hp)
        have hL₀ : h₀.get? env.locals = none := Heap.get?_none_of_le F₂'.above
        have F₃ : Fr h₀ env.locals h₃ (fun q => if q = z then some (.ref D) else m q) := ⟨hn₃, fun b o e => hs₃.extBut b o (fun q => by rw [q, hL₀] at e; cases e) (F₂'.keep b o e), F₂'.above⟩
        refine ⟨m', (hn'.at' fun o q => k2 _ o (by show @Ne Nat _ _; first | fail "ne?" | (show @Ne Nat _ _; refine orNe zl ?_ ?_; fail "ne?"; first | exact Nat.le_refl _ | exact Nat.le_of_lt (by fail "lt?")) | omega) q).sameBut hs₃ (by show @Ne Nat _ _; first | fail "ne?" | (show @Ne Nat _ _; refine orNe zl ?_ ?_; fail "ne?"; first | exact Nat.le_refl _ | exact Nat.le_of_lt (by fail "lt?")) | omega), fun h'' hs'' => ?_⟩
        have up9 : ∀ b o, b ≠ I → b ≠ C → b ≠ env.locals → h'.get? b = some o → h''.get? b = some o := fun b o h1 h2 h3 q => hs''.extBut b o h2 (hs₃.extBut b o h3 (k2 b o h1 q))
        refine fin ys D h'' _ hJ' (F₃.change hs'' (by show @Ne Nat _ _; first | fail "ne?" | (show @Ne Nat _ _; refine orNe zl ?_ ?_; fail "ne?"; first | exact Nat.le_refl _ | exact Nat.le_of_lt (by fail "lt?")) | omega) (none0 C (by first | fail "lt?" | omega))) (fun q hq => ?_) (allNe_of fun q hq => by have := nlt q hq; show @Ne Nat _ _; omega)
        have z9 := N' q hq
        have zl : @Eq Nat q.1 D ∨ @LT.lt Nat _ q.1 I := by
          rcases List.mem_cons.mp hq with rfl | hq
          · exact .inl rfl
          · exact .inr (nlt q hq)
        exact ⟨up9 _ _ (by show @Ne Nat _ _; first | fail "ne?" | (show @Ne Nat _ _; refine orNe zl ?_ ?_; fail "ne?"; first | exact Nat.le_refl _ | exact Nat.le_of_lt (by fail "lt?")) | omega) (by show @Ne Nat _ _; first | fail "ne?" | (show @Ne Nat _ _; refine orNe zl ?_ ?_; fail "ne?"; first | exact Nat.le_refl _ | exact Nat.le_of_lt (by fail "lt?")) | omega) z9.2.1 z9.1, z9.2⟩
    · rcases List.mem_cons.mp hp with rfl | hp
      · exact ⟨hacc, by show @Ne Nat D _; first | fail "ne?" | omega, none0 _ (by show @LT.lt Nat _ _ D; omega)⟩
      · exact ⟨old _ _ (N₂ p hp).1, (N₂ p hp).2⟩
  exact codeAny_compStart_list (loop _ rfl) (W.self 0 _ _ _ ⟨hst0.at fun o e => old _ _ e, hl.at fun o e => old _ _ (up1 _ _ e)⟩ (loop _ rfl))
end
end
section
open PySem PySem.W PySem.Calls PyProof.Rows PyProof.Rows.LCg PyProof.Rows.LCt
section
variable {prog : Program} {w : World} {A : Around} {s : Shared} {h₀ : Heap} {L : Addr} {m : PySem.Str → Option Value} {env : Env}
theorem compRestT_ind {ct elt : PySem.Expr} {x : PySem.Str} {scope : Scope} {cl : List (PySem.Str × Addr)} {S : List (Addr × Obj) → Prop} {P : Nat → Value → Prop} {Fin : List Value → List (Addr × Obj) → Prop} {n : Nat} {news : List (Addr × Obj)} (J : Nat → List Value → List (Addr × Obj) → Prop)
    (h0 : J 0 [] news)
    (turn : ∀ i ys nx v I oI C oC D m₂ h tk (E' : Value → Shared → Prop), i < n → P i v → J i ys nx → NsObj oC m₂ → m₂ x = some v → Fr h₀ L h m → News h₀ L h ((I, oI) :: (C, oC) :: (D, lst ys) :: nx) → Off3 I C D nx → ((@Ne Nat I C) ∧ (@Ne Nat I D) ∧ (@Ne Nat C D)) →
      wpAny (model prog w) A (isTrue ct (compEnvC scope cl C env) (eval ct (compEnvC scope cl C env))) (fun ok s' => if ok = true then
        wpAny (model prog w) A (eval elt (compEnvC scope cl C env)) (CompEnd h₀ L m { s with heap := h, toks := tk } I oI C oC D (lst ys) S (fun y nx' => J (i + 1) (ys ++ [y]) nx')) E' s'
        else CompEnd h₀ L m { s with heap := h, toks := tk } I oI C oC D (lst ys) S (fun _ nx' => J (i + 1) ys nx') Value.none s') E' { s with heap := h, toks := tk })
    (fin : ∀ ys nx, J n ys nx → Fin ys nx) : CompRestT prog w A h₀ L m env ct elt x scope cl s S P Fin n 0 [] news := by
  have key : ∀ k i ys nx, i + k = n → J i ys nx → CompRestT prog w A h₀ L m env ct elt x scope cl s S P Fin k i ys nx := by
    intro k
    induction k with
    | zero => intro i ys nx e j; rw [Nat.add_zero] at e; subst e; exact fin ys nx j
    | succ k ih =>
      intro i ys nx e j
      refine CompRestT.succ fun v I oI C oC D m₂ h tk E' hv hC hx F N off ne => ?_
      refine wpAny_mono (turn i ys nx v I oI C oC D m₂ h tk E' (by omega) hv j hC hx F N off ne) (fun ok s' q => ?_) fun _ _ e => e
      cases ok with
      | true =>
        simp only [if_true] at q ⊢
        refine wpAny_mono q (fun y s₂ q => ?_) fun _ _ e => e
        obtain ⟨h', tk', nx', e', F', N', o', S', j'⟩ := q
        exact ⟨h', tk', nx', e', F', N', o', S', ih _ _ _ (by omega) j'⟩
      | false =>
        simp only [Bool.false_eq_true, if_false] at q ⊢
        obtain ⟨h', tk', nx', e', F', N', o', S', j'⟩ := q
        exact ⟨h', tk', nx', e', F', N', o', S', ih _ _ _ (by omega) j'⟩
  exact key n 0 [] news (by omega) h0
end
end
section
section
variable {w : World} {p : Program} {loose : List Str} {mean : ExcName → Option Value} {mg mb : Str → Option Value} {dp un : Nat} {fr : Option (List Env)} {gd : Option (List Code)} {s0 : Shared} {R : Result → Shared → Prop} {H : Heap}
theorem ell_letters {n st sa mo l : Nat} {wd : List Nat} {tw tg : Tok} (G : Gd w p loose mean mg mb H) (k : Ext H s0.heap) (hdp : dp + 10 < recursionLimit) (P : ParN n st sa mo) (h1 : 1 ≤ l) (h7 : l ≤ 7) (hw : wd ∈ Gr n st l)
    (hR : ∀ h' tk, Ext s0.heap h' → R (.ok (.ret (.bool (wd == wd.reverse)))) { s0 with heap := h', toks := tk }) :
    codeAny (model PR w) (Ar dp un fr gd) (.call (.ref 111) ⟨[.str (sv (jd (wd.map fun c => [c]))) tw, .str (sv wd.reverse) tg], []⟩) R s0 := by
  have hl := Gr_len hw
  have h46 := no46w hw
  match wd, hl, h46, hw, hR with
  | [], hl, _, _, _ => simp at hl; omega
  | [c], _, h46, _, hR =>
    show codeAny _ _ (.call (.ref 111) ⟨[.str (sv [c]) tw, .str (sv [c].reverse) tg], []⟩) R s0
    refine ell_no G k hdp (no_dotsS h46) fun h' tk x => ?_
    rw [sv_beq]
    exact hR h' tk x
  | c :: d :: r, hl, h46, hw, hR =>
    have h46' : ∀ q ∈ [c] :: [d] :: r.map (fun c => [c]), 46 ∉ q := fun q hq hm => by
      have : q ∈ (c :: d :: r).map fun c => [c] := hq
      obtain ⟨x, hx, rfl⟩ := List.mem_map.mp this
      exact h46 (List.mem_singleton.mp hm ▸ hx)
    have hjl : (jd ((c :: d :: r).map fun c => [c])).length ≤ 100 := by
      have : ∀ v : List Nat, (jd (v.map fun c => [c])).length ≤ 4 * v.length := by
        intro v
        induction v with
        | nil => simp [jd]
        | cons a v ih =>
          cases v with
          | nil => simp [jd]
          | cons b v =>
            simp only [List.map_cons] at ih ⊢
            rw [jd_cons, List.length_append, List.length_append, show dots.length = 3 from rfl]
            simp only [List.length_cons, List.length_nil] at ih ⊢
            omega
      have := this (c :: d :: r)
      rw [hl] at this
      omega
    have e := let_test P (by simp at hl; omega) h7 hw
    refine ell_any (p0 := sv [c]) (p1 := sv [d]) (r := (r.map fun c => [c]).map sv) G k hdp (by rw [dots_eq]; exact has_dots) (sl_le (by rw [sv_len]; omega)) (by rw [sv_len, List.length_reverse]; omega) (by rw [dots_eq]; exact split_jd h46') (by rw [sv_len]; simp) (by rw [sv_len]; simp) (fun q hq => ?_) (by simp at hl ⊢; omega) fun b h' tk eb x => ?_
    · obtain ⟨y, hy, rfl⟩ := List.mem_map.mp hq
      obtain ⟨z, _, rfl⟩ := List.mem_map.mp hy
      rw [sv_len]; simp
    · have : (sv [c] :: sv [d] :: (r.map fun c => [c]).map sv) = (c :: d :: r).map fun c => sv [c] := by simp
      rw [this, e] at eb
      subst eb
      exact hR h' tk x
/-- word and dots at the beginning -/
theorem ell_start {wd g : List Nat} {tw tg : Tok} (G : Gd w p loose mean mg mb H) (k : Ext H s0.heap) (hdp : dp + 10 < recursionLimit) (h1 : wd ≠ []) (h46 : 46 ∉ wd) (hl : wd.length ≤ 100) (hg : g.length ≤ 100)
    (hR : ∀ h' tk, Ext s0.heap h' → R (.ok (.ret (.bool (g.take wd.length == wd)))) { s0 with heap := h', toks := tk }) :
    codeAny (model PR w) (Ar dp un fr gd) (.call (.ref 111) ⟨[.str (sv (wd ++ dots)) tw, .str (sv g) tg], []⟩) R s0 := by
  have ej : wd ++ dots = jd [wd, []] := by
    rw [jd_cons]
    show _ = wd ++ (dots ++ [])
    rw [List.append_nil]
  have hs : Txt.split (sv (jd [wd, []])) (sv dots) = [sv wd, sv []] := split_jd (w := wd) (v := []) (r := []) (fun q hq => by
    rcases List.mem_cons.mp hq with rfl | hq
    · exact h46
    · rw [List.mem_singleton.mp hq]; simp)
  refine ell_any (p0 := sv wd) (p1 := sv []) (r := []) G k hdp (by rw [ej, dots_eq]; exact has_dots) (sl_le (by rw [sv_len, List.length_append]; show _ + 3 ≤ _; omega)) (by rw [sv_len]; omega) (by rw [ej, dots_eq]; exact hs) (by rw [sv_len]; omega) (by rw [sv_len]; simp) (fun q hq => nomatch hq) (by decide) fun b h' tk eb x => ?_
  rw [ell_begin h1] at eb
  subst eb
  exact hR h' tk x
/-- word, dots and the text's end -/
theorem ell_ends {wd u g : List Nat} {tw tg : Tok} (G : Gd w p loose mean mg mb H) (k : Ext H s0.heap) (hdp : dp + 10 < recursionLimit) (h1 : wd ≠ []) (h2 : u ≠ []) (h46 : 46 ∉ wd) (h46' : 46 ∉ u) (hl : wd.length ≤ 100) (hl' : u.length ≤ 100) (hg : g.length ≤ 100)
    (q1 : g.take wd.length = wd) (q2 : (g.drop (g.length - u.length)).take u.length = u) (q3 : u.length ≤ g.length)
    (hR : ∀ h' tk, Ext s0.heap h' → R (.ok (.ret (.bool (decide (wd.length + u.length ≤ g.length))))) { s0 with heap := h', toks := tk }) :
    codeAny (model PR w) (Ar dp un fr gd) (.call (.ref 111) ⟨[.str (sv (wd ++ dots ++ u)) tw, .str (sv g) tg], []⟩) R s0 := by
  have ej : wd ++ dots ++ u = jd [wd, u] := by
    rw [jd_cons, List.append_assoc]
    rfl
  have hs : Txt.split (sv (jd [wd, u])) (sv dots) = [sv wd, sv u] := split_jd (w := wd) (v := u) (r := []) (fun q hq => by
    rcases List.mem_cons.mp hq with rfl | hq
    · exact h46
    · rw [List.mem_singleton.mp hq]; exact h46')
  refine ell_any (p0 := sv wd) (p1 := sv u) (r := []) G k hdp (by rw [ej, dots_eq]; exact has_dots) (sl_le (by rw [sv_len, List.length_append, List.length_append]; show _ + 3 + _ ≤ _; omega)) (by rw [sv_len]; omega) (by rw [ej, dots_eq]; exact hs) (by rw [sv_len]; omega) (by rw [sv_len]; omega) (fun q hq => nomatch hq) (by decide) fun b h' tk eb x => ?_
  rw [ell_both h1 h2 q1 q2 q3] at eb
  subst eb
  exact hR h' tk x
end
theorem strs_of_get : ∀ {its : List Value} {ps : List PySem.Str}, its.length = ps.length → (∀ (j : Nat) (v : Value), its[j]? = some v → ∃ (q : PySem.Str) (t : Tok), ps[j]? = some q ∧ v = Value.str q t) → StrsAre its ps
  | [], [], _, _ => .nil
  | [], _ :: _, h, _ => by simp at h
  | _ :: _, [], h, _ => by simp at h
  | v :: its, q :: ps, h, hv => by
    obtain ⟨q', t, e, rfl⟩ := hv 0 v rfl
    simp at e
    subst e
    exact .cons _ _ (strs_of_get (by simpa using h) fun j v e => hv (j + 1) v (by simpa using e))
theorem listS {prog : Program} {w : World} {A : Around} {E : Value → Shared → Prop} {s : Shared} {h₀ : Heap} {L : Addr} {m : PySem.Str → Option Value} {news : List (Addr × Obj)} {wd : List Nat} {t : Tok} {Q : Value → Shared → Prop} (hh : A.handled = none) (F : Fr h₀ L s.heap m) (N : News h₀ L s.heap news) (hl : wd.length ≤ 1000)
    (h : ∀ D its c' h' tk, StrsAre its (wd.map fun c => sv [c]) → Fr h₀ L h' m → News h₀ L h' ((D, W.listOf (List.toArray its) c') :: news) → Q (.ref D) { s with heap := h', toks := tk }) :
    wpAny (model prog w) A (call (.type "list") [.str (sv wd) t]) Q E s := by
  refine call_list_str hh (sv wd) t (fun h' tk acc' c' hk hS hacc => ?_) (by
    have e : sizeLine ≥ 2000 := by decide
    have := sv_len wd
    unfold Str.length at this
    rw [this]
    omega)
  have hn : s.heap.get? s.heap.objs.size = none := by
    cases e : s.heap.get? s.heap.objs.size with
    | none => rfl
    | some o => exact absurd (Heap.lt_size e) (Nat.lt_irrefl _)
  obtain ⟨F', N', _⟩ := after1 (o := W.listOf (List.toArray acc'.toList) c') F N hk hn hS
  refine h _ acc'.toList c' h' tk (strs_of_get ?_ fun j v e => ?_) F' N'
  · have := hacc.1
    rw [Array.length_toList, this, List.length_map, ← sv_len]
    rfl
  · obtain ⟨c, u, hc, rfl⟩ := hacc.2 j v (by simpa using e)
    have hc' : wd[j]? = some c := by simpa [sv] using hc
    exact ⟨_, u, by rw [List.getElem?_map, hc']; rfl, rfl⟩
theorem eqS_known {prog : Program} {w : World} {A : Around} {E : Value → Shared → Prop} {s : Shared} {x y : PySem.Str} {t u : Tok} {b : Bool} {Q : Value → Shared → Prop} (e : (x == y) = b) (h : Q (.bool b) s) : wpAny (model prog w) A (compareOp .Eq (.str x t) (.str y u)) Q E s := eq_str (by rw [e]; exact h)
end
section
theorem rs43 : True := by
  w_top off
  exact trivial
theorem up1 {a n : Int} (h0 : 0 ≤ a) (h1 : a < n) : 1 ≤ 1 + a ∧ 1 + a ≤ n := ⟨Int.le_add_of_nonneg_right h0, by rw [Int.add_comm]; exact h1⟩
theorem up_t {d n : Int} (h0 : 0 ≤ d) (h1 : d < n) : 1 ≤ 1 + d * 2 ∧ 1 + d * 2 < n * 2 ∧ (1 + d * 2) % 2 = 1 := ⟨by omega, by omega, by omega⟩
theorem pars_ok {c0 c1 c2 c3 : Int} (h0 : 0 ≤ c0) (h1 : 0 ≤ c1) (h2 : 0 ≤ c2) (h3 : 0 ≤ c3) : Pars (8 + c0.fmod 2 * 8) (1 + c2.fmod 8) (1 + (c2.fdiv 8).fmod 8) (1 + c3.fmod 7) (1 + ((c0.fdiv 2).fmod ((8 + c0.fmod 2 * 8).fdiv 2)) * 2) (c1.fmod (8 + c0.fmod 2 * 8)) := by
  have key : ∀ sz h : Int, (sz = 8 ∨ sz = 16) → sz.fdiv 2 = h → h * 2 = sz → 0 < h → 0 < sz → Pars sz (1 + c2.fmod 8) (1 + (c2.fdiv 8).fmod 8) (1 + c3.fmod 7) (1 + ((c0.fdiv 2).fmod (sz.fdiv 2)) * 2) (c1.fmod sz) := by
    intro sz h z e e2 hh hs
    rw [e]
    obtain ⟨a1, a2⟩ := up1 (Int.fmod_nonneg_of_pos c2 (show (0 : Int) < 8 by decide)) (Int.fmod_lt_of_pos c2 (by decide))
    obtain ⟨b1, b2⟩ := up1 (Int.fmod_nonneg_of_pos (c2.fdiv 8) (show (0 : Int) < 8 by decide)) (Int.fmod_lt_of_pos (c2.fdiv 8) (by decide))
    obtain ⟨d1, d2⟩ := up1 (Int.fmod_nonneg_of_pos c3 (show (0 : Int) < 7 by decide)) (Int.fmod_lt_of_pos c3 (by decide))
    obtain ⟨t1, t2, t3⟩ := up_t (Int.fmod_nonneg_of_pos (c0.fdiv 2) hh) (Int.fmod_lt_of_pos (c0.fdiv 2) hh)
    rw [e2] at t2
    exact ⟨z, a1, a2, b1, b2, d1, d2, t1, t2, t3, Int.fmod_nonneg_of_pos _ hs, Int.fmod_lt_of_pos _ hs⟩
  have u := Int.fmod_nonneg_of_pos c0 (show (0 : Int) < 2 by decide)
  have v := Int.fmod_lt_of_pos c0 (show (0 : Int) < 2 by decide)
  generalize c0.fmod 2 = d at *
  have e : d = 0 ∨ d = 1 := by clear key; omega
  rcases e with rfl | rfl
  · exact key (8 + 0 * 8) 4 (.inl rfl) rfl rfl (by decide) (by decide)
  · exact key (8 + 1 * 8) 8 (.inr rfl) rfl rfl (by decide) (by decide)

local macro_rules | `(tactic| walk_at "call ref") => mc8
set_option maxHeartbeats 8000000 in
theorem segA {w : World} {p : Program} {loose : List Str} {mean : ExcName → Option Value} {mg mb : Str → Option Value} {dp un : Nat} {fr : Option (List Env)} {gd : Option (List Code)} {s0 : Shared} {Q : Flow → Shared → Prop} {h₀ : Heap} {L fa : Addr} {cd : Value} {m : Str → Option Value} {rest : List Stmt}
    (G : Gd w p loose mean mg mb h₀) (hdp : dp + 100 < recursionLimit) (F : Fr h₀ L s0.heap m)
    {o1 o2 o3 o4 o5 o6 : Obj} (N : News h₀ L s0.heap [(L + 1 + 1 + 1 + 1 + 1 + 1, o6), (L + 1 + 1 + 1 + 1 + 1, o5), (L + 1 + 1 + 1 + 1, o4), (L + 1 + 1 + 1, o3), (L + 1 + 1, o2), (L + 1, o1), (58, tabObj #[]), (51, tabObj #[])]) (l0 : @LT.lt Nat _ 58 L ∧ @LT.lt Nat _ 51 L)
    (d1 : o1.data = .cell none) (d2 : o2.data = .cell none) (d3 : o3.data = .cell none) (d4 : o4.data = .cell none) (d5 : o5.data = .cell none) (d6 : o6.data = .cell none)
    {l : Addr} {vs : List Value} {ns : List Int} (hm : m (PySem.Str.ofString "script") = some (.ref l)) (hl : h₀.IsList l vs.toArray) (hi : IntsAre vs ns) (hz : ns.length ≤ 63)
    (hk : ∀ h' tk m' o1 o2 o3 o4 sz sh va mo st sa t1 t2 t3 t4 t5 t6, Fr h₀ L h' m' → News h₀ L h' [(L + 1 + 1 + 1 + 1 + 1 + 1, o6), (L + 1 + 1 + 1 + 1 + 1, o5), (L + 1 + 1 + 1 + 1, o4), (L + 1 + 1 + 1, o3), (L + 1 + 1, o2), (L + 1, o1), (58, tabObj #[]), (51, tabObj #[])] → Pars sz sh va mo st sa →
      o1.data = .cell (some (.int sz t1)) → o2.data = .cell (some (.int mo t2)) → o3.data = .cell (some (.int st t3)) → o4.data = .cell (some (.int sa t4)) → m' (PySem.Str.ofString "share") = some (.int sh t5) → m' (PySem.Str.ofString "value") = some (.int va t6) →
      wpAny (model PR w) ((Ar dp un fr gd).deeper (lawEnv L fa cd)) (execs rest (lawEnv L fa cd)) Q (fun _ _ => False) { s0 with heap := h', toks := tk }) :
    wpAny (model PR w) ((Ar dp un fr gd).deeper (lawEnv L fa cd)) (execs (lawSeg 0 3 rest) (lawEnv L fa cd)) Q (fun _ _ => False) s0 := by
  have X := G.X
  have T := G.T
  unfold PR; revert X; k_fill; intro X
  refine seg3 (A := fun sc => (Ar dp un fr gd).deeper (envOfC (PySem.Str.ofString "law") sc L fa cd)) (l := lawSeg 0 3 rest) (rest := rest) rfl rfl ?_
  (try dsimp only)
  k_unmd
  (try k_fold)
  k_steps
  all_goals (try (refine ofStop ?_; (with_reducible show wpAny _ _ (call (Value.ref 116) _) _ _ _); k_dflt (refine wpAny_call ?_; refine' cells_ok ?z1_G ?z1_k ?z1_d ?z1_l ?z1_i ?z1_z ?z1_T ?_; (case z1_G => assumption); (case z1_k => exact Fr.keep (by k_asm)); (case z1_d => k_room); (case z1_l => exact isList_keep (by assumption) (by k_asm)); (case z1_i => assumption); (case z1_z => assumption); (case z1_T => exact News.isTup (by k_asm) (by k_mem)); k_whole); intro D' h' tk' c0' c1' c2' c3' u0' u1' u2' u3' x' f' g' hc'; obtain ⟨F', N', l1⟩ := after1 (by k_asm) (by k_asm) x' f' g'; (try simp only [AllNe, and_true] at l1); obtain ⟨⟨hc1', hc2'⟩, ⟨hc3', hc4'⟩, ⟨hc5', hc6'⟩, ⟨hc7', hc8'⟩⟩ := hc'; clear x' f' g'; (try k_sweep); (try dsimp only); k_steps))
  rename Fr _ _ _ _ => F9
  rename News _ _ _ _ => N9
  first
    | refine' hk _ _ _ _ _ _ _ _ _ _ _ _ _ _ _ _ _ _ _ F9 (fun p hp => N9 p (.tail _ (.tail _ (.tail _ (.tail _ hp))))) ?P ?d1 ?d2 ?d3 ?d4 rfl rfl
    | refine' hk _ _ _ _ _ _ _ _ _ _ _ _ _ _ _ _ _ _ _ F9 (fun p hp => N9 p (.tail _ (.tail _ (.tail _ hp)))) ?P ?d1 ?d2 ?d3 ?d4 rfl rfl
    | refine' hk _ _ _ _ _ _ _ _ _ _ _ _ _ _ _ _ _ _ _ F9 (fun p hp => N9 p (.tail _ (.tail _ hp))) ?P ?d1 ?d2 ?d3 ?d4 rfl rfl
    | refine' hk _ _ _ _ _ _ _ _ _ _ _ _ _ _ _ _ _ _ _ F9 (fun p hp => N9 p (.tail _ hp)) ?P ?d1 ?d2 ?d3 ?d4 rfl rfl
  case d1 => assumption
  case d2 => assumption
  case d3 => assumption
  case d4 => assumption
  case P => refine pars_ok ?_ ?_ ?_ ?_ <;> assumption
end
section
theorem rs44 : True := by
  w_top off
  exact trivial
theorem sb_cold {h₀ h h' : Heap} {L : Addr} {m : Str → Option Value} {o1 o2 o3 o4 o5 o6 : Obj} {sz st sa : Int} {I C D D2 : Addr} {oI oC : Obj} {u1 u2 : Tok} {s : Shared} {tk : Nat} {c51 c58 : Addr} {o51 o58 : Obj} {v51 v58 : Array Value} {q51 q58 : Tok}
    (F : Fr h₀ L h m) (N : News h₀ L h [(I, oI), (C, oC), (D, LCg.lst []), (L + 1 + 1 + 1 + 1 + 1 + 1, o6), (L + 1 + 1 + 1 + 1 + 1, o5), (L + 1 + 1 + 1 + 1, o4), (L + 1 + 1 + 1, o3), (L + 1 + 1, o2), (L + 1, o1), (58, tabObj #[]), (51, tabObj #[])]) (off : LCg.Off3 I C D [(L + 1 + 1 + 1 + 1 + 1 + 1, o6), (L + 1 + 1 + 1 + 1 + 1, o5), (L + 1 + 1 + 1 + 1, o4), (L + 1 + 1 + 1, o3), (L + 1 + 1, o2), (L + 1, o1), (58, tabObj #[]), (51, tabObj #[])]) (l0 : @LT.lt Nat _ 58 L ∧ @LT.lt Nat _ 51 L) (_hz : sz = 8 ∨ sz = 16)
    (CE : ColdEnd h h' D2 (tupO [.int ((sa + ((0 : Nat) : Int) * st).fdiv sz) u1, .int ((sa + ((0 : Nat) : Int) * st).fmod sz) u2]) c51 o51 v51 q51 c58 o58 v58 q58) :
    LCg.CompEnd h₀ L m s I oI C oC D (LCg.lst []) (fun _ => True) (fun y nx' => SBJ L o1 o2 o3 o4 o5 o6 sz st sa (0 + 1) ([] ++ [y]) nx') (.ref D2) { s with heap := h', toks := tk } := by
  obtain ⟨off1, off2, off3, off4, off5, off6, off7, off8, _⟩ := off
  obtain ⟨F2, N2, l1, l2, l3⟩ := afterCold [(I, oI), (C, oC), (D, LCg.lst []), (L + 1 + 1 + 1 + 1 + 1 + 1, o6), (L + 1 + 1 + 1 + 1 + 1, o5), (L + 1 + 1 + 1 + 1, o4), (L + 1 + 1 + 1, o3), (L + 1 + 1, o2), (L + 1, o1)] F N CE (by k_mem) (by k_mem) (by
    intro q hq
    refine ⟨List.mem_append_left [(58, tabObj #[]), (51, tabObj #[])] hq, ?_⟩
    simp only [List.mem_cons, List.not_mem_nil, or_false] at hq
    rcases hq with rfl | rfl | rfl | rfl | rfl | rfl | rfl | rfl | rfl
    · exact ⟨Ne.symm off8.1, Ne.symm off7.1⟩
    · exact ⟨Ne.symm off8.2.1, Ne.symm off7.2.1⟩
    · exact ⟨Ne.symm off8.2.2, Ne.symm off7.2.2⟩
    all_goals exact ⟨by k_ne, by k_ne⟩)
  obtain ⟨a1, a2, a3, a4, a5, a6, a7, a8, a9, a10, a11, a12, a13, _⟩ := l1
  obtain ⟨b1, b2, b3, b4, b5, b6, b7, b8, b9, b10, b11, b12, _⟩ := l2
  obtain ⟨e1, e2, e3, e4, e5, e6, e7, e8, e9, e10, e11, _⟩ := l3
  refine LCg.CompEnd.intro F2 N2 [(L + 1 + 1 + 1 + 1 + 1 + 1, o6), (L + 1 + 1 + 1 + 1 + 1, o5), (L + 1 + 1 + 1 + 1, o4), (L + 1 + 1 + 1, o3), (L + 1 + 1, o2), (L + 1, o1), (D2, tupO [.int ((sa + ((0 : Nat) : Int) * st).fdiv sz) u1, .int ((sa + ((0 : Nat) : Int) * st).fmod sz) u2]), (c51, o51), (c58, o58), (58, T58 c58), (51, T51 c51)] (by lcg_sub) ⟨off1, off2, off3, off4, off5, off6, ⟨Ne.symm a5, Ne.symm a6, Ne.symm a7⟩, ⟨Ne.symm b4, Ne.symm b5, Ne.symm b6⟩, ⟨Ne.symm e3, Ne.symm e4, Ne.symm e5⟩, off7, off8, trivial⟩ trivial
    (.inr ⟨[(D2, tupO [.int ((sa + ((0 : Nat) : Int) * st).fdiv sz) u1, .int ((sa + ((0 : Nat) : Int) * st).fmod sz) u2]), (c51, o51), (c58, o58), (58, T58 c58), (51, T51 c51)], Nat.succ_pos _, rfl, turned_one ⟨⟨c51, o51, v51, q51, by k_mem, by k_mem, CE.d51, CE.e51⟩, ⟨c58, o58, v58, q58, by k_mem, by k_mem, CE.d58, CE.e58⟩⟩ (List.Mem.head _), ?_⟩)
  exact ⟨⟨Ne.symm a8, Ne.symm b7, Ne.symm e6, by k_ne, by k_ne, trivial⟩, ⟨Ne.symm a9, Ne.symm b8, Ne.symm e7, by k_ne, by k_ne, trivial⟩, ⟨Ne.symm a10, Ne.symm b9, Ne.symm e8, by k_ne, by k_ne, trivial⟩, ⟨Ne.symm a11, Ne.symm b10, Ne.symm e9, by k_ne, by k_ne, trivial⟩, ⟨Ne.symm a12, Ne.symm b11, Ne.symm e10, by k_ne, by k_ne, trivial⟩, ⟨Ne.symm a13, Ne.symm b12, Ne.symm e11, by k_ne, by k_ne, trivial⟩⟩
theorem sb_warm {h₀ h h' : Heap} {L : Addr} {m : Str → Option Value} {o1 o2 o3 o4 o5 o6 : Obj} {sz st sa : Int} {I C D D2 : Addr} {oI oC : Obj} {u1 u2 : Tok} {s : Shared} {tk : Nat} {i : Nat} {ys : List Value} {nx : List (Addr × Obj)}
    (F : Fr h₀ L h m) (N : News h₀ L h ((I, oI) :: (C, oC) :: (D, LCg.lst ys) :: (L + 1 + 1 + 1 + 1 + 1 + 1, o6) :: (L + 1 + 1 + 1 + 1 + 1, o5) :: (L + 1 + 1 + 1 + 1, o4) :: (L + 1 + 1 + 1, o3) :: (L + 1 + 1, o2) :: (L + 1, o1) :: nx)) (off : LCg.Off3 I C D ((L + 1 + 1 + 1 + 1 + 1 + 1, o6) :: (L + 1 + 1 + 1 + 1 + 1, o5) :: (L + 1 + 1 + 1 + 1, o4) :: (L + 1 + 1 + 1, o3) :: (L + 1 + 1, o2) :: (L + 1, o1) :: nx)) (hT : Turned sz st sa i ys nx) (hN : CellsNe L nx) (_ : 0 < i) (x : Ext h h') (f : h.get? D2 = none) (g : h'.get? D2 = some (tupO [.int ((sa + (i : Int) * st).fdiv sz) u1, .int ((sa + (i : Int) * st).fmod sz) u2])) :
    LCg.CompEnd h₀ L m s I oI C oC D (LCg.lst ys) (fun _ => True) (fun y nx' => SBJ L o1 o2 o3 o4 o5 o6 sz st sa (i + 1) (ys ++ [y]) nx') (.ref D2) { s with heap := h', toks := tk } := by
  obtain ⟨F2, N2, l1⟩ := after1 F N x f g
  obtain ⟨of1, of2, of3, of4, of5, of6, of7⟩ := off
  obtain ⟨k1, k2, k3, k4, k5, k6, k7, k8, k9, k10⟩ := l1
  obtain ⟨c6, c5, c4, c3, c2, c1⟩ := hN
  refine LCg.CompEnd.intro F2 N2 ((L + 1 + 1 + 1 + 1 + 1 + 1, o6) :: (L + 1 + 1 + 1 + 1 + 1, o5) :: (L + 1 + 1 + 1 + 1, o4) :: (L + 1 + 1 + 1, o3) :: (L + 1 + 1, o2) :: (L + 1, o1) :: (D2, tupO [.int ((sa + (i : Int) * st).fdiv sz) u1, .int ((sa + (i : Int) * st).fmod sz) u2]) :: nx) ?sub ⟨of1, of2, of3, of4, of5, of6, ⟨Ne.symm k1, Ne.symm k2, Ne.symm k3⟩, of7⟩ trivial (.inr ⟨(D2, tupO [.int ((sa + (i : Int) * st).fdiv sz) u1, .int ((sa + (i : Int) * st).fmod sz) u2]) :: nx, Nat.succ_pos _, rfl, hT.snoc (fun p hp => .tail _ hp) (List.Mem.head _), ⟨Ne.symm k4, c6⟩, ⟨Ne.symm k5, c5⟩, ⟨Ne.symm k6, c4⟩, ⟨Ne.symm k7, c3⟩, ⟨Ne.symm k8, c2⟩, ⟨Ne.symm k9, c1⟩⟩)
  (repeat (refine List.forall_mem_cons.mpr ⟨by k_mem, ?_⟩))
  intro p hp
  (repeat (first | exact hp | refine List.Mem.tail _ ?_))

local macro_rules | `(tactic| walk_at "CompSrc") => `(tactic| (refine Stop.mk ?_))
local macro_rules | `(tactic| walk_at "CompEnd") => `(tactic| (refine Stop.mk ?_))
def mc11 : Lean.MacroM Lean.Syntax := `(tactic| (k_here; (with_reducible show wpAny _ _ (call (Value.ref 77) _) _ _ _); refine Stop.mk ?_))
local macro_rules | `(tactic| walk_at "call ref") => mc11
def mc12 : Lean.MacroM Lean.Syntax := `(tactic| (k_here; k_dflt (refine LCg.Assign_ListComp_U (F₀ := by k_asm) (by rfl) (by with_unfolding_all rfl) (by with_unfolding_all rfl) (by decide) (by rfl) (by decide) (by rfl) (by rfl) (by rfl) ?_)))
local macro_rules | `(tactic| walk_at "exec Assign cons ListComp") => mc12
set_option maxHeartbeats 8000000 in
theorem segB {w : World} {p : Program} {loose : List Str} {mean : ExcName → Option Value} {mg mb : Str → Option Value} {dp un : Nat} {fr : Option (List Env)} {gd : Option (List Code)} {s0 : Shared} {Q : Flow → Shared → Prop} {h₀ : Heap} {L fa : Addr} {cd : Value} {m : Str → Option Value} {rest : List Stmt}
    (G : Gd w p loose mean mg mb h₀) (hdp : dp + 100 < recursionLimit) (F : Fr h₀ L s0.heap m)
    {o1 o2 o3 o4 o5 o6 : Obj} {sz sh va mo st sa : Int} {t1 t2 t3 t4 t5 t6 : Tok} (P : Pars sz sh va mo st sa) (N : News h₀ L s0.heap [(L + 1 + 1 + 1 + 1 + 1 + 1, o6), (L + 1 + 1 + 1 + 1 + 1, o5), (L + 1 + 1 + 1 + 1, o4), (L + 1 + 1 + 1, o3), (L + 1 + 1, o2), (L + 1, o1), (58, tabObj #[]), (51, tabObj #[])]) (l0 : @LT.lt Nat _ 58 L ∧ @LT.lt Nat _ 51 L)
    (d1 : o1.data = .cell (some (.int sz t1))) (d2 : o2.data = .cell (some (.int mo t2))) (d3 : o3.data = .cell (some (.int st t3))) (d4 : o4.data = .cell (some (.int sa t4)))
    (hk : ∀ Dt vs nx h' tk, Fr h₀ L h' (fun y => if y = PySem.Str.ofString "turned" then some (.ref Dt) else m y) → News h₀ L h' ((Dt, LCg.lst vs) :: (L + 1 + 1 + 1 + 1 + 1 + 1, o6) :: (L + 1 + 1 + 1 + 1 + 1, o5) :: (L + 1 + 1 + 1 + 1, o4) :: (L + 1 + 1 + 1, o3) :: (L + 1 + 1, o2) :: (L + 1, o1) :: nx) → Turned sz st sa (sz.toNat + 1) vs nx → CellsNe L nx →
      AllNe Dt ((L + 1 + 1 + 1 + 1 + 1 + 1, o6) :: (L + 1 + 1 + 1 + 1 + 1, o5) :: (L + 1 + 1 + 1 + 1, o4) :: (L + 1 + 1 + 1, o3) :: (L + 1 + 1, o2) :: (L + 1, o1) :: nx) → 
      wpAny (model PR w) ((Ar dp un fr gd).deeper (lawEnv L fa cd)) (execs rest (lawEnv L fa cd)) Q (fun _ _ => False) { s0 with heap := h', toks := tk }) :
    wpAny (model PR w) ((Ar dp un fr gd).deeper (lawEnv L fa cd)) (execs (lawSeg 3 1 rest) (lawEnv L fa cd)) Q (fun _ _ => False) s0 := by
  have hz16 := P.z
  have X := G.X
  have T := G.T
  unfold PR; revert X; k_fill; intro X
  refine seg1 (A := fun sc => (Ar dp un fr gd).deeper (envOfC (PySem.Str.ofString "law") sc L fa cd)) (l := lawSeg 3 1 rest) (rest := rest) rfl rfl ?_
  (try dsimp only)
  k_unmd
  (try k_fold)
  k_steps
  unfold Stop
  rename IsRange _ _ _ _ _ _ _ _ => hr
  rename Fr _ _ _ _ => F1
  rename News _ _ _ _ => N1
  refine LCg.CompSrc.range (n := (sz + 1).toNat) rfl F1 N1 hr (small_01 (by omega) (by omega)) (by rw [size_01 (by omega)]; rw [Int.sub_zero]) (by rw [sizeLine_eq]; omega) ?_
  intro g
  clear N1 F1 hr
  refine compRest_ind (SBJ L o1 o2 o3 o4 o5 o6 sz st sa) (.inl ⟨rfl, rfl, rfl⟩) ?turn ?fin
  case fin =>
    intro ys nw hj
    unfold LCg.FinA
    intro D h tk F9 N9 ho
    rcases hj with ⟨e, _⟩ | ⟨nx, _, rfl, hT, hN⟩
    · exfalso; omega
    · refine hk D ys nx h tk F9 N9 (by rw [show sz.toNat + 1 = (sz + 1).toNat by omega]; exact hT) hN (allNe_off1 ho)
  case turn =>
    intro i ys nw v I oI C oC D m₂ h tk E' hi hv hj hC hx F N off ne
    obtain ⟨tv, rfl⟩ := hv
    have hb := walk_bd (i := 0 + (i : Int)) P.z P.t0 P.t1 P.a0 P.a1 (by omega) (by omega)
    rw [Int.zero_add] at hx hb
    rcases hj with ⟨rfl, rfl, rfl⟩ | ⟨nx, hi0, rfl, hT, hN⟩
    · k_steps
      unfold Stop
      have hc16 : sa + ((0 : Nat) : Int) * st < 16 := by have := P.a1; simp; omega
      refine wpAny_call ?_
      have hE : Ext h₀ h := F.keep
      have h51 := N.get (List.Mem.tail _ (List.Mem.tail _ (List.Mem.tail _ (List.Mem.tail _ (List.Mem.tail _ (List.Mem.tail _ (List.Mem.tail _ (List.Mem.tail _ (List.Mem.tail _ (List.Mem.tail _ (List.Mem.head _)))))))))))
      have h58 := N.get (List.Mem.tail _ (List.Mem.tail _ (List.Mem.tail _ (List.Mem.tail _ (List.Mem.tail _ (List.Mem.tail _ (List.Mem.tail _ (List.Mem.tail _ (List.Mem.tail _ (List.Mem.head _))))))))))
      k_dflt (refine' idmc G ?e ?a ?b ?room P.z hb.1 hc16 ?_; (case e => exact hE); (case a => exact h51); (case b => exact h58))
      case room => k_room
      intro D2 u1 u2 h' tk' c51 o51 v51 q51 c58 o58 v58 q58 CE
      exact sb_cold F N off l0 P.z CE
    · (try simp only [List.cons_append, List.nil_append] at N off)
      k_steps
      unfold Stop
      refine wpAny_call ?_
      have hE : Ext h₀ h := F.keep
      have hW : Filled h := hT.tail.filled (fun p hp => (N p (.tail _ (.tail _ (.tail _ (.tail _ (.tail _ (.tail _ (.tail _ (.tail _ (.tail _ hp)))))))))).1)
      have hlo : -256 ≤ sa + (i : Int) * st := by omega
      k_dflt (refine' idm_any G ?e ?f ?room P.z hlo hb.2 ?_; (case e => exact hE); (case f => exact hW))
      case room => k_room
      intro D2 u1 u2 h' tk' x f g
      exact sb_warm F N off hT hN hi0 x f g
end
section
theorem rs45 : True := by
  w_top off
  exact trivial
local macro_rules | `(tactic| walk_at "call builtin:str.join") => `(tactic| refine Stop.mk ?_)
local macro_rules | `(tactic| walk_at "binaryOp Mult str int") => `(tactic| refine Stop.mk ?_)
set_option maxHeartbeats 8000000 in
theorem seg6 {w : World} {p : Program} {loose : List Str} {mean : ExcName → Option Value} {mg mb : Str → Option Value} {dp un : Nat} {fr : Option (List Env)} {gd : Option (List Code)} {s0 : Shared} {Q : Flow → Shared → Prop} {h₀ : Heap} {L fa : Addr} {cd : Value} {m : Str → Option Value} {rest : List Stmt}
    (G : Gd w p loose mean mg mb h₀) (hdp : dp + 100 < recursionLimit) (F : Fr h₀ L s0.heap m)
    {o1 o2 o3 o4 o5 o6 : Obj} {sz sh va mo st sa : Int} {t1 t2 t3 t4 t5 t6 : Tok} (P : Pars sz sh va mo st sa) {vss vsi : List Value} {cs ci : Nat} {nx : List (Addr × Obj)} {Ds Di : Addr} {vsl : List Value} {cl : Nat} {Dl : Addr} (N : News h₀ L s0.heap ((Dl, W.listOf (List.toArray vsl) cl) :: (Di, W.listOf (List.toArray vsi) ci) :: (Ds, W.listOf (List.toArray vss) cs) :: (L + 1 + 1 + 1 + 1 + 1 + 1, o6) :: (L + 1 + 1 + 1 + 1 + 1, o5) :: (L + 1 + 1 + 1 + 1, o4) :: (L + 1 + 1 + 1, o3) :: (L + 1 + 1, o2) :: (L + 1, o1) :: nx)) (d1 : o1.data = .cell (some (.int sz t1))) (d2 : o2.data = .cell (some (.int mo t2))) (d3 : o3.data = .cell (some (.int st t3))) (d4 : o4.data = .cell (some (.int sa t4))) (d6 : o6.data = .cell none) (hN : CellsNe L nx)
    (hDl : AllNe Dl ((Di, W.listOf (List.toArray vsi) ci) :: (Ds, W.listOf (List.toArray vss) cs) :: (L + 1 + 1 + 1 + 1 + 1 + 1, o6) :: (L + 1 + 1 + 1 + 1 + 1, o5) :: (L + 1 + 1 + 1 + 1, o4) :: (L + 1 + 1 + 1, o3) :: (L + 1 + 1, o2) :: (L + 1, o1) :: nx)) (hDi : AllNe Di ((L + 1 + 1 + 1 + 1 + 1 + 1, o6) :: (L + 1 + 1 + 1 + 1 + 1, o5) :: (L + 1 + 1 + 1 + 1, o4) :: (L + 1 + 1 + 1, o3) :: (L + 1 + 1, o2) :: (L + 1, o1) :: nx)) (hDs : AllNe Ds ((L + 1 + 1 + 1 + 1 + 1 + 1, o6) :: (L + 1 + 1 + 1 + 1 + 1, o5) :: (L + 1 + 1 + 1 + 1, o4) :: (L + 1 + 1 + 1, o3) :: (L + 1 + 1, o2) :: (L + 1, o1) :: nx))
    (m1 : m (PySem.Str.ofString "letters") = some (.ref Dl)) (m2 : m (PySem.Str.ofString "images") = some (.ref Di)) (ic : StrsAre vsl ((List.range sz.toNat).map (letV sz st sa)))
    (hk : ∀ Dg o6' cg te tt h' tk m', Fr h₀ L h' m' → News h₀ L h' ((Dg, W.listOf (List.toArray [.str (sv []) te]) cg) :: (Di, W.listOf (List.toArray vsi) ci) :: (Ds, W.listOf (List.toArray vss) cs) :: (L + 1 + 1 + 1 + 1 + 1 + 1, o6') :: (L + 1 + 1 + 1 + 1 + 1, o5) :: (L + 1 + 1 + 1 + 1, o4) :: (L + 1 + 1 + 1, o3) :: (L + 1 + 1, o2) :: (L + 1, o1) :: nx) → o6'.data = .cell (some (.str (txV sz st sa) tt)) → AllNe Dg ((Di, W.listOf (List.toArray vsi) ci) :: (Ds, W.listOf (List.toArray vss) cs) :: (L + 1 + 1 + 1 + 1 + 1 + 1, o6) :: (L + 1 + 1 + 1 + 1 + 1, o5) :: (L + 1 + 1 + 1 + 1, o4) :: (L + 1 + 1 + 1, o3) :: (L + 1 + 1, o2) :: (L + 1, o1) :: nx) →
      m' (PySem.Str.ofString "grown") = some (.ref Dg) → m' (PySem.Str.ofString "images") = some (.ref Di) → wpAny (model PR w) ((Ar dp un fr gd).deeper (lawEnv L fa cd)) (execs rest (lawEnv L fa cd)) Q (fun _ _ => False) { s0 with heap := h', toks := tk }) :
    wpAny (model PR w) ((Ar dp un fr gd).deeper (lawEnv L fa cd)) (execs (lawSeg 6 1 rest) (lawEnv L fa cd)) Q (fun _ _ => False) s0 := by
  have hz16 := P.z
  obtain ⟨PN, ez, et, ea, em⟩ := P.nat
  obtain ⟨cn6, cn5, cn4, cn3, cn2, cn1⟩ := hN
  have el : ((List.range sz.toNat).map (letV sz st sa)).length = sz.toNat := by simp
  have hn16 : sz.toNat ≤ 16 := by rcases PN.z with h | h <;> omega
  have hn0 : 0 < sz.toNat := by rcases PN.z with h | h <;> omega
  have eJ : Txt.join (PySem.Str.ofString "") ((List.range sz.toNat).map (letV sz st sa)) = sv (Wn sz.toNat st.toNat sz.toNat sa.toNat) := by
    have := join_letters (n := sz.toNat) (st := st.toNat) (sa := sa.toNat) (Nat.le_of_lt PN.t1)
    rw [← ez, ← et, ← ea] at this
    exact this
  have X := G.X
  have T := G.T
  unfold PR; revert X; k_fill; intro X
  refine segN (A := fun sc => (Ar dp un fr gd).deeper (envOfC (PySem.Str.ofString "law") sc L fa cd)) (l := lawSeg 6 1 rest) (l' := _ :: rest) rfl rfl ?_
  (try dsimp only)
  k_unmd
  (try k_fold)
  k_steps
  unfold Stop
  rename Fr _ _ _ _ => F1
  rename News _ _ _ _ => N1
  refine join_list (list_news N1 (List.Mem.head _)) ic (lets_fit hn16) fun t1' k1' => ?_
  rw [eJ]
  k_steps
  unfold Stop
  refine SB.mul (mulOk2 hn16) fun t2' k2' => ?_
  rw [twice_text hn0]
  k_steps
  rename Fr _ _ _ _ => F2
  rename News _ _ _ _ => N2
  fail "lt&"
  rename @LT.lt _ _ Dl _ ∧ _ => k1
  rename _ ∧ @LT.lt _ _ Dl _ ∧ _ => k2
  refine storeX_C F2 N2 (c := L + 1 + 1 + 1 + 1 + 1 + 1) rfl (.tail (Nat.ne_of_gt k2.2.2.2.2.1) (.tail (Nat.ne_of_gt k1.2.2.2.1) (.tail (Ne.symm hDl.2.2.1) (.tail (Ne.symm hDi.1) (.tail (Ne.symm hDs.1) (.head (allNe_mem (cells_off6 cn6)))))))) d6 ?_ rfl rfl
  intro h3' o6' F3 N3 d6'
  (try dsimp only at N3)
  clear F2 N2
  k_steps
  rename Fr _ _ _ _ => F9
  rename News _ _ _ _ => N9
  rw [ofStr_nil] at N9
  exact hk _ _ _ _ _ _ _ _ F9 (news_bd N9) d6' (allNe_lt ⟨k1.2.1, k1.2.2.1, k1.2.2.2⟩) rfl m2
end
section
theorem rs46 : True := by
  w_top off
  exact trivial
def mc13 : Lean.MacroM Lean.Syntax := `(tactic| (k_here; k_dflt (refine' addS ?as_x ?as_y ?as_l ?_; (case as_x => first | exact dots_eq | exact rfl); (case as_y => first | exact dots_eq | exact rfl); (case as_l => (simp only [List.length_append, List.length_cons, List.length_nil]; omega)); k_whole); intro t' k'))
local macro_rules | `(tactic| walk_at "binaryOp Add str str") => mc13
local macro_rules | `(tactic| walk_at "exec Assign cons ListComp") => `(tactic| fail)
local macro_rules | `(tactic| walk_at "call ref") => mc8
set_option maxHeartbeats 8000000 in
theorem turn7a {w : World} {p : Program} {loose : List Str} {mean : ExcName → Option Value} {mg mb : Str → Option Value} {dp un : Nat} {fr : Option (List Env)} {gd : Option (List Code)} {s0 : Shared} {Q : Flow → Shared → Prop} {h₀ : Heap} {L fa : Addr} {cd : Value} {m : Str → Option Value} {rest : List Stmt}
    (G : Gd w p loose mean mg mb h₀) (hdp : dp + 100 < recursionLimit) (F : Fr h₀ L s0.heap m)
    {o1 o2 o3 o4 o5 o6 : Obj} {sz sh va mo st sa : Int} {t1 t2 t3 t4 t5 t6 : Tok} (P : Pars sz sh va mo st sa) {vss vsi : List Value} {cs ci : Nat} {nx : List (Addr × Obj)} {Ds Di : Addr} {gv : List Value} {cg i : Nat} {Dg I : Addr} {oI : Obj} {tt : Tok} (N : News h₀ L s0.heap ((I, oI) :: (Dg, W.listOf (List.toArray gv) cg) :: (Di, W.listOf (List.toArray vsi) ci) :: (Ds, W.listOf (List.toArray vss) cs) :: (L + 1 + 1 + 1 + 1 + 1 + 1, o6) :: (L + 1 + 1 + 1 + 1 + 1, o5) :: (L + 1 + 1 + 1 + 1, o4) :: (L + 1 + 1 + 1, o3) :: (L + 1 + 1, o2) :: (L + 1, o1) :: nx)) (d1 : o1.data = .cell (some (.int sz t1))) (d2 : o2.data = .cell (some (.int mo t2))) (d3 : o3.data = .cell (some (.int st t3))) (d4 : o4.data = .cell (some (.int sa t4))) (d6 : o6.data = .cell (some (.str (txV sz st sa) tt)))
    (m1 : m (PySem.Str.ofString "grown") = some (.ref Dg)) (hi : i < mo.toNat) (ig : StrsAre gv ((Gr sz.toNat st.toNat i).map sv))
    (hk : ∀ ys D h' tk, StrsAre ys ((Gr sz.toNat st.toNat (i + 1)).map sv) → Fr h₀ L h' (fun q => if q = (PySem.Str.ofString "grown") then some (.ref D) else m q) → News h₀ L h' ((D, LCg.lst ys) :: (I, oI) :: (Dg, W.listOf (List.toArray gv) cg) :: (Di, W.listOf (List.toArray vsi) ci) :: (Ds, W.listOf (List.toArray vss) cs) :: (L + 1 + 1 + 1 + 1 + 1 + 1, o6) :: (L + 1 + 1 + 1 + 1 + 1, o5) :: (L + 1 + 1 + 1 + 1, o4) :: (L + 1 + 1 + 1, o3) :: (L + 1 + 1, o2) :: (L + 1, o1) :: nx) → AllNe D ((I, oI) :: (Dg, W.listOf (List.toArray gv) cg) :: (Di, W.listOf (List.toArray vsi) ci) :: (Ds, W.listOf (List.toArray vss) cs) :: (L + 1 + 1 + 1 + 1 + 1 + 1, o6) :: (L + 1 + 1 + 1 + 1 + 1, o5) :: (L + 1 + 1 + 1 + 1, o4) :: (L + 1 + 1 + 1, o3) :: (L + 1 + 1, o2) :: (L + 1, o1) :: nx) → wpAny (model PR w) ((Ar dp un fr gd).deeper (lawEnv L fa cd)) (execs rest (lawEnv L fa cd)) Q (fun _ _ => False) { s0 with heap := h', toks := tk }) :
    wpAny (model PR w) ((Ar dp un fr gd).deeper (lawEnv L fa cd)) (execs (lawForSeg 7 0 1 rest) (lawEnv L fa cd)) Q (fun _ _ => False) s0 := by
  obtain ⟨PN, ez, et, ea, em⟩ := P.nat
  have hi6 : i ≤ 6 := by have := PN.m7; omega
  have hgl := gr_len PN (show i ≤ 7 by omega)
  have hgv : gv.length = i + 1 := by rw [ig.length, List.length_map, hgl]
  have X := G.X
  have T := G.T
  unfold PR; revert X; k_fill; intro X
  refine segN (A := fun sc => (Ar dp un fr gd).deeper (envOfC (PySem.Str.ofString "law") sc L fa cd)) (l := lawForSeg 7 0 1 rest) (l' := _ :: rest) rfl rfl ?_
  (try dsimp only)
  k_unmd
  (try k_fold)
  k_steps
  refine' comp_two (h₀ := h₀) (m := m) (its := gv.toArray) (n0 := cg) (ax := Dg) (ab := PySem.Str.ofString "ab") (news := (I, oI) :: (Dg, W.listOf (List.toArray gv) cg) :: (Di, W.listOf (List.toArray vsi) ci) :: (Ds, W.listOf (List.toArray vss) cs) :: (L + 1 + 1 + 1 + 1 + 1 + 1, o6) :: (L + 1 + 1 + 1 + 1 + 1, o5) :: (L + 1 + 1 + 1 + 1, o4) :: (L + 1 + 1 + 1, o3) :: (L + 1 + 1, o2) :: (L + 1, o1) :: nx) (GK sz.toNat st.toNat i) rfl ?c2_sw rfl rfl ?c2_cell rfl ?c2_nm rfl rfl ?c2_ne rfl rfl ?c2_sz ?c2_ab ?c2_asc ?c2_it ?c2_m ?c2_J ?c2_len ?c2_next ?c2_it1 ?c2_turn ?c2_fin
  case c2_sw => with_unfolding_all rfl
  case c2_cell => decide
  case c2_nm => decide
  case c2_ne => decide
  case c2_ab => decide +kernel
  case c2_asc => decide +kernel
  case c2_m => exact .tail _ (.head _)
  case c2_sz => rw [List.size_toArray]; omega
  case c2_J => exact GK_0 _ _ _
  case c2_len =>
    intro i' j ys h1 h2 h3
    rw [List.size_toArray, hgv] at h1
    have := grow_le sz.toNat st.toNat i i' j (by rw [hgl]; exact h1)
    rw [hgl] at this
    rw [h3.length, List.length_map]
    omega
  case c2_next =>
    intro i' ys h1 h2
    rw [List.size_toArray, hgv] at h1
    exact GK_next (by rw [hgl]; exact h1) h2
  case c2_it1 =>
    intro C s Q E hq
    k_steps
    exact hq _ _
  case c2_it =>
    k_steps
    all_goals first | exact F | exact N
  case c2_fin =>
    intro ys D h tk hK F' N' l'
    rw [List.size_toArray, hgv, ← hgl] at hK
    exact hk ys D h tk (GK_end hK) F' N' l'
  case c2_turn =>
    intro i' j v c t ys h tk JA I' C D oJ oI' oC m₂ E' hv hj hc hK hC hx hy Fi Ni
    obtain ⟨tw, wd, hw, rfl⟩ : ∃ tw wd, (Gr sz.toNat st.toNat i)[i']? = some wd ∧ v = .str (sv wd) tw := by
      obtain ⟨p, t, e, hp⟩ := ig.item i' v (by simpa using hv)
      rw [List.getElem?_map] at hp
      cases q : (Gr sz.toNat st.toNat i)[i']? with
      | none => rw [q] at hp; cases hp
      | some w => rw [q] at hp; cases hp; exact ⟨t, w, rfl, e⟩
    have hc2 := ab_at hc
    have hwl : wd.length = i := Gr_len (List.mem_of_getElem? hw)
    clear hv hc ig
    have hcc := ab_or hc2
    have h46 := no46 (List.mem_of_getElem? hw) hcc
    k_steps
    unfold Stop
    rename Fr _ _ _ _ => F3
    rename News _ _ _ _ => N3
    refine wpAny_call ?_
    rw [show (46 :: 46 :: 46 :: (wd ++ [c] ++ dots)) = dots ++ (wd ++ [c]) ++ dots from rfl]
    have lu : (wd ++ [c]).length = i + 1 := by rw [List.length_append, hwl]; rfl
    k_dflt (refine' ell_any G ?e_k ?e_room (has3 (wd ++ [c])) ?e_sz ?e_gz (split3 h46) ?e_z0 ?e_z1 ?e_zr ?e_rl ?_; (case e_k => exact F3.keep); (case e_room => k_room))
    case e_sz => exact sl_le (by rw [sv_len, List.length_append, List.length_append, lu]; show 3 + (i + 1) + 3 ≤ _; omega)
    case e_gz => rw [txV, sv_len, Wn_len]; have := PN.z; omega
    case e_z0 => rw [sv_len]; exact Nat.zero_le _
    case e_z1 => rw [sv_len, lu]; omega
    case e_zr => intro q hq; rw [List.mem_singleton.mp hq, sv_len]; exact Nat.zero_le _
    case e_rl => decide
    intro b h4' tk4 eb x4
    obtain ⟨F4, N4⟩ := after0 F3 N3 x4
    clear x4 F3 N3
    have eb2 := eb.trans (grow_test PN hwl (by omega : i + 1 ≤ 7) (c := c))
    clear eb
    (try dsimp only)
    cases hq : (wins sz.toNat st.toNat (i + 1)).contains (wd ++ [c])
    · rw [hq] at eb2
      subst eb2
      k_steps
      rename Fr _ _ _ _ => F5
      rename News _ _ _ _ => N5
      exact eltOut F5 N5 (fun p hp => hp) (GK_no hw hc2 hq hK)
    · rw [hq] at eb2
      subst eb2
      k_steps
      rename Fr _ _ _ _ => F5
      rename News _ _ _ _ => N5
      exact eltOut F5 N5 (fun p hp => hp) (GK_yes hw hc2 hq hK)
end
section
theorem rs47 : True := by
  w_top off
  exact trivial
def mc14 : Lean.MacroM Lean.Syntax := `(tactic| ((with_reducible show wpAny _ _ (subscriptTail _ (Expr.Slice none none (some _) _) _ _) _ _ _); (with_reducible rename Fr _ _ _ _ => F'); (with_reducible rename News _ _ _ _ => N'); (refine' revS (s := ⟨_, _, _, _, _⟩) F' N' ?rs_l ?_); (case rs_l => omega); intro _ _ _ _ _))
local macro_rules | `(tactic| walk_at "subscriptTail Name Slice str ref") => mc14
local macro_rules | `(tactic| walk_at "CompSrc") => `(tactic| (refine Stop.mk ?_))
local macro_rules | `(tactic| walk_at "CompEnd") => `(tactic| (refine Stop.mk ?_))
local macro_rules | `(tactic| walk_at "exec Assign cons ListComp") => mc12
local macro_rules | `(tactic| walk_at "call ref") => mc8
set_option maxHeartbeats 8000000 in
theorem turn7b {w : World} {p : Program} {loose : List Str} {mean : ExcName → Option Value} {mg mb : Str → Option Value} {dp un : Nat} {fr : Option (List Env)} {gd : Option (List Code)} {s0 : Shared} {Q : Flow → Shared → Prop} {h₀ : Heap} {L fa : Addr} {cd : Value} {m : Str → Option Value} {rest : List Stmt}
    (G : Gd w p loose mean mg mb h₀) (hdp : dp + 100 < recursionLimit) (F : Fr h₀ L s0.heap m)
    {o1 o2 o3 o4 o5 o6 : Obj} {sz sh va mo st sa : Int} {t1 t2 t3 t4 t5 t6 : Tok} (P : Pars sz sh va mo st sa) {vss vsi : List Value} {cs ci : Nat} {nx : List (Addr × Obj)} {Ds Di : Addr} {gv : List Value} {cg i : Nat} {Dg I : Addr} {oI : Obj} (N : News h₀ L s0.heap ((I, oI) :: (Dg, W.listOf (List.toArray gv) cg) :: (Di, W.listOf (List.toArray vsi) ci) :: (Ds, W.listOf (List.toArray vss) cs) :: (L + 1 + 1 + 1 + 1 + 1 + 1, o6) :: (L + 1 + 1 + 1 + 1 + 1, o5) :: (L + 1 + 1 + 1 + 1, o4) :: (L + 1 + 1 + 1, o3) :: (L + 1 + 1, o2) :: (L + 1, o1) :: nx))
    (m1 : m (PySem.Str.ofString "grown") = some (.ref Dg)) (hi : i < mo.toNat) (ig : StrsAre gv ((Gr sz.toNat st.toNat (i + 1)).map sv))
    (hk : ∀ Da h' tk, Fr h₀ L h' (fun q => if q = (PySem.Str.ofString "alike") then some (.ref Da) else m q) → News h₀ L h' ((Da, LCg.lst (((Gr sz.toNat st.toNat (i + 1)).map fun w => .bool (w == w.reverse)))) :: (I, oI) :: (Dg, W.listOf (List.toArray gv) cg) :: (Di, W.listOf (List.toArray vsi) ci) :: (Ds, W.listOf (List.toArray vss) cs) :: (L + 1 + 1 + 1 + 1 + 1 + 1, o6) :: (L + 1 + 1 + 1 + 1 + 1, o5) :: (L + 1 + 1 + 1 + 1, o4) :: (L + 1 + 1 + 1, o3) :: (L + 1 + 1, o2) :: (L + 1, o1) :: nx) → wpAny (model PR w) ((Ar dp un fr gd).deeper (lawEnv L fa cd)) (execs rest (lawEnv L fa cd)) Q (fun _ _ => False) { s0 with heap := h', toks := tk }) :
    wpAny (model PR w) ((Ar dp un fr gd).deeper (lawEnv L fa cd)) (execs (lawForSeg 7 1 1 rest) (lawEnv L fa cd)) Q (fun _ _ => False) s0 := by
  obtain ⟨PN, ez, et, ea, em⟩ := P.nat
  have hi6 : i ≤ 6 := by have := PN.m7; omega
  have hgl := gr_len PN (show i + 1 ≤ 7 by omega)
  have hgv : gv.length = i + 2 := by rw [ig.length, List.length_map, hgl]
  have X := G.X
  have T := G.T
  unfold PR; revert X; k_fill; intro X
  refine segN (A := fun sc => (Ar dp un fr gd).deeper (envOfC (PySem.Str.ofString "law") sc L fa cd)) (l := lawForSeg 7 1 1 rest) (l' := _ :: rest) rfl rfl ?_
  (try dsimp only)
  k_unmd
  (try k_fold)
  k_steps
  unfold Stop
  rename Fr _ _ _ _ => F1
  rename News _ _ _ _ => N1
  refine LCg.CompSrc.ledger (its := List.toArray gv) (k := cg) rfl F1 N1 (.tail _ (.head _)) (by rw [List.size_toArray]; rw [hgv]; exact Nat.le_trans (show i + 2 ≤ 8 by omega) (by decide)) ?_
  intro g
  refine compRest_ind (fun j ys nw => nw = (I, oI) :: (Dg, W.listOf (List.toArray gv) cg) :: (Di, W.listOf (List.toArray vsi) ci) :: (Ds, W.listOf (List.toArray vss) cs) :: (L + 1 + 1 + 1 + 1 + 1 + 1, o6) :: (L + 1 + 1 + 1 + 1 + 1, o5) :: (L + 1 + 1 + 1 + 1, o4) :: (L + 1 + 1 + 1, o3) :: (L + 1 + 1, o2) :: (L + 1, o1) :: nx ∧ ys = ((Gr sz.toNat st.toNat (i + 1)).take j).map fun w => .bool (w == w.reverse)) ⟨rfl, rfl⟩ ?turn ?fin
  case fin =>
    rintro ys nw ⟨rfl, rfl⟩
    unfold LCg.FinA
    intro D h tk F9 N9 ho
    rw [List.size_toArray, hgv, ← hgl, List.take_length] at N9
    exact hk D h tk F9 N9
  case turn =>
    rintro j ys nw v I' oI' C oC D m₂ h tk E' hj hv ⟨rfl, rfl⟩ hC hx F N off ne
    obtain ⟨tw, wd, hw, rfl⟩ : ∃ tw wd, (Gr sz.toNat st.toNat (i + 1))[j]? = some wd ∧ v = .str (sv wd) tw := by
      obtain ⟨p, t, e, hp⟩ := ig.item j v (by simpa using hv)
      rw [List.getElem?_map] at hp
      cases q : (Gr sz.toNat st.toNat (i + 1))[j]? with
      | none => rw [q] at hp; cases hp
      | some w => rw [q] at hp; cases hp; exact ⟨t, w, rfl, e⟩
    have hwl : wd.length = i + 1 := Gr_len (List.mem_of_getElem? hw)
    have h46 := no46w (List.mem_of_getElem? hw)
    clear hv ig
    k_steps
    unfold Stop
    rename Fr _ _ _ _ => F3
    rename News _ _ _ _ => N3
    refine wpAny_call ?_
    k_dflt (refine' ell_no G ?e_k ?e_room (no_dotsS h46) ?_; (case e_k => exact F3.keep); (case e_room => k_room))
    intro h4' tk4 x4
    obtain ⟨F4, N4⟩ := after0 F3 N3 x4
    clear x4 F3 N3
    (try dsimp only)
    k_steps
    unfold Stop
    exact LCg.CompEnd.intro F4 N4 _ (fun p hp => hp) off (.inr ⟨_, .tail _ (.head _), rfl, _, rfl⟩) ⟨rfl, pal_take hw⟩
end
section
theorem rs48 : True := by
  w_top off
  exact trivial
local macro_rules | `(tactic| walk_at "subscriptTail Name Slice str ref") => mc14
local macro_rules | `(tactic| walk_at "compareOp NotEq int int") => `(tactic| refine ne_yes (by with_reducible assumption) ?_)
local macro_rules | `(tactic| walk_at "CompSrcT") => `(tactic| (refine Stop.mk ?_))
local macro_rules | `(tactic| walk_at "CompEnd") => `(tactic| (refine Stop.mk ?_))
local macro_rules | `(tactic| walk_at "eval ListComp") => `(tactic| (k_here; k_dflt (refine LCt.ListComp_T (F₀ := by k_asm) (by with_unfolding_all rfl) (by decide) (by rfl) (by decide) (by rfl) ?_)))
local macro_rules | `(tactic| walk_at "call builtin:len") => `(tactic| (k_here; (with_reducible show wpAny _ _ (call (Value.builtin "len") [Value.ref _]) _ _ _); k_dflt (refine' lenL ?ll_N ?ll_m ?ll_z ?_; (case ll_N => k_asm); (case ll_m => k_mem); (case ll_z => assumption); k_whole)))
local macro_rules | `(tactic| walk_at "call ref") => mc8
set_option maxHeartbeats 8000000 in
theorem turn7c {w : World} {p : Program} {loose : List Str} {mean : ExcName → Option Value} {mg mb : Str → Option Value} {dp un : Nat} {fr : Option (List Env)} {gd : Option (List Code)} {s0 : Shared} {Q : Flow → Shared → Prop} {h₀ : Heap} {L fa : Addr} {cd : Value} {m : Str → Option Value} {rest : List Stmt}
    (G : Gd w p loose mean mg mb h₀) (hdp : dp + 100 < recursionLimit) (F : Fr h₀ L s0.heap m)
    {o1 o2 o3 o4 o5 o6 : Obj} {sz sh va mo st sa : Int} {t1 t2 t3 t4 t5 t6 : Tok} (P : Pars sz sh va mo st sa) {vss vsi : List Value} {cs ci : Nat} {nx : List (Addr × Obj)} {Ds Di : Addr} {gv : List Value} {cg i : Nat} {Dg Da I : Addr} {oI : Obj} {tl : Tok} (N : News h₀ L s0.heap ((Da, LCg.lst (((Gr sz.toNat st.toNat (i + 1)).map fun w => .bool (w == w.reverse)))) :: (I, oI) :: (Dg, W.listOf (List.toArray gv) cg) :: (Di, W.listOf (List.toArray vsi) ci) :: (Ds, W.listOf (List.toArray vss) cs) :: (L + 1 + 1 + 1 + 1 + 1 + 1, o6) :: (L + 1 + 1 + 1 + 1 + 1, o5) :: (L + 1 + 1 + 1 + 1, o4) :: (L + 1 + 1 + 1, o3) :: (L + 1 + 1, o2) :: (L + 1, o1) :: nx))
    (m1 : m (PySem.Str.ofString "grown") = some (.ref Dg)) (m2 : m (PySem.Str.ofString "alike") = some (.ref Da)) (m3 : m (PySem.Str.ofString "length") = some (.int (1 + (i : Int)) tl)) (hi : i < mo.toNat) (hgv : gv.length = i + 2)
    (hk : ∀ h' tk, Fr h₀ L h' m → News h₀ L h' ((Da, LCg.lst (((Gr sz.toNat st.toNat (i + 1)).map fun w => .bool (w == w.reverse)))) :: (I, oI) :: (Dg, W.listOf (List.toArray gv) cg) :: (Di, W.listOf (List.toArray vsi) ci) :: (Ds, W.listOf (List.toArray vss) cs) :: (L + 1 + 1 + 1 + 1 + 1 + 1, o6) :: (L + 1 + 1 + 1 + 1 + 1, o5) :: (L + 1 + 1 + 1 + 1, o4) :: (L + 1 + 1 + 1, o3) :: (L + 1 + 1, o2) :: (L + 1, o1) :: nx) → wpAny (model PR w) ((Ar dp un fr gd).deeper (lawEnv L fa cd)) (execs rest (lawEnv L fa cd)) Q (fun _ _ => False) { s0 with heap := h', toks := tk }) :
    wpAny (model PR w) ((Ar dp un fr gd).deeper (lawEnv L fa cd)) (execs (lawForSeg 7 2 1 rest) (lawEnv L fa cd)) Q (fun _ _ => False) s0 := by
  obtain ⟨PN, ez, et, ea, em⟩ := P.nat
  have hi6 : i ≤ 6 := by have := PN.m7; omega
  have hgl := gr_len PN (show i + 1 ≤ 7 by omega)
  have hpal := gr_pal PN (show 1 ≤ i + 1 by omega) (show i + 1 ≤ 7 by omega)
  have X := G.X
  have T := G.T
  unfold PR; revert X; k_fill; intro X
  refine segN (A := fun sc => (Ar dp un fr gd).deeper (envOfC (PySem.Str.ofString "law") sc L fa cd)) (l := lawForSeg 7 2 1 rest) (l' := _ :: rest) rfl rfl ?_
  (try dsimp only)
  k_unmd
  (try k_fold)
  have hzg : gv.length ≤ 1000 := by omega
  have hz1 : (((Gr sz.toNat st.toNat (i + 1)).filter fun w => w == w.reverse).map fun _ => Value.bool true).length ≤ 1000 := by rw [List.length_map, hpal.1]; omega
  have hz2 : (((Gr sz.toNat st.toNat (i + 1)).filter fun w => !(w == w.reverse)).map fun _ => Value.bool false).length ≤ 1000 := by rw [List.length_map, hpal.2]; omega
  have q0 : (gv.length : Int) = 1 + (i : Int) + 1 := by rw [hgv]; omega
  have q1 : (((((Gr sz.toNat st.toNat (i + 1)).filter fun w => w == w.reverse).map fun _ => Value.bool true).length : Nat) : Int) = 1 + (1 + (i : Int)).fmod 2 := by rw [List.length_map, hpal.1, Int.fmod_eq_emod_of_nonneg _ (by decide)]; omega
  have q2 : (((((Gr sz.toNat st.toNat (i + 1)).filter fun w => !(w == w.reverse)).map fun _ => Value.bool false).length : Nat) : Int) = 1 + (i : Int) - (1 + (i : Int)).fmod 2 := by rw [List.length_map, hpal.2, Int.fmod_eq_emod_of_nonneg _ (by decide)]; omega
  k_steps
  unfold Stop
  rename Fr _ _ _ _ => F1
  rename News _ _ _ _ => N1
  have N1' : News h₀ L _ ((Da, LCg.lst (((Gr sz.toNat st.toNat (i + 1)).map fun w => .bool (w == w.reverse)))) :: (I, oI) :: (Dg, W.listOf (List.toArray gv) cg) :: (Di, W.listOf (List.toArray vsi) ci) :: (Ds, W.listOf (List.toArray vss) cs) :: (L + 1 + 1 + 1 + 1 + 1 + 1, o6) :: (L + 1 + 1 + 1 + 1 + 1, o5) :: (L + 1 + 1 + 1 + 1, o4) :: (L + 1 + 1 + 1, o3) :: (L + 1 + 1, o2) :: (L + 1, o1) :: nx) := fun q hq => N1 q (hq)
  refine LCt.CompSrcT.ledger (its := List.toArray ((Gr sz.toNat st.toNat (i + 1)).map fun w => (Value.bool (w == w.reverse)))) (k := ((Gr sz.toNat st.toNat (i + 1)).map fun w => (Value.bool (w == w.reverse))).length) rfl F1 N1' (.head _) (by rw [List.size_toArray, List.length_map, hgl]; exact Nat.le_trans (show i + 1 + 1 ≤ 8 by omega) (by decide)) ?_
  clear N1
  intro g1
  refine compRestT_ind (fun j ys nw => nw = (Da, LCg.lst (((Gr sz.toNat st.toNat (i + 1)).map fun w => .bool (w == w.reverse)))) :: (I, oI) :: (Dg, W.listOf (List.toArray gv) cg) :: (Di, W.listOf (List.toArray vsi) ci) :: (Ds, W.listOf (List.toArray vss) cs) :: (L + 1 + 1 + 1 + 1 + 1 + 1, o6) :: (L + 1 + 1 + 1 + 1 + 1, o5) :: (L + 1 + 1 + 1 + 1, o4) :: (L + 1 + 1 + 1, o3) :: (L + 1 + 1, o2) :: (L + 1, o1) :: nx ∧ ys = (((Gr sz.toNat st.toNat (i + 1)).take j).filter (fun w => w == w.reverse)).map fun _ => .bool true) ⟨rfl, rfl⟩ ?turn1 ?fin1
  case turn1 =>
    rintro j ys nw v I' oI' C oC D m₂ h tk E' hj hv ⟨rfl, rfl⟩ hC hx F N off ne
    obtain ⟨wd, hw, rfl⟩ : ∃ wd, (Gr sz.toNat st.toNat (i + 1))[j]? = some wd ∧ v = .bool (wd == wd.reverse) := by
      have hv' : (((Gr sz.toNat st.toNat (i + 1)).map fun w => (Value.bool (w == w.reverse))))[j]? = some v := by simpa using hv
      rw [List.getElem?_map] at hv'
      cases q : (Gr sz.toNat st.toNat (i + 1))[j]? with
      | none => rw [q] at hv'; cases hv'
      | some w => rw [q] at hv'; cases hv'; exact ⟨w, rfl, rfl⟩
    clear hv
    cases hq : (wd == wd.reverse)
    · rw [hq] at hx
      k_steps
      all_goals unfold Stop
      rename Fr _ _ _ _ => F5
      rename News _ _ _ _ => N5
      exact LCg.CompEnd.intro F5 N5 _ (fun p hp => hp) off (.inr ⟨_, .head _, rfl, _, rfl⟩) ⟨rfl, filt_no hw (by rw [hq])⟩
    · rw [hq] at hx
      k_steps
      all_goals unfold Stop
      rename Fr _ _ _ _ => F5
      rename News _ _ _ _ => N5
      exact LCg.CompEnd.intro F5 N5 _ (fun p hp => hp) off (.inr ⟨_, .head _, rfl, _, rfl⟩) ⟨rfl, filt_yes hw (by rw [hq])⟩
  case fin1 =>
  rintro ys nw ⟨rfl, rfl⟩
  unfold LCg.FinE
  intro D1 h1 tk1 F1b N1b ho1
  rw [List.size_toArray, List.length_map, List.take_length] at N1b
  clear F1 N1' ho1
  k_steps
  unfold Stop
  rename Fr _ _ _ _ => F2
  rename News _ _ _ _ => N2
  have N2' : News h₀ L _ ((Da, LCg.lst (((Gr sz.toNat st.toNat (i + 1)).map fun w => .bool (w == w.reverse)))) :: (I, oI) :: (Dg, W.listOf (List.toArray gv) cg) :: (Di, W.listOf (List.toArray vsi) ci) :: (Ds, W.listOf (List.toArray vss) cs) :: (L + 1 + 1 + 1 + 1 + 1 + 1, o6) :: (L + 1 + 1 + 1 + 1 + 1, o5) :: (L + 1 + 1 + 1 + 1, o4) :: (L + 1 + 1 + 1, o3) :: (L + 1 + 1, o2) :: (L + 1, o1) :: nx) := fun q hq => N2 q (.tail _ hq)
  refine LCt.CompSrcT.ledger (its := List.toArray ((Gr sz.toNat st.toNat (i + 1)).map fun w => (Value.bool (w == w.reverse)))) (k := ((Gr sz.toNat st.toNat (i + 1)).map fun w => (Value.bool (w == w.reverse))).length) rfl F2 N2' (.head _) (by rw [List.size_toArray, List.length_map, hgl]; exact Nat.le_trans (show i + 1 + 1 ≤ 8 by omega) (by decide)) ?_
  clear N2
  intro g2
  refine compRestT_ind (fun j ys nw => nw = (Da, LCg.lst (((Gr sz.toNat st.toNat (i + 1)).map fun w => .bool (w == w.reverse)))) :: (I, oI) :: (Dg, W.listOf (List.toArray gv) cg) :: (Di, W.listOf (List.toArray vsi) ci) :: (Ds, W.listOf (List.toArray vss) cs) :: (L + 1 + 1 + 1 + 1 + 1 + 1, o6) :: (L + 1 + 1 + 1 + 1 + 1, o5) :: (L + 1 + 1 + 1 + 1, o4) :: (L + 1 + 1 + 1, o3) :: (L + 1 + 1, o2) :: (L + 1, o1) :: nx ∧ ys = (((Gr sz.toNat st.toNat (i + 1)).take j).filter (fun w => !(w == w.reverse))).map fun _ => .bool false) ⟨rfl, rfl⟩ ?turn2 ?fin2
  case turn2 =>
    rintro j ys nw v I' oI' C oC D m₂ h tk E' hj hv ⟨rfl, rfl⟩ hC hx F N off ne
    obtain ⟨wd, hw, rfl⟩ : ∃ wd, (Gr sz.toNat st.toNat (i + 1))[j]? = some wd ∧ v = .bool (wd == wd.reverse) := by
      have hv' : (((Gr sz.toNat st.toNat (i + 1)).map fun w => (Value.bool (w == w.reverse))))[j]? = some v := by simpa using hv
      rw [List.getElem?_map] at hv'
      cases q : (Gr sz.toNat st.toNat (i + 1))[j]? with
      | none => rw [q] at hv'; cases hv'
      | some w => rw [q] at hv'; cases hv'; exact ⟨w, rfl, rfl⟩
    clear hv
    cases hq : (wd == wd.reverse)
    · rw [hq] at hx
      k_steps
      all_goals unfold Stop
      rename Fr _ _ _ _ => F5
      rename News _ _ _ _ => N5
      exact LCg.CompEnd.intro F5 N5 _ (fun p hp => hp) off (.inr ⟨_, .head _, rfl, _, rfl⟩) ⟨rfl, filt_yes hw (by rw [hq]; rfl)⟩
    · rw [hq] at hx
      k_steps
      all_goals unfold Stop
      rename Fr _ _ _ _ => F5
      rename News _ _ _ _ => N5
      exact LCg.CompEnd.intro F5 N5 _ (fun p hp => hp) off (.inr ⟨_, .head _, rfl, _, rfl⟩) ⟨rfl, filt_no hw (by rw [hq]; rfl)⟩
  case fin2 =>
  rintro ys nw ⟨rfl, rfl⟩
  unfold LCg.FinE
  intro D2 h2 tk2 F2b N2b ho2
  rw [List.size_toArray, List.length_map, List.take_length] at N2b
  clear F2 N2' ho2
  k_steps
  rename Fr _ _ _ _ => F9
  rename News _ _ _ _ => N9
  exact hk _ _ F9 (fun q hq => N9 q (.tail _ hq))
end
section
def J7 (L Di : Addr) (n st : Nat) (bs : List (Addr × Obj)) (i : Nat) (m : Str → Option Value) (nw : List (Addr × Obj)) : Prop :=
  ∃ Dg gv cg, nw = (Dg, W.listOf (List.toArray gv) cg) :: bs ∧ m (PySem.Str.ofString "grown") = some (.ref Dg) ∧ m (PySem.Str.ofString "images") = some (.ref Di) ∧ StrsAre gv ((Gr n st i).map sv) ∧ AllNe Dg bs
set_option maxHeartbeats 8000000 in
theorem turn7 {w : World} {p : Program} {loose : List Str} {mean : ExcName → Option Value} {mg mb : Str → Option Value} {dp un : Nat} {fr : Option (List Env)} {gd : Option (List Code)} {s0 : Shared} {Q : Flow → Shared → Prop} {h₀ : Heap} {L fa : Addr} {cd : Value} {m : Str → Option Value}
    (G : Gd w p loose mean mg mb h₀) (hdp : dp + 100 < recursionLimit) (F : Fr h₀ L s0.heap m)
    {o1 o2 o3 o4 o5 o6 : Obj} {sz sh va mo st sa : Int} {t1 t2 t3 t4 t5 t6 : Tok} (P : Pars sz sh va mo st sa) {vss vsi : List Value} {cs ci : Nat} {nx : List (Addr × Obj)} {Ds Di : Addr} {gv : List Value} {cg i : Nat} {Dg I : Addr} {oI : Obj} {tt tl : Tok} (N : News h₀ L s0.heap ((I, oI) :: (Dg, W.listOf (List.toArray gv) cg) :: (Di, W.listOf (List.toArray vsi) ci) :: (Ds, W.listOf (List.toArray vss) cs) :: (L + 1 + 1 + 1 + 1 + 1 + 1, o6) :: (L + 1 + 1 + 1 + 1 + 1, o5) :: (L + 1 + 1 + 1 + 1, o4) :: (L + 1 + 1 + 1, o3) :: (L + 1 + 1, o2) :: (L + 1, o1) :: nx)) (d1 : o1.data = .cell (some (.int sz t1))) (d2 : o2.data = .cell (some (.int mo t2))) (d3 : o3.data = .cell (some (.int st t3))) (d4 : o4.data = .cell (some (.int sa t4))) (d6 : o6.data = .cell (some (.str (txV sz st sa) tt)))
    (m1 : m (PySem.Str.ofString "grown") = some (.ref Dg)) (m2 : m (PySem.Str.ofString "images") = some (.ref Di)) (m3 : m (PySem.Str.ofString "length") = some (.int (1 + (i : Int)) tl)) (hi : i < mo.toNat) (ig : StrsAre gv ((Gr sz.toNat st.toNat i).map sv)) (hI : AllNe I ((Dg, W.listOf (List.toArray gv) cg) :: (Di, W.listOf (List.toArray vsi) ci) :: (Ds, W.listOf (List.toArray vss) cs) :: (L + 1 + 1 + 1 + 1 + 1 + 1, o6) :: (L + 1 + 1 + 1 + 1 + 1, o5) :: (L + 1 + 1 + 1 + 1, o4) :: (L + 1 + 1 + 1, o3) :: (L + 1 + 1, o2) :: (L + 1, o1) :: nx)) :
    wpAny (model PR w) ((Ar dp un fr gd).deeper (lawEnv L fa cd)) (execs (lawForSeg 7 0 1 (lawForSeg 7 1 1 (lawForSeg 7 2 1 []))) (lawEnv L fa cd)) (TurnP h₀ L I oI (J7 L Di sz.toNat st.toNat ((Di, W.listOf (List.toArray vsi) ci) :: (Ds, W.listOf (List.toArray vss) cs) :: (L + 1 + 1 + 1 + 1 + 1 + 1, o6) :: (L + 1 + 1 + 1 + 1 + 1, o5) :: (L + 1 + 1 + 1 + 1, o4) :: (L + 1 + 1 + 1, o3) :: (L + 1 + 1, o2) :: (L + 1, o1) :: nx) (i + 1)) s0 Q) (fun _ _ => False) s0 := by
  obtain ⟨PN, _⟩ := P.nat
  have hi6 : i ≤ 6 := by have := PN.m7; omega
  refine turn7a (t5 := t5) (t6 := t6) G hdp F P N d1 d2 d3 d4 d6 m1 hi ig ?_
  intro ys D h1 tk1 hy F1 N1 l1
  refine turn7b (s0 := { s0 with heap := h1, toks := tk1 }) (Dg := D) (gv := ys) (I := I) (oI := oI) (t1 := t1) (t2 := t2) (t3 := t3) (t4 := t4) (t5 := t5) (t6 := t6) G hdp F1 P (fun q hq => N1 q (by
    rcases List.mem_cons.mp hq with rfl | hq
    · exact .tail _ (.head _)
    rcases List.mem_cons.mp hq with rfl | hq
    · exact .head _
    exact .tail _ (.tail _ (.tail _ hq)))) rfl hi hy ?_
  intro Da h2 tk2 F2 N2
  refine turn7c (s0 := { s0 with heap := h2, toks := tk2 }) (Da := Da) (t1 := t1) (t2 := t2) (t3 := t3) (t4 := t4) (t5 := t5) (t6 := t6) G hdp F2 P N2 rfl rfl m3 hi (by rw [hy.length, List.length_map, gr_len PN (by omega)]) ?_
  intro h3 tk3 F3 N3
  refine wpAny_execs_nil ?_
  show TurnE _ _ _ _ _ _ _
  refine TurnE.intro F3 (fun q hq => N3 q (.tail _ hq)) ⟨Ne.symm l1.1, hI.2⟩ ⟨_, _, _, rfl, rfl, m2, hy, l1.2.2⟩
end
section
theorem rs50 : True := by
  w_top off
  exact trivial
local macro_rules | `(tactic| walk_at "subscriptTail Name Slice str ref") => mc14
local macro_rules | `(tactic| walk_at "call type:list") => `(tactic| refine Stop.mk ?_)
local macro_rules | `(tactic| walk_at "call builtin:str.join") => `(tactic| refine Stop.mk ?_)
local macro_rules | `(tactic| walk_at "compareOp Eq str str") => `(tactic| refine eqS_known (by with_reducible assumption) ?_)
local macro_rules | `(tactic| walk_at "call ref") => mc8
set_option maxHeartbeats 8000000 in
theorem turn8 {w : World} {p : Program} {loose : List Str} {mean : ExcName → Option Value} {mg mb : Str → Option Value} {dp un : Nat} {fr : Option (List Env)} {gd : Option (List Code)} {s0 : Shared} {Q : Flow → Shared → Prop} {h₀ : Heap} {L fa : Addr} {cd : Value} {m : Str → Option Value} {rest : List Stmt}
    (G : Gd w p loose mean mg mb h₀) (hdp : dp + 100 < recursionLimit) (F : Fr h₀ L s0.heap m)
    {o1 o2 o3 o4 o5 o6 : Obj} {sz sh va mo st sa : Int} {t1 t2 t3 t4 t5 t6 : Tok} (P : Pars sz sh va mo st sa) {vss vsi : List Value} {cs ci : Nat} {nx : List (Addr × Obj)} {Ds Di : Addr} {gv : List Value} {cg : Nat} {Dg I : Addr} {oI : Obj} {wd : List Nat} {tw : Tok} (N : News h₀ L s0.heap ((I, oI) :: (Dg, W.listOf (List.toArray gv) cg) :: (Di, W.listOf (List.toArray vsi) ci) :: (Ds, W.listOf (List.toArray vss) cs) :: (L + 1 + 1 + 1 + 1 + 1 + 1, o6) :: (L + 1 + 1 + 1 + 1 + 1, o5) :: (L + 1 + 1 + 1 + 1, o4) :: (L + 1 + 1 + 1, o3) :: (L + 1 + 1, o2) :: (L + 1, o1) :: nx))
    (m1 : m (PySem.Str.ofString "word") = some (.str (sv wd) tw)) (hw : wd ∈ Gr sz.toNat st.toNat mo.toNat)
    (hk : ∀ h' tk, Fr h₀ L h' m → News h₀ L h' ((I, oI) :: (Dg, W.listOf (List.toArray gv) cg) :: (Di, W.listOf (List.toArray vsi) ci) :: (Ds, W.listOf (List.toArray vss) cs) :: (L + 1 + 1 + 1 + 1 + 1 + 1, o6) :: (L + 1 + 1 + 1 + 1 + 1, o5) :: (L + 1 + 1 + 1 + 1, o4) :: (L + 1 + 1 + 1, o3) :: (L + 1 + 1, o2) :: (L + 1, o1) :: nx) → wpAny (model PR w) ((Ar dp un fr gd).deeper (lawEnv L fa cd)) (execs rest (lawEnv L fa cd)) Q (fun _ _ => False) { s0 with heap := h', toks := tk }) :
    wpAny (model PR w) ((Ar dp un fr gd).deeper (lawEnv L fa cd)) (execs (lawForSeg 8 0 1 rest) (lawEnv L fa cd)) Q (fun _ _ => False) s0 := by
  obtain ⟨PN, ez, et, ea, em⟩ := P.nat
  have pm1 := PN.m1
  have pm7 := PN.m7
  have hwl : wd.length = mo.toNat := Gr_len hw
  have h46 := no46w hw
  have X := G.X
  have T := G.T
  unfold PR; revert X; k_fill; intro X
  refine segN (A := fun sc => (Ar dp un fr gd).deeper (envOfC (PySem.Str.ofString "law") sc L fa cd)) (l := lawForSeg 8 0 1 rest) (l' := _ :: rest) rfl rfl ?_
  (try dsimp only)
  k_unmd
  (try k_fold)
  have hsz : ((wd.map fun c => sv [c]).map (·.length)).sum + (wd.map fun c => sv [c]).length * (PySem.Str.ofString "...").length ≤ 16777216 := by
    rw [dots_eq, sv_len, List.length_map, hwl, List.map_map]
    have : ∀ v : List Nat, (v.map ((fun x : PySem.Str => x.length) ∘ fun c => sv [c])).sum = v.length := by
      intro v
      induction v with
      | nil => rfl
      | cons a v ih => rw [List.map_cons, List.sum_cons, ih]; show (sv [a]).length + _ = _; rw [sv_len]; simp; omega
    rw [this, hwl]
    show _ + _ * 3 ≤ _
    omega
  have hsv : (sv wd == sv wd.reverse) = (wd == wd.reverse) := sv_beq _ _
  have hw1000 : wd.length ≤ 1000 := by omega
  k_steps
  unfold Stop
  rename Fr _ _ _ _ => F1
  rename News _ _ _ _ => N1
  refine listS rfl F1 N1 hw1000 ?_
  intro D its c' h2 tk2 hS F2 N2
  clear F1 N1
  k_steps
  unfold Stop
  refine join_list (list_news N2 (List.Mem.head _)) hS hsz fun t3 k3 => ?_
  rw [jd_letters]
  k_steps
  unfold Stop
  rename Fr _ _ _ _ => F3
  rename News _ _ _ _ => N3
  refine wpAny_call ?_
  k_dflt (refine' ell_letters G ?e_k ?e_room PN pm1 pm7 hw ?_; (case e_k => exact F3.keep); (case e_room => k_room))
  intro h4' tk4 x4
  obtain ⟨F4, N4⟩ := after0 F3 N3 x4
  clear x4 F3 N3
  (try dsimp only)
  cases hq : (wd == wd.reverse)
  all_goals rw [hq] at hsv
  all_goals k_steps
  all_goals rename Fr _ _ _ _ => F9
  all_goals rename News _ _ _ _ => N9
  all_goals exact hk _ _ F9 (fun q hq => N9 q (.tail _ hq))
def J8 (Dg Di : Addr) (bs : List (Addr × Obj)) (m : Str → Option Value) (nw : List (Addr × Obj)) : Prop := nw = bs ∧ m (PySem.Str.ofString "grown") = some (.ref Dg) ∧ m (PySem.Str.ofString "images") = some (.ref Di)
set_option maxHeartbeats 8000000 in
theorem turn8J {w : World} {p : Program} {loose : List Str} {mean : ExcName → Option Value} {mg mb : Str → Option Value} {dp un : Nat} {fr : Option (List Env)} {gd : Option (List Code)} {s0 : Shared} {Q : Flow → Shared → Prop} {h₀ : Heap} {L fa : Addr} {cd : Value} {m : Str → Option Value}
    (G : Gd w p loose mean mg mb h₀) (hdp : dp + 100 < recursionLimit) (F : Fr h₀ L s0.heap m)
    {o1 o2 o3 o4 o5 o6 : Obj} {sz sh va mo st sa : Int} {t1 t2 t3 t4 t5 t6 : Tok} (P : Pars sz sh va mo st sa) {vss vsi : List Value} {cs ci : Nat} {nx : List (Addr × Obj)} {Ds Di : Addr} {gv : List Value} {cg : Nat} {Dg I : Addr} {oI : Obj} {wd : List Nat} {tw : Tok} (N : News h₀ L s0.heap ((I, oI) :: (Dg, W.listOf (List.toArray gv) cg) :: (Di, W.listOf (List.toArray vsi) ci) :: (Ds, W.listOf (List.toArray vss) cs) :: (L + 1 + 1 + 1 + 1 + 1 + 1, o6) :: (L + 1 + 1 + 1 + 1 + 1, o5) :: (L + 1 + 1 + 1 + 1, o4) :: (L + 1 + 1 + 1, o3) :: (L + 1 + 1, o2) :: (L + 1, o1) :: nx))
    (m1 : m (PySem.Str.ofString "word") = some (.str (sv wd) tw)) (m2 : m (PySem.Str.ofString "grown") = some (.ref Dg)) (m3 : m (PySem.Str.ofString "images") = some (.ref Di)) (hw : wd ∈ Gr sz.toNat st.toNat mo.toNat) (hI : AllNe I ((Dg, W.listOf (List.toArray gv) cg) :: (Di, W.listOf (List.toArray vsi) ci) :: (Ds, W.listOf (List.toArray vss) cs) :: (L + 1 + 1 + 1 + 1 + 1 + 1, o6) :: (L + 1 + 1 + 1 + 1 + 1, o5) :: (L + 1 + 1 + 1 + 1, o4) :: (L + 1 + 1 + 1, o3) :: (L + 1 + 1, o2) :: (L + 1, o1) :: nx)) :
    wpAny (model PR w) ((Ar dp un fr gd).deeper (lawEnv L fa cd)) (execs (lawForSeg 8 0 1 []) (lawEnv L fa cd)) (TurnP h₀ L I oI (J8 Dg Di ((Dg, W.listOf (List.toArray gv) cg) :: (Di, W.listOf (List.toArray vsi) ci) :: (Ds, W.listOf (List.toArray vss) cs) :: (L + 1 + 1 + 1 + 1 + 1 + 1, o6) :: (L + 1 + 1 + 1 + 1 + 1, o5) :: (L + 1 + 1 + 1 + 1, o4) :: (L + 1 + 1 + 1, o3) :: (L + 1 + 1, o2) :: (L + 1, o1) :: nx)) s0 Q) (fun _ _ => False) s0 := by
  refine turn8 (t1 := t1) (t2 := t2) (t3 := t3) (t4 := t4) (t5 := t5) (t6 := t6) G hdp F P N m1 hw fun h' tk' F' N' => ?_
  refine wpAny_execs_nil ?_
  show TurnE _ _ _ _ _ _ _
  exact TurnE.intro F' N' hI ⟨rfl, m2, m3⟩
end
section
theorem rs51 : True := by
  w_top off
  exact trivial
local macro_rules | `(tactic| walk_at "call ref") => mc8
set_option maxHeartbeats 8000000 in
theorem turn10 {w : World} {p : Program} {loose : List Str} {mean : ExcName → Option Value} {mg mb : Str → Option Value} {dp un : Nat} {fr : Option (List Env)} {gd : Option (List Code)} {s0 : Shared} {Q : Flow → Shared → Prop} {h₀ : Heap} {L fa : Addr} {cd : Value} {m : Str → Option Value} {rest : List Stmt}
    (G : Gd w p loose mean mg mb h₀) (hdp : dp + 100 < recursionLimit) (F : Fr h₀ L s0.heap m)
    {o1 o2 o3 o4 o5 o6 : Obj} {sz sh va mo st sa : Int} {t1 t2 t3 t4 t5 t6 : Tok} (P : Pars sz sh va mo st sa) {vss vsi : List Value} {cs ci : Nat} {nx : List (Addr × Obj)} {Ds Di : Addr} {gv cv : List Value} {cg cc i : Nat} {Dg Dc I : Addr} {oI : Obj} {tn : Tok} (N : News h₀ L s0.heap ((I, oI) :: (Dc, W.listOf (List.toArray cv) cc) :: (Dg, W.listOf (List.toArray gv) cg) :: (Di, W.listOf (List.toArray vsi) ci) :: (Ds, W.listOf (List.toArray vss) cs) :: (L + 1 + 1 + 1 + 1 + 1 + 1, o6) :: (L + 1 + 1 + 1 + 1 + 1, o5) :: (L + 1 + 1 + 1 + 1, o4) :: (L + 1 + 1 + 1, o3) :: (L + 1 + 1, o2) :: (L + 1, o1) :: nx)) (d1 : o1.data = .cell (some (.int sz t1))) (d2 : o2.data = .cell (some (.int mo t2))) (d3 : o3.data = .cell (some (.int st t3))) (d4 : o4.data = .cell (some (.int sa t4))) (hT : Tail nx)
    (m1 : m (PySem.Str.ofString "cuts") = some (.ref Dc)) (m2 : m (PySem.Str.ofString "number") = some (.int (i : Int) tn)) (hi : i < 8) (ic : IntsAre cv (castL (cutsN sz.toNat st.toNat i))) (hDc : AllNe Dc ((Dg, W.listOf (List.toArray gv) cg) :: (Di, W.listOf (List.toArray vsi) ci) :: (Ds, W.listOf (List.toArray vss) cs) :: (L + 1 + 1 + 1 + 1 + 1 + 1, o6) :: (L + 1 + 1 + 1 + 1 + 1, o5) :: (L + 1 + 1 + 1 + 1, o4) :: (L + 1 + 1 + 1, o3) :: (L + 1 + 1, o2) :: (L + 1, o1) :: nx)) (hI : AllNe I ((Dc, W.listOf (List.toArray cv) cc) :: (Dg, W.listOf (List.toArray gv) cg) :: (Di, W.listOf (List.toArray vsi) ci) :: (Ds, W.listOf (List.toArray vss) cs) :: (L + 1 + 1 + 1 + 1 + 1 + 1, o6) :: (L + 1 + 1 + 1 + 1 + 1, o5) :: (L + 1 + 1 + 1 + 1, o4) :: (L + 1 + 1 + 1, o3) :: (L + 1 + 1, o2) :: (L + 1, o1) :: nx))
    (hk : ∀ cv' cc' h' tk, Fr h₀ L h' m → News h₀ L h' ((I, oI) :: (Dc, W.listOf (List.toArray cv') cc') :: (Dg, W.listOf (List.toArray gv) cg) :: (Di, W.listOf (List.toArray vsi) ci) :: (Ds, W.listOf (List.toArray vss) cs) :: (L + 1 + 1 + 1 + 1 + 1 + 1, o6) :: (L + 1 + 1 + 1 + 1 + 1, o5) :: (L + 1 + 1 + 1 + 1, o4) :: (L + 1 + 1 + 1, o3) :: (L + 1 + 1, o2) :: (L + 1, o1) :: nx) → IntsAre cv' (castL (cutsN sz.toNat st.toNat (i + 1))) → wpAny (model PR w) ((Ar dp un fr gd).deeper (lawEnv L fa cd)) (execs rest (lawEnv L fa cd)) Q (fun _ _ => False) { s0 with heap := h', toks := tk }) :
    wpAny (model PR w) ((Ar dp un fr gd).deeper (lawEnv L fa cd)) (execs (lawForSeg 10 0 1 rest) (lawEnv L fa cd)) Q (fun _ _ => False) s0 := by
  obtain ⟨PN, ez, et, ea, em⟩ := P.nat
  have sz0 : 0 < sz := by rcases P.z with h | h <;> rw [h] <;> decide
  have sz1 : sz ≤ 16 := by rcases P.z with h | h <;> rw [h] <;> decide
  have pt0 := P.t0
  have pt1 := P.t1
  have hms := mul_bd (a := (i : Int)) (b := st) (A := 7) (B := 15) (by omega) (by omega) (by omega) (by omega)
  have hmn : -(i : Int) * st = -((i : Int) * st) := Int.neg_mul _ _
  have hms0 := hms.1
  have hms1 := hms.2
  have ecut : (-(i : Int) * st).fmod sz = (cutX sz.toNat st.toNat i : Int) := by
    have := cut_int (n := sz.toNat) (st := st.toNat) (k := i) (by omega)
    rw [← ez, ← et] at this
    exact this
  have hins := ins_of PN hi
  have X := G.X
  have T := G.T
  unfold PR; revert X; k_fill; intro X
  refine segN (A := fun sc => (Ar dp un fr gd).deeper (envOfC (PySem.Str.ofString "law") sc L fa cd)) (l := lawForSeg 10 0 1 rest) (l' := _ :: rest) rfl rfl ?_
  (try dsimp only)
  k_unmd
  (try k_fold)
  k_steps
  unfold Stop
  rename Fr _ _ _ _ => F3
  rename News _ _ _ _ => N3
  refine wpAny_call ?_
  have hW := hT.filled (fun q hq => (N3 q (by simp [hq])).1)
  k_dflt (refine' lrest_ok G ?g_k ?g_w ?g_room P.z ?g_0 ?g_1 ?_; (case g_w => exact hW); (case g_k => exact F3.keep); (case g_room => k_room); (case g_0 => omega); (case g_1 => omega))
  intro t9' h4' tk4 x4
  rw [ecut]
  obtain ⟨F4, N4⟩ := after0 F3 N3 x4
  clear x4 F3 N3 hW
  (try dsimp only)
  k_steps
  unfold Stop
  rename Fr _ _ _ _ => F5
  rename News _ _ _ _ => N5
  refine wpAny_call ?_
  have hDl := (N5 _ (.tail _ (.head _)))
  k_dflt (refine' ins_ok (H := h₀) G ?g_k ?g_room hDl.2.2 hDl.1 ic ?g_z hins.ha hins.h1 hins.h2 ?_; (case g_k => exact F5.keep); (case g_room => k_room); (case g_z => (rw [castL_len, cuts_len]; omega)))
  intro h6' tk6 k6 e6
  have U : UpdF Dc (W.listOf (List.toArray cv) cc) ((I, oI) :: (Dc, W.listOf (List.toArray cv) cc) :: (Dg, W.listOf (List.toArray gv) cg) :: (Di, W.listOf (List.toArray vsi) ci) :: (Ds, W.listOf (List.toArray vss) cs) :: (L + 1 + 1 + 1 + 1 + 1 + 1, o6) :: (L + 1 + 1 + 1 + 1 + 1, o5) :: (L + 1 + 1 + 1 + 1, o4) :: (L + 1 + 1 + 1, o3) :: (L + 1 + 1, o2) :: (L + 1, o1) :: nx) (fun o' => (I, oI) :: (Dc, o') :: (Dg, W.listOf (List.toArray gv) cg) :: (Di, W.listOf (List.toArray vsi) ci) :: (Ds, W.listOf (List.toArray vss) cs) :: (L + 1 + 1 + 1 + 1 + 1 + 1, o6) :: (L + 1 + 1 + 1 + 1 + 1, o5) :: (L + 1 + 1 + 1 + 1, o4) :: (L + 1 + 1 + 1, o3) :: (L + 1 + 1, o2) :: (L + 1, o1) :: nx) := .tail (Ne.symm hI.1) (.head (allNe_mem hDc))
  obtain ⟨F6, N6⟩ := updF_h U F5 N5 k6 e6
  clear F5 N5 k6 e6 hDl
  (try dsimp only)
  k_steps
  rename Fr _ _ _ _ => F9
  rename News _ _ _ _ => N9
  exact hk _ _ _ _ F9 N9 (ints_ins ic)
end
section
open PySem PySem.W PySem.Calls PyProof.Rows
local macro_rules | `(tactic| k_mem) => `(tactic| assumption)
def mc15 : Lean.MacroM Lean.Syntax := `(tactic| (k_here; (with_reducible show wpAny _ _ (subscriptTail _ _ (Value.ref _) (Value.int _ _)) _ _ _); k_dflt (refine' item_known ?kl ?k0 ?k1 ?ke ?_ ?ks ?kg; (case kl => exact list_news (by k_asm) (by k_mem)); (case k0 => omega); (case k1 => omega); (case ke => with_reducible assumption); (case ks => with_unfolding_all rfl); (case kg => intro _; with_unfolding_all rfl); k_whole)))
local macro_rules | `(tactic| walk_at "subscriptTail Name Name ref int") => mc15
local macro_rules | `(tactic| walk_at "subscriptTail Name BinOp ref int") => mc15
local macro_rules | `(tactic| walk_at "binaryOp Div int int") => `(tactic| (refine' divi_is rfl ?b ?l ?l1 ?a ?a1 ?e ?_; (case e => with_reducible assumption); (case b => omega); (case a => omega); (case l => omega); (case a1 => omega); (case l1 => omega); intro z' t' hn' hz'))
local macro_rules | `(tactic| walk_at "compareOp NotEq int int") => `(tactic| refine ne_yes (by with_reducible assumption) ?_)
section
theorem rs52 : True := by
  w_top off
  exact trivial
local macro_rules | `(tactic| omega) => `(tactic| omega (config := {}))
local macro_rules | `(tactic| k_steps) => mc1
local macro_rules | `(tactic| walk_at "call ref") => mc8
set_option maxHeartbeats 8000000 in
theorem turn1 {w : World} {p : Program} {loose : List Str} {mean : ExcName → Option Value} {mg mb : Str → Option Value} {dp un : Nat} {fr : Option (List Env)} {gd : Option (List Code)} {s0 : Shared} {Q : Flow → Shared → Prop} {h₀ : Heap} {L fa : Addr} {cd : Value} {m : Str → Option Value} {rest : List Stmt}
    (G : Gd w p loose mean mg mb h₀) (hdp : dp + 100 < recursionLimit) (F : Fr h₀ L s0.heap m)
    {o1 o2 o3 o4 o5 o6 : Obj} {sz sh va mo st sa : Int} {t1 t2 t3 t4 t5 t6 : Tok} (P : Pars sz sh va mo st sa) {vs vss vsi vsl : List Value} {cs ci cl i : Nat} {o : Obj} {nx : List (Addr × Obj)} {I Dt Ds Di Dl : Addr} {tv : Tok} (N : News h₀ L s0.heap ((I, o) :: (Dl, W.listOf (List.toArray vsl) cl) :: (Di, W.listOf (List.toArray vsi) ci) :: (Ds, W.listOf (List.toArray vss) cs) :: (Dt, LCg.lst vs) :: (L + 1 + 1 + 1 + 1 + 1 + 1, o6) :: (L + 1 + 1 + 1 + 1 + 1, o5) :: (L + 1 + 1 + 1 + 1, o4) :: (L + 1 + 1 + 1, o3) :: (L + 1 + 1, o2) :: (L + 1, o1) :: nx)) (hT : Turned sz st sa (sz.toNat + 1) vs nx) (d1 : o1.data = .cell (some (.int sz t1))) (d2 : o2.data = .cell (some (.int mo t2))) (d3 : o3.data = .cell (some (.int st t3))) (d4 : o4.data = .cell (some (.int sa t4))) (hi : i < sz.toNat) (hm : (m (PySem.Str.ofString "number") = some (.int (i : Int) tv)) ∧ (m (PySem.Str.ofString "turned") = some (.ref Dt)) ∧ (m (PySem.Str.ofString "share") = some (.int sh t5)) ∧ (m (PySem.Str.ofString "value") = some (.int va t6)) ∧ (m (PySem.Str.ofString "images") = some (.ref Di)) ∧ (m (PySem.Str.ofString "letters") = some (.ref Dl)))
    (hk : ∀ D2 D3 h' tk m' xh xs xv yh yl ys th1 ts1 tv1 th2 tl2 ts2 ta ua sd t9 nN, Fr h₀ L h' m' → News h₀ L h' ((D3, tupO [.float yh th2, .float yl tl2, .float ys ts2]) :: (D2, tupO [.float xh th1, .float xs ts1, .float xv tv1]) :: (I, o) :: (Dl, W.listOf (List.toArray vsl) cl) :: (Di, W.listOf (List.toArray vsi) ci) :: (Ds, W.listOf (List.toArray vss) cs) :: (Dt, LCg.lst vs) :: (L + 1 + 1 + 1 + 1 + 1 + 1, o6) :: (L + 1 + 1 + 1 + 1 + 1, o5) :: (L + 1 + 1 + 1 + 1, o4) :: (L + 1 + 1 + 1, o3) :: (L + 1 + 1, o2) :: (L + 1, o1) :: nx) → AllNe D3 ((D2, o) :: (I, o) :: (Dl, W.listOf (List.toArray vsl) cl) :: (Di, W.listOf (List.toArray vsi) ci) :: (Ds, W.listOf (List.toArray vss) cs) :: (Dt, LCg.lst vs) :: (L + 1 + 1 + 1 + 1 + 1 + 1, o6) :: (L + 1 + 1 + 1 + 1 + 1, o5) :: (L + 1 + 1 + 1 + 1, o4) :: (L + 1 + 1 + 1, o3) :: (L + 1 + 1, o2) :: (L + 1, o1) :: nx) → AllNe D2 ((I, o) :: (Dl, W.listOf (List.toArray vsl) cl) :: (Di, W.listOf (List.toArray vsi) ci) :: (Ds, W.listOf (List.toArray vss) cs) :: (Dt, LCg.lst vs) :: (L + 1 + 1 + 1 + 1 + 1 + 1, o6) :: (L + 1 + 1 + 1 + 1 + 1, o5) :: (L + 1 + 1 + 1 + 1, o4) :: (L + 1 + 1 + 1, o3) :: (L + 1 + 1, o2) :: (L + 1, o1) :: nx) → Is xh (64 * (nN % 16)) → Is xs (128 * sh) → Is xv (128 * va) → Is yh (64 * ((-nN) % 16)) → Is yl (8 * (va * (16 - sh))) → (sa + (i : Int) * st) * 1024 = 64 * nN * sz → (sa + (i : Int) * st).fmod sz * 1024 = 64 * (nN % 16) * sz → (-((sa + (i : Int) * st).fmod sz)) % sz * 1024 = 64 * ((-nN) % 16) * sz → 0 ≤ nN → nN < 4096 → (m' (PySem.Str.ofString "turn") = some (.int ((sa + (i : Int) * st).fdiv sz) ta)) ∧ (m' (PySem.Str.ofString "spot") = some (.int ((sa + (i : Int) * st).fmod sz) ua)) ∧ (m' (PySem.Str.ofString "told") = some (.ref D2)) ∧ (m' (PySem.Str.ofString "image") = some (.ref D3)) ∧ (m' (PySem.Str.ofString "side") = some (.int sd t9)) → (m' (PySem.Str.ofString "number") = some (.int (i : Int) tv)) ∧ (m' (PySem.Str.ofString "turned") = some (.ref Dt)) ∧ (m' (PySem.Str.ofString "share") = some (.int sh t5)) ∧ (m' (PySem.Str.ofString "value") = some (.int va t6)) ∧ (m' (PySem.Str.ofString "images") = some (.ref Di)) ∧ (m' (PySem.Str.ofString "letters") = some (.ref Dl)) → ((sd = 0 ∧ (sa + (i : Int) * st).fmod sz < sz - st ∧ (sa + ((i + 1 : Nat) : Int) * st).fdiv sz = (sa + (i : Int) * st).fdiv sz + sd) ∨ (sd = 1 ∧ ¬ (sa + (i : Int) * st).fmod sz < sz - st ∧ (sa + ((i + 1 : Nat) : Int) * st).fdiv sz = (sa + (i : Int) * st).fdiv sz + sd)) → th1 ≠ 0 → ts1 ≠ 0 → tv1 ≠ 0 → wpAny (model PR w) ((Ar dp un fr gd).deeper (lawEnv L fa cd)) (execs rest (lawEnv L fa cd)) Q (fun _ _ => False) { s0 with heap := h', toks := tk }) :
    wpAny (model PR w) ((Ar dp un fr gd).deeper (lawEnv L fa cd)) (execs (lawForSeg 5 0 4 rest) (lawEnv L fa cd)) Q (fun _ _ => False) s0 := by
  obtain ⟨m0, m1, m2, m3, m4, m5⟩ := hm
  obtain ⟨da, ta, ua, ga, ma⟩ := hT.tup i (by omega)
  replace ga : (List.toArray vs)[(i : Int).toNat]? = some (.ref da) := by simpa using ga
  have hbd := walk_bd (i := (i : Int)) P.z P.t0 P.t1 P.a0 P.a1 (by omega) (by have := P.z; omega)
  have sz0 : 0 < sz := by rcases P.z with h | h <;> rw [h] <;> decide
  have sz1 : sz ≤ 16 := by rcases P.z with h | h <;> rw [h] <;> decide
  have hi15 : (i : Int) ≤ 15 := by omega
  have hi00 : 0 ≤ (i : Int) := by omega
  have CN := col_num P.h1 P.h8 P.v1 P.v8
  have sp0 := Int.fmod_nonneg_of_pos (sa + (i : Int) * st) sz0
  have sp1 := Int.fmod_lt_of_pos (sa + (i : Int) * st) sz0
  have hA0 : (sa + (i : Int) * st).fdiv sz * sz + (sa + (i : Int) * st).fmod sz = sa + (i : Int) * st := by
    have := Int.mul_fdiv_add_fmod (sa + (i : Int) * st) sz
    rw [Int.mul_comm]; exact this
  have q5 := CN.q5
  have q6 := CN.q6
  have q7 := CN.q7
  have w0 := CN.w0
  have w1 := CN.w1
  have ph1 := P.h1
  have ph8 := P.h8
  have pv1 := P.v1
  have pv8 := P.v8
  have pt0 := P.t0
  have pt1 := P.t1
  have hb0 := hbd.1
  have hb1 := hbd.2
  clear hi
  obtain ⟨nN, N0, N1, q1, q3, q3'⟩ := hue_num P.z hbd.1 hbd.2
  obtain ⟨B, b0, b1, q4⟩ := bord_num P.z P.t0 P.t1
  obtain ⟨cr, cg, cb, kk, kk', H1, H2, hk1, hk2⟩ := hues (N := nN) N0 P.h1 P.h8 P.v1 P.v8
  clear hT
  have X := G.X
  have T := G.T
  unfold PR; revert X; k_fill; intro X
  refine segN (A := fun sc => (Ar dp un fr gd).deeper (envOfC (PySem.Str.ofString "law") sc L fa cd)) (l := lawForSeg 5 0 4 rest) (l' := _ :: _ :: _ :: _ :: rest) rfl rfl ?_
  (try dsimp only)
  k_unmd
  (try k_fold)
  k_steps
  unfold Stop
  rename Fr _ _ _ _ => Fa
  rename News _ _ _ _ => Na
  refine wpAny_call ?_
  k_dflt (refine' hsv_ok ?X ?T ?room ?h ?s ?v N0 N1 P.h1 P.h8 P.v1 P.v8 ?nv ?_; (case nv => exact TokOk.ok (by with_reducible assumption)); (case X => exact G.X.keeps Fa.keep); (case T => exact G.T.keeps Fa.keep); (case room => k_room); (case h => assumption); (case s => assumption); (case v => assumption))
  intro xr xg xb tr tg tb D1 h1' tk1 x1 f1 g1 ir ig ib nr ng nb
  obtain ⟨Fb, Nb, lb⟩ := after1 Fa Na x1 f1 g1
  clear x1 f1 g1 lb
  (try dsimp only)
  k_steps
  unfold Stop
  rename Fr _ _ _ _ => Fc
  rename News _ _ _ _ => Nc
  refine wpAny_call ?_
  k_dflt (refine' tohsv_ok (V := 128 * va) (D := 16 * (sh * va)) (S := 128 * sh) ?X ?T ?room ir ig ib H1.mx H1.mn CN.D0 CN.V0 CN.DV CN.V1 CN.SV CN.S0 CN.S1 H1.er H1.eg H1.eb H1.r0 H1.g0 H1.b0 H1.r1 H1.g1 H1.b1 H1.hk H1.k0 H1.k1 nr ng nb ?_; (case X => exact G.X.keeps Fc.keep); (case T => exact G.T.keeps Fc.keep); (case room => k_room))
  intro xh xs xv th1 ts1 tv1 D2 h2' tk2 x2 f2 g2 ih is_ iv nh1 ns1 nv1
  rw [hk1] at ih
  obtain ⟨Fd, Nd, ld⟩ := after1 Fc (fun q hq => Nc q (.tail _ hq)) x2 f2 g2
  clear x2 f2 g2
  (try dsimp only)
  k_steps
  unfold Stop
  rename Fr _ _ _ _ => Fe
  rename News _ _ _ _ => Ne_
  refine wpAny_call ?_
  k_dflt (refine' tohls_ok (V := 128 * va) (D := 16 * (sh * va)) (lm := 8 * (va * (16 - sh))) ?X ?T ?room ir ib ig H2.mx H2.mn CN.D0 CN.V0 CN.DV CN.V1 CN.LM H2.er H2.eg H2.eb H2.r0 H2.g0 H2.b0 H2.r1 H2.g1 H2.b1 H2.hk H2.k0 H2.k1 ?_; (case X => exact G.X.keeps Fe.keep); (case T => exact G.T.keeps Fe.keep); (case room => k_room))
  intro yh yl ys th2 tl2 ts2 D3 h3' tk3 x3 f3 g3 jh jl
  rw [hk2] at jh
  obtain ⟨Ff, Nf, lf⟩ := after1 Fe Ne_ x3 f3 g3
  clear x3 f3 g3
  (try dsimp only)
  k_steps
  unfold Stop
  rename Fr _ _ _ _ => Fg
  rename News _ _ _ _ => Ng
  rename Is _ B => hB
  refine wpAny_call ?_
  k_dflt (refine' bisr_float G ?e ?room ?l hB ih ?_; (case e => exact Fg.keep); (case l => exact list_news Ng (List.Mem.head _)); (case room => k_room))
  intro t9 h4' tk4 x4
  obtain ⟨Fh, Nh⟩ := after0 Fg Ng x4
  clear x4
  have hsd := side_num (x := sa + (i : Int) * st) sz0 P.t0 P.t1 q3 q4
  have exi : sa + (i : Int) * st + st = sa + ((i + 1 : Nat) : Int) * st := by
    rw [Int.natCast_add, Int.add_mul, Int.add_assoc]; simp
  rw [exi] at hsd
  obtain ⟨sd, hsd0⟩ : ∃ sd : Int, sd = if 64 * (nN % 16) < B then 0 else 1 := ⟨_, rfl⟩
  rw [← hsd0]
  (try dsimp only)
  k_steps
  rename Fr _ _ _ _ => Fi
  rename News _ _ _ _ => Ni
  refine hk D2 D3 _ _ _ xh xs xv yh yl ys th1 ts1 tv1 th2 tl2 ts2 ta ua sd t9 nN Fi (fun q hq => Ni q ?_) lf ld ih is_ iv jh jl q1 q3 q3' N0 N1 ⟨rfl, rfl, rfl, rfl, rfl⟩ ⟨m0, m1, m2, m3, m4, m5⟩ ?_ nh1 ns1 nv1
  · exact .tail _ (.tail _ hq)
  · by_cases hlt : 64 * (nN % 16) < B
    · rw [if_pos hlt] at hsd0
      subst hsd0
      exact .inl ⟨rfl, hsd.1 hlt⟩
    · rw [if_neg hlt] at hsd0
      subst hsd0
      exact .inr ⟨rfl, hsd.2 hlt⟩
end
section
theorem rs53 : True := by
  w_top off
  exact trivial
local macro_rules | `(tactic| k_steps) => mc1
local macro_rules | `(tactic| walk_at "compareOp NotEq ref ref") => `(tactic| refine Stop.mk ?_)
local macro_rules | `(tactic| walk_at "compareOp NotEq float float") => `(tactic| refine cmpNe_no (by with_reducible assumption) (by with_reducible assumption) ?_)
local macro_rules | `(tactic| walk_at "execs cons") => mc2
local macro_rules | `(tactic| walk_at "execs nil") => mc3
local macro_rules | `(tactic| walk_at "call ref") => mc8
set_option maxHeartbeats 8000000 in
theorem turn2 {w : World} {p : Program} {loose : List Str} {mean : ExcName → Option Value} {mg mb : Str → Option Value} {dp un : Nat} {fr : Option (List Env)} {gd : Option (List Code)} {s0 : Shared} {Q : Flow → Shared → Prop} {h₀ : Heap} {L fa : Addr} {cd : Value} {m : Str → Option Value} {rest : List Stmt}
    (G : Gd w p loose mean mg mb h₀) (hdp : dp + 100 < recursionLimit) (F : Fr h₀ L s0.heap m)
    {o1 o2 o3 o4 o5 o6 : Obj} {sz sh va mo st sa : Int} {t1 t2 t3 t4 t5 t6 : Tok} (P : Pars sz sh va mo st sa) {vs vss vsi vsl : List Value} {cs ci cl i : Nat} {o : Obj} {nx : List (Addr × Obj)} {I Dt Ds Di Dl : Addr} {tv : Tok} {D2 D3 : Addr} {xh xs xv yh yl ys : UInt64} {th1 ts1 tv1 th2 tl2 ts2 ta ua t9 : Tok} {sd nN : Int} (N : News h₀ L s0.heap ((D3, tupO [.float yh th2, .float yl tl2, .float ys ts2]) :: (D2, tupO [.float xh th1, .float xs ts1, .float xv tv1]) :: (I, o) :: (Dl, W.listOf (List.toArray vsl) cl) :: (Di, W.listOf (List.toArray vsi) ci) :: (Ds, W.listOf (List.toArray vss) cs) :: (Dt, LCg.lst vs) :: (L + 1 + 1 + 1 + 1 + 1 + 1, o6) :: (L + 1 + 1 + 1 + 1 + 1, o5) :: (L + 1 + 1 + 1 + 1, o4) :: (L + 1 + 1 + 1, o3) :: (L + 1 + 1, o2) :: (L + 1, o1) :: nx)) (hT : Turned sz st sa (sz.toNat + 1) vs nx) (d1 : o1.data = .cell (some (.int sz t1))) (d2 : o2.data = .cell (some (.int mo t2))) (d3 : o3.data = .cell (some (.int st t3))) (d4 : o4.data = .cell (some (.int sa t4))) (hi : i < sz.toNat) (hm : (m (PySem.Str.ofString "number") = some (.int (i : Int) tv)) ∧ (m (PySem.Str.ofString "turned") = some (.ref Dt)) ∧ (m (PySem.Str.ofString "share") = some (.int sh t5)) ∧ (m (PySem.Str.ofString "value") = some (.int va t6)) ∧ (m (PySem.Str.ofString "images") = some (.ref Di)) ∧ (m (PySem.Str.ofString "letters") = some (.ref Dl))) (hn : (m (PySem.Str.ofString "turn") = some (.int ((sa + (i : Int) * st).fdiv sz) ta)) ∧ (m (PySem.Str.ofString "spot") = some (.int ((sa + (i : Int) * st).fmod sz) ua)) ∧ (m (PySem.Str.ofString "told") = some (.ref D2)) ∧ (m (PySem.Str.ofString "image") = some (.ref D3)) ∧ (m (PySem.Str.ofString "side") = some (.int sd t9)))
    (ih : Is xh (64 * (nN % 16))) (is_ : Is xs (128 * sh)) (iv : Is xv (128 * va)) (jl : Is yl (8 * (va * (16 - sh)))) (q3 : (sa + (i : Int) * st).fmod sz * 1024 = 64 * (nN % 16) * sz) (hsd : (sa + ((i + 1 : Nat) : Int) * st).fdiv sz = (sa + (i : Int) * st).fdiv sz + sd)
    (nh1 : th1 ≠ 0) (ns1 : ts1 ≠ 0) (nv1 : tv1 ≠ 0) (hun : un + 100 < cLine)
    (hk : ∀ h' tk, Fr h₀ L h' m → News h₀ L h' ((D3, tupO [.float yh th2, .float yl tl2, .float ys ts2]) :: (D2, tupO [.float xh th1, .float xs ts1, .float xv tv1]) :: (I, o) :: (Dl, W.listOf (List.toArray vsl) cl) :: (Di, W.listOf (List.toArray vsi) ci) :: (Ds, W.listOf (List.toArray vss) cs) :: (Dt, LCg.lst vs) :: (L + 1 + 1 + 1 + 1 + 1 + 1, o6) :: (L + 1 + 1 + 1 + 1 + 1, o5) :: (L + 1 + 1 + 1 + 1, o4) :: (L + 1 + 1 + 1, o3) :: (L + 1 + 1, o2) :: (L + 1, o1) :: nx) → wpAny (model PR w) ((Ar dp un fr gd).deeper (lawEnv L fa cd)) (execs rest (lawEnv L fa cd)) Q (fun _ _ => False) { s0 with heap := h', toks := tk }) :
    wpAny (model PR w) ((Ar dp un fr gd).deeper (lawEnv L fa cd)) (execs (lawForSeg 5 4 2 rest) (lawEnv L fa cd)) Q (fun _ _ => False) s0 := by
  obtain ⟨m0, m1, m2, m3, m4, m5⟩ := hm
  obtain ⟨n1, n2, n3, n4, n5⟩ := hn
  obtain ⟨db, tb, ub, gb, mb⟩ := hT.tup (i + 1) (by omega)
  replace gb : (List.toArray vs)[((i : Int) + 1).toNat]? = some (.ref db) := by
    rw [show ((i : Int) + 1).toNat = i + 1 by omega]; simpa using gb
  have hbd := walk_bd (i := (i : Int)) P.z P.t0 P.t1 P.a0 P.a1 (by omega) (by have := P.z; omega)
  have sz0 : 0 < sz := by rcases P.z with h | h <;> rw [h] <;> decide
  have sz1 : sz ≤ 16 := by rcases P.z with h | h <;> rw [h] <;> decide
  have hi15 : (i : Int) ≤ 15 := by omega
  have hi00 : 0 ≤ (i : Int) := by omega
  have CN := col_num P.h1 P.h8 P.v1 P.v8
  have sp0 := Int.fmod_nonneg_of_pos (sa + (i : Int) * st) sz0
  have sp1 := Int.fmod_lt_of_pos (sa + (i : Int) * st) sz0
  have hA0 : (sa + (i : Int) * st).fdiv sz * sz + (sa + (i : Int) * st).fmod sz = sa + (i : Int) * st := by
    have := Int.mul_fdiv_add_fmod (sa + (i : Int) * st) sz
    rw [Int.mul_comm]; exact this
  have q5 := CN.q5
  have q6 := CN.q6
  have q7 := CN.q7
  have w0 := CN.w0
  have w1 := CN.w1
  have ph1 := P.h1
  have ph8 := P.h8
  have pv1 := P.v1
  have pv8 := P.v8
  have pt0 := P.t0
  have pt1 := P.t1
  have hb0 := hbd.1
  have hb1 := hbd.2
  clear hi
  clear hT
  have X := G.X
  have T := G.T
  unfold PR; revert X; k_fill; intro X
  refine segN (A := fun sc => (Ar dp un fr gd).deeper (envOfC (PySem.Str.ofString "law") sc L fa cd)) (l := lawForSeg 5 4 2 rest) (l' := _ :: _ :: rest) rfl rfl ?_
  (try dsimp only)
  k_unmd
  (try k_fold)
  k_steps
  unfold Stop
  refine' eqAt3 ?e3_u ?e3_b ?e3_h1 ?e3_h2 ?e3_ia ?e3_ib ?e3_ic ?e3_ja ?e3_jb ?e3_jc ?e3_n1 ?e3_n2 ?e3_n3 ?e3_m1 ?e3_m2 ?e3_m3 ?_
  case e3_h1 => exact News.get (by k_asm) (by k_mem)
  case e3_h2 => exact News.get (by k_asm) (by k_mem)
  case e3_ia => with_reducible assumption
  case e3_ib => with_reducible assumption
  case e3_ic => with_reducible assumption
  case e3_ja => with_reducible assumption
  case e3_jb => with_reducible assumption
  case e3_jc => with_reducible assumption
  case e3_n1 => with_reducible assumption
  case e3_n2 => with_reducible assumption
  case e3_n3 => with_reducible assumption
  case e3_m1 => exact TokOk.ok (by with_reducible assumption)
  case e3_m2 => exact TokOk.ok (by with_reducible assumption)
  case e3_m3 => exact TokOk.ok (by with_reducible assumption)
  case e3_u => (show un + _ < cLine; omega)
  case e3_b => exact booked (Frag.In.keeps (by assumption) (Fr.keep (by k_asm)))
  k_steps
  rename Fr _ _ _ _ => F9
  rename News _ _ _ _ => N9
  exact hk _ _ F9 (fun q hq => N9 q (by first | exact hq | exact .tail _ hq | exact .tail _ (.tail _ hq)))
end
section
theorem rs54 : True := by
  w_top off
  exact trivial
local macro_rules | `(tactic| walk_at "call builtin:list.append") => `(tactic| refine Stop.mk ?_)
local macro_rules | `(tactic| walk_at "binaryOp Mult float int") => `(tactic| (refine' mulfi_is rfl ?f_a ?f_n ?f_n1 ?f_e ?f_k ?f_k1 ?_; (case f_a => with_reducible assumption); (case f_e => exact Eq.symm (by with_reducible assumption)); (case f_n => omega); (case f_n1 => omega); (case f_k => omega); (case f_k1 => omega); intro z' t' hz'))
local macro_rules | `(tactic| walk_at "call ref") => mc8
set_option maxHeartbeats 8000000 in
theorem turn3 {w : World} {p : Program} {loose : List Str} {mean : ExcName → Option Value} {mg mb : Str → Option Value} {dp un : Nat} {fr : Option (List Env)} {gd : Option (List Code)} {s0 : Shared} {Q : Flow → Shared → Prop} {h₀ : Heap} {L fa : Addr} {cd : Value} {m : Str → Option Value} {rest : List Stmt}
    (G : Gd w p loose mean mg mb h₀) (hdp : dp + 100 < recursionLimit) (F : Fr h₀ L s0.heap m)
    {o1 o2 o3 o4 o5 o6 : Obj} {sz sh va mo st sa : Int} {t1 t2 t3 t4 t5 t6 : Tok} (P : Pars sz sh va mo st sa) {vs vss vsi vsl : List Value} {cs ci cl i : Nat} {o : Obj} {nx : List (Addr × Obj)} {I Dt Ds Di Dl : Addr} {tv : Tok} {D2 D3 : Addr} {xh xs xv yh yl ys : UInt64} {th1 ts1 tv1 th2 tl2 ts2 ta ua t9 : Tok} {sd nN : Int} (N : News h₀ L s0.heap ((D3, tupO [.float yh th2, .float yl tl2, .float ys ts2]) :: (D2, tupO [.float xh th1, .float xs ts1, .float xv tv1]) :: (I, o) :: (Dl, W.listOf (List.toArray vsl) cl) :: (Di, W.listOf (List.toArray vsi) ci) :: (Ds, W.listOf (List.toArray vss) cs) :: (Dt, LCg.lst vs) :: (L + 1 + 1 + 1 + 1 + 1 + 1, o6) :: (L + 1 + 1 + 1 + 1 + 1, o5) :: (L + 1 + 1 + 1 + 1, o4) :: (L + 1 + 1 + 1, o3) :: (L + 1 + 1, o2) :: (L + 1, o1) :: nx)) (hT : Turned sz st sa (sz.toNat + 1) vs nx) (d1 : o1.data = .cell (some (.int sz t1))) (d2 : o2.data = .cell (some (.int mo t2))) (d3 : o3.data = .cell (some (.int st t3))) (d4 : o4.data = .cell (some (.int sa t4))) (d5 : o5.data = .cell (some (.ref Ds))) (hi : i < sz.toNat) (hm : (m (PySem.Str.ofString "number") = some (.int (i : Int) tv)) ∧ (m (PySem.Str.ofString "turned") = some (.ref Dt)) ∧ (m (PySem.Str.ofString "share") = some (.int sh t5)) ∧ (m (PySem.Str.ofString "value") = some (.int va t6)) ∧ (m (PySem.Str.ofString "images") = some (.ref Di)) ∧ (m (PySem.Str.ofString "letters") = some (.ref Dl))) (hn : (m (PySem.Str.ofString "turn") = some (.int ((sa + (i : Int) * st).fdiv sz) ta)) ∧ (m (PySem.Str.ofString "spot") = some (.int ((sa + (i : Int) * st).fmod sz) ua)) ∧ (m (PySem.Str.ofString "told") = some (.ref D2)) ∧ (m (PySem.Str.ofString "image") = some (.ref D3)) ∧ (m (PySem.Str.ofString "side") = some (.int sd t9)))
    (ih : Is xh (64 * (nN % 16))) (jh : Is yh (64 * ((-nN) % 16))) (q3 : (sa + (i : Int) * st).fmod sz * 1024 = 64 * (nN % 16) * sz) (q3' : (-((sa + (i : Int) * st).fmod sz)) % sz * 1024 = 64 * ((-nN) % 16) * sz) (hsd : (sd = 0 ∧ (sa + (i : Int) * st).fmod sz < sz - st) ∨ (sd = 1 ∧ ¬ (sa + (i : Int) * st).fmod sz < sz - st))
    (ls : vss.length = i) (li : vsi.length = i) (ll : vsl.length = i) (cds : Dif Ds Di Dl) (hDs : AllNe Ds ((L + 1 + 1 + 1 + 1 + 1 + 1, o6) :: (L + 1 + 1 + 1 + 1 + 1, o5) :: (L + 1 + 1 + 1 + 1, o4) :: (L + 1 + 1 + 1, o3) :: (L + 1 + 1, o2) :: (L + 1, o1) :: nx)) (hDi : AllNe Di ((L + 1 + 1 + 1 + 1 + 1 + 1, o6) :: (L + 1 + 1 + 1 + 1 + 1, o5) :: (L + 1 + 1 + 1 + 1, o4) :: (L + 1 + 1 + 1, o3) :: (L + 1 + 1, o2) :: (L + 1, o1) :: nx)) (hDl : AllNe Dl ((L + 1 + 1 + 1 + 1 + 1 + 1, o6) :: (L + 1 + 1 + 1 + 1 + 1, o5) :: (L + 1 + 1 + 1 + 1, o4) :: (L + 1 + 1 + 1, o3) :: (L + 1 + 1, o2) :: (L + 1, o1) :: nx)) (hDt : Ne3 Dt Ds Di Dl) (hI : Ne3 I Ds Di Dl)
    (hD2 : Ne3 D2 Ds Di Dl) (hD3 : Ne3 D3 Ds Di Dl)
    (hk : ∀ ta' tb' tc' h' tk, Fr h₀ L h' m → News h₀ L h' ((D3, tupO [.float yh th2, .float yl tl2, .float ys ts2]) :: (D2, tupO [.float xh th1, .float xs ts1, .float xv tv1]) :: (I, o) :: (Dl, W.listOf (List.toArray (vsl ++ [.str (letV sz st sa i) tc'])) (cl + 1)) :: (Di, W.listOf (List.toArray (vsi ++ [.int (imgV sz mo st sa i) tb'])) (ci + 1)) :: (Ds, W.listOf (List.toArray (vss ++ [.int (spotV sz st sa i) ta'])) (cs + 1)) :: (Dt, LCg.lst vs) :: (L + 1 + 1 + 1 + 1 + 1 + 1, o6) :: (L + 1 + 1 + 1 + 1 + 1, o5) :: (L + 1 + 1 + 1 + 1, o4) :: (L + 1 + 1 + 1, o3) :: (L + 1 + 1, o2) :: (L + 1, o1) :: nx) → wpAny (model PR w) ((Ar dp un fr gd).deeper (lawEnv L fa cd)) (execs rest (lawEnv L fa cd)) Q (fun _ _ => False) { s0 with heap := h', toks := tk }) :
    wpAny (model PR w) ((Ar dp un fr gd).deeper (lawEnv L fa cd)) (execs (lawForSeg 5 6 3 rest) (lawEnv L fa cd)) Q (fun _ _ => False) s0 := by
  obtain ⟨m0, m1, m2, m3, m4, m5⟩ := hm
  obtain ⟨n1, n2, n3, n4, n5⟩ := hn
  have hbd := walk_bd (i := (i : Int)) P.z P.t0 P.t1 P.a0 P.a1 (by omega) (by have := P.z; omega)
  have sz0 : 0 < sz := by rcases P.z with h | h <;> rw [h] <;> decide
  have sz1 : sz ≤ 16 := by rcases P.z with h | h <;> rw [h] <;> decide
  have hi15 : (i : Int) ≤ 15 := by omega
  have hi00 : 0 ≤ (i : Int) := by omega
  have CN := col_num P.h1 P.h8 P.v1 P.v8
  have sp0 := Int.fmod_nonneg_of_pos (sa + (i : Int) * st) sz0
  have sp1 := Int.fmod_lt_of_pos (sa + (i : Int) * st) sz0
  have hA0 : (sa + (i : Int) * st).fdiv sz * sz + (sa + (i : Int) * st).fmod sz = sa + (i : Int) * st := by
    have := Int.mul_fdiv_add_fmod (sa + (i : Int) * st) sz
    rw [Int.mul_comm]; exact this
  have q5 := CN.q5
  have q6 := CN.q6
  have q7 := CN.q7
  have w0 := CN.w0
  have w1 := CN.w1
  have ph1 := P.h1
  have ph8 := P.h8
  have pv1 := P.v1
  have pv8 := P.v8
  have pt0 := P.t0
  have pt1 := P.t1
  have hb0 := hbd.1
  have hb1 := hbd.2
  clear hi
  have ir0 := Int.emod_nonneg (-((sa + (i : Int) * st).fmod sz)) (show sz ≠ 0 by omega)
  have ir1 := Int.emod_lt_of_pos (-((sa + (i : Int) * st).fmod sz)) sz0
  have pm1 := P.m1
  have pm7 := P.m7
  have hms := mul_bd (a := mo) (b := st) (A := 7) (B := 15) (by omega) (by omega) (by omega) (by omega)
  have hms0 := hms.1
  have hms1 := hms.2
  have X := G.X
  have T := G.T
  unfold PR; revert X; k_fill; intro X
  refine segN (A := fun sc => (Ar dp un fr gd).deeper (envOfC (PySem.Str.ofString "law") sc L fa cd)) (l := lawForSeg 5 6 3 rest) (l' := _ :: _ :: _ :: rest) rfl rfl ?_
  (try dsimp only)
  k_unmd
  (try k_fold)
  k_steps
  unfold Stop
  rename Fr _ _ _ _ => F1
  rename News _ _ _ _ => N1
  refine append_L F1 N1 (.tail hD3.n1 (.tail hD2.n1 (.tail hI.n1 (.tail (Ne.symm cds.ac) (.tail (Ne.symm cds.ab) (.head (allNe_mem ⟨hDt.n1, hDs⟩))))))) (by omega) ?_
  intro h1' F2 N2
  (try dsimp only at N2)
  clear F1 N1
  rw [Int.mul_ediv_cancel _ (by decide : (1024 : Int) ≠ 0)] at N2
  (try dsimp only)
  k_steps
  unfold Stop
  rename Fr _ _ _ _ => F3
  rename News _ _ _ _ => N3
  rw [Int.mul_ediv_cancel _ (by decide : (1024 : Int) ≠ 0)]
  refine wpAny_call ?_
  have hW := hT.tail.filled (fun q hq => (N3 q (by simp [hq])).1)
  k_dflt (refine' lrest_ok G ?g_k hW ?g_room P.z ?g_0 ?g_1 ?_; (case g_k => exact F3.keep); (case g_room => k_room); (case g_0 => omega); (case g_1 => omega))
  intro t9' h4' tk4 x4
  obtain ⟨Fh, Nh⟩ := after0 F3 N3 x4
  clear x4 F3 N3 hW
  (try dsimp only)
  k_steps
  unfold Stop
  rename Fr _ _ _ _ => F5
  rename News _ _ _ _ => N5
  refine append_L F5 N5 (.tail hD3.n2 (.tail hD2.n2 (.tail hI.n2 (.tail (Ne.symm cds.bc) (.head (allNe_mem ⟨cds.ab, hDt.n2, hDi⟩)))))) (by omega) ?_
  intro h6' F6 N6
  (try dsimp only at N6)
  clear F5 N5
  (try dsimp only)
  k_steps
  unfold Stop
  rename Fr _ _ _ _ => F7
  rename News _ _ _ _ => N7
  have hlv : Txt.item (PySem.Str.ofString "ab") sd = letV sz st sa i := by
    unfold letV spotV
    rcases hsd with ⟨e, h⟩ | ⟨e, h⟩
    · rw [if_pos h, e]; rfl
    · rw [if_neg h, e]; rfl
  rw [hlv]
  refine append_L F7 N7 (.tail hD3.n3 (.tail hD2.n3 (.tail hI.n3 (.head (allNe_mem ⟨cds.bc, cds.ac, hDt.n3, hDl⟩))))) (by omega) ?_
  intro h8' F8 N8
  (try dsimp only at N8)
  clear F7 N7
  (try dsimp only)
  k_steps
  rename Fr _ _ _ _ => F9
  rename News _ _ _ _ => N9
  exact hk _ _ _ _ _ F9 N9
end
section
set_option maxHeartbeats 8000000 in
theorem turnAll {w : World} {p : Program} {loose : List Str} {mean : ExcName → Option Value} {mg mb : Str → Option Value} {dp un : Nat} {fr : Option (List Env)} {gd : Option (List Code)} {s0 : Shared} {Q : Flow → Shared → Prop} {h₀ : Heap} {L fa : Addr} {cd : Value} {m : Str → Option Value}
    (G : Gd w p loose mean mg mb h₀) (hdp : dp + 100 < recursionLimit) (F : Fr h₀ L s0.heap m)
    {o1 o2 o3 o4 o5 o6 : Obj} {sz sh va mo st sa : Int} {t1 t2 t3 t4 t5 t6 : Tok} (P : Pars sz sh va mo st sa) {vs vss vsi vsl : List Value} {cs ci cl i : Nat} {o : Obj} {nx : List (Addr × Obj)} {I Dt Ds Di Dl : Addr} {tv : Tok} (N : News h₀ L s0.heap ((I, o) :: (Dl, W.listOf (List.toArray vsl) cl) :: (Di, W.listOf (List.toArray vsi) ci) :: (Ds, W.listOf (List.toArray vss) cs) :: (Dt, LCg.lst vs) :: (L + 1 + 1 + 1 + 1 + 1 + 1, o6) :: (L + 1 + 1 + 1 + 1 + 1, o5) :: (L + 1 + 1 + 1 + 1, o4) :: (L + 1 + 1 + 1, o3) :: (L + 1 + 1, o2) :: (L + 1, o1) :: nx)) (hT : Turned sz st sa (sz.toNat + 1) vs nx) (d1 : o1.data = .cell (some (.int sz t1))) (d2 : o2.data = .cell (some (.int mo t2))) (d3 : o3.data = .cell (some (.int st t3))) (d4 : o4.data = .cell (some (.int sa t4))) (d5 : o5.data = .cell (some (.ref Ds))) (hi : i < sz.toNat) (hm : (m (PySem.Str.ofString "number") = some (.int (i : Int) tv)) ∧ (m (PySem.Str.ofString "turned") = some (.ref Dt)) ∧ (m (PySem.Str.ofString "share") = some (.int sh t5)) ∧ (m (PySem.Str.ofString "value") = some (.int va t6)) ∧ (m (PySem.Str.ofString "images") = some (.ref Di)) ∧ (m (PySem.Str.ofString "letters") = some (.ref Dl))) (hun : un + 100 < cLine)
    (ia : IntsAre vss ((List.range i).map (spotV sz st sa))) (ib : IntsAre vsi ((List.range i).map (imgV sz mo st sa))) (ic : StrsAre vsl ((List.range i).map (letV sz st sa)))
    (cds : Dif Ds Di Dl) (hDs : AllNe Ds ((L + 1 + 1 + 1 + 1 + 1 + 1, o6) :: (L + 1 + 1 + 1 + 1 + 1, o5) :: (L + 1 + 1 + 1 + 1, o4) :: (L + 1 + 1 + 1, o3) :: (L + 1 + 1, o2) :: (L + 1, o1) :: nx)) (hDi : AllNe Di ((L + 1 + 1 + 1 + 1 + 1 + 1, o6) :: (L + 1 + 1 + 1 + 1 + 1, o5) :: (L + 1 + 1 + 1 + 1, o4) :: (L + 1 + 1 + 1, o3) :: (L + 1 + 1, o2) :: (L + 1, o1) :: nx)) (hDl : AllNe Dl ((L + 1 + 1 + 1 + 1 + 1 + 1, o6) :: (L + 1 + 1 + 1 + 1 + 1, o5) :: (L + 1 + 1 + 1 + 1, o4) :: (L + 1 + 1 + 1, o3) :: (L + 1 + 1, o2) :: (L + 1, o1) :: nx)) (hDt : Ne3 Dt Ds Di Dl) (hI : AllNe I ((Dl, W.listOf (List.toArray vsl) cl) :: (Di, W.listOf (List.toArray vsi) ci) :: (Ds, W.listOf (List.toArray vss) cs) :: (Dt, LCg.lst vs) :: (L + 1 + 1 + 1 + 1 + 1 + 1, o6) :: (L + 1 + 1 + 1 + 1 + 1, o5) :: (L + 1 + 1 + 1 + 1, o4) :: (L + 1 + 1 + 1, o3) :: (L + 1 + 1, o2) :: (L + 1, o1) :: nx)) :
    wpAny (model PR w) ((Ar dp un fr gd).deeper (lawEnv L fa cd)) (execs (lawForSeg 5 0 4 (lawForSeg 5 4 2 (lawForSeg 5 6 3 []))) (lawEnv L fa cd)) (TurnP h₀ L I o (SCJ L Dt Ds Di Dl o1 o2 o3 o4 o5 o6 vs nx sz sh va mo st sa t5 t6 (i + 1)) s0 Q) (fun _ _ => False) s0 := by
  have ls : vss.length = i := by rw [ia.length]; simp
  have li : vsi.length = i := by rw [ib.length]; simp
  have ll : vsl.length = i := by rw [ic.length]; simp
  have hI3 : Ne3 I Ds Di Dl := ⟨Ne.symm hI.2.2.1, Ne.symm hI.2.1, Ne.symm hI.1⟩
  refine turn1 G hdp F P N hT d1 d2 d3 d4 hi hm ?_
  intro D2 D3 h1 tk1 m1 xh xs xv yh yl ys th1 ts1 tv1 th2 tl2 ts2 ta ua sd t9 nN F1 N1 l3 l2 ih is_ iv jh jl q1 q3 q3' N0 N4 hg hf hsd nh1 ns1 nv1
  have h2 : Ne3 D2 Ds Di Dl := ⟨Ne.symm l2.2.2.2.1, Ne.symm l2.2.2.1, Ne.symm l2.2.1⟩
  have h3 : Ne3 D3 Ds Di Dl := ⟨Ne.symm l3.2.2.2.2.1, Ne.symm l3.2.2.2.1, Ne.symm l3.2.2.1⟩
  refine turn2 (s0 := { s0 with heap := h1, toks := tk1 }) G hdp F1 P N1 hT d1 d2 d3 d4 hi hf hg ih is_ iv jl q3 (by rcases hsd with h | h <;> exact h.2.2) nh1 ns1 nv1 hun ?_
  intro h4 tk4 F4 N4
  refine turn3 (s0 := { s0 with heap := h4, toks := tk4 }) G hdp F4 P N4 hT d1 d2 d3 d4 d5 hi hf hg ih jh q3 q3' (hsd.imp (fun h => ⟨h.1, h.2.1⟩) (fun h => ⟨h.1, h.2.1⟩)) ls li ll cds hDs hDi hDl hDt hI3 h2 h3 ?_
  intro ta' tb' tc' h5 tk5 F5 N5
  refine wpAny_execs_nil ?_
  show TurnE _ _ _ _ _ _ _
  obtain ⟨f0, f1, f2, f3, f4, f5⟩ := hf
  refine TurnE.intro F5 (fun q hq => N5 q (.tail _ (.tail _ hq))) hI ⟨_, _, _, _, _, _, rfl, f1, f2, f3, f4, f5, ?_, ?_, ?_⟩
  · rw [List.range_succ, List.map_append]; exact ints_snoc ia
  · rw [List.range_succ, List.map_append]; exact ints_snoc ib
  · rw [List.range_succ, List.map_append]; exact strs_snoc ic
end
section
open PySem PySem.W PySem.Calls PyProof.Rows
def mc16 : Lean.MacroM Lean.Syntax := `(tactic| ((with_reducible rename Fr _ _ _ _ => F'); (with_reducible rename News _ _ _ _ => N'); (first | ((with_reducible show wpAny _ _ (subscriptTail _ (Expr.Slice (some _) (some _) none _) _ _) _ _ _); refine' cut_ss (s := ⟨_, _, _, _, _⟩) F' N' ?cu_l ?cu_e ?_) | ((with_reducible show wpAny _ _ (subscriptTail _ (Expr.Slice (some _) none none _) _ _) _ _ _); refine' cut_sn (s := ⟨_, _, _, _, _⟩) F' N' ?cu_l ?cu_e ?_) | ((with_reducible show wpAny _ _ (subscriptTail _ (Expr.Slice none (some _) none _) _ _) _ _ _); refine' cut_ns (s := ⟨_, _, _, _, _⟩) F' N' ?cu_l ?cu_e ?_) | ((with_reducible show wpAny _ _ (subscriptTail _ (Expr.Slice none none (some _) _) _ _) _ _ _); refine' cut_rev (s := ⟨_, _, _, _, _⟩) F' N' ?cu_l ?_)); (case cu_l => assumption); (try (case cu_e => with_reducible assumption)); intro _ _ _ _ _))
local macro_rules | `(tactic| walk_at "subscriptTail Name Slice str ref") => mc16
local macro_rules | `(tactic| walk_at "subscriptTail Subscript Slice str ref") => mc16
section
local macro_rules | `(tactic| walk_at "zz") => `(tactic| skip)
theorem rs56 : True := by
  w_top off
  exact trivial
local macro_rules | `(tactic| walk_at "call ref") => mc8
set_option maxHeartbeats 8000000 in
theorem turn12a {w : World} {p : Program} {loose : List Str} {mean : ExcName → Option Value} {mg mb : Str → Option Value} {dp un : Nat} {fr : Option (List Env)} {gd : Option (List Code)} {s0 : Shared} {Q : Flow → Shared → Prop} {h₀ : Heap} {L fa : Addr} {cd : Value} {m : Str → Option Value} {rest : List Stmt}
    (G : Gd w p loose mean mg mb h₀) (hdp : dp + 100 < recursionLimit) (F : Fr h₀ L s0.heap m)
    {o1 o2 o3 o4 o5 o6 : Obj} {sz sh va mo st sa : Int} {t1 t2 t3 t4 t5 t6 : Tok} (P : Pars sz sh va mo st sa) {vss vsi : List Value} {cs ci : Nat} {nx : List (Addr × Obj)} {Ds Di : Addr} {gv cv hv : List Value} {cg cc ch i : Nat} {Dg Dc Dh I : Addr} {oI : Obj} {tt : Tok} {tn : Tok} (N : News h₀ L s0.heap ((I, oI) :: (Dh, W.listOf (List.toArray hv) ch) :: (Dc, W.listOf (List.toArray cv) cc) :: (Dg, W.listOf (List.toArray gv) cg) :: (Di, W.listOf (List.toArray vsi) ci) :: (Ds, W.listOf (List.toArray vss) cs) :: (L + 1 + 1 + 1 + 1 + 1 + 1, o6) :: (L + 1 + 1 + 1 + 1 + 1, o5) :: (L + 1 + 1 + 1 + 1, o4) :: (L + 1 + 1 + 1, o3) :: (L + 1 + 1, o2) :: (L + 1, o1) :: nx)) (d1 : o1.data = .cell (some (.int sz t1))) (d2 : o2.data = .cell (some (.int mo t2))) (d3 : o3.data = .cell (some (.int st t3))) (d4 : o4.data = .cell (some (.int sa t4))) (d5 : o5.data = .cell (some (.ref Ds))) (d6 : o6.data = .cell (some (.str (txV sz st sa) tt)))
    (m1 : m (PySem.Str.ofString "number") = some (.int (i : Int) tn)) (m2 : m (PySem.Str.ofString "cuts") = some (.ref Dc)) (hi : i < sz.toNat)
    (ia : IntsAre vss ((List.range sz.toNat).map (spotV sz st sa))) (ic : IntsAre cv (castL (cutsN sz.toNat st.toNat (mo.toNat + 1))))
    (hk : ∀ ti tb h' tk, Fr h₀ L h' (fun q => if q = (PySem.Str.ofString "index") then some (.int (((cntN sz.toNat st.toNat mo.toNat (spN sz.toNat st.toNat sa.toNat i)) : Int) - 1) ti) else if q = (PySem.Str.ofString "behind") then some (.str (sv (Wn sz.toNat st.toNat (2 * sz.toNat - i) (spN sz.toNat st.toNat sa.toNat i))) tb) else m q) → News h₀ L h' ((I, oI) :: (Dh, W.listOf (List.toArray hv) ch) :: (Dc, W.listOf (List.toArray cv) cc) :: (Dg, W.listOf (List.toArray gv) cg) :: (Di, W.listOf (List.toArray vsi) ci) :: (Ds, W.listOf (List.toArray vss) cs) :: (L + 1 + 1 + 1 + 1 + 1 + 1, o6) :: (L + 1 + 1 + 1 + 1 + 1, o5) :: (L + 1 + 1 + 1 + 1, o4) :: (L + 1 + 1 + 1, o3) :: (L + 1 + 1, o2) :: (L + 1, o1) :: nx) → wpAny (model PR w) ((Ar dp un fr gd).deeper (lawEnv L fa cd)) (execs rest (lawEnv L fa cd)) Q (fun _ _ => False) { s0 with heap := h', toks := tk }) :
    wpAny (model PR w) ((Ar dp un fr gd).deeper (lawEnv L fa cd)) (execs (lawForSeg 12 0 1 rest) (lawEnv L fa cd)) Q (fun _ _ => False) s0 := by
  obtain ⟨PN, ez, et, ea, em⟩ := P.nat
  have hn16 : sz.toNat ≤ 16 := by rcases PN.z with h | h <;> omega
  have hn8 : 8 ≤ sz.toNat := by rcases PN.z with h | h <;> omega
  have hs : (spN sz.toNat st.toNat sa.toNat i) < sz.toNat := Nat.mod_lt _ (by omega)
  have EO := end_of PN hs
  have hsp : spotV sz st sa i = ((spN sz.toNat st.toNat sa.toNat i) : Int) := by
    have := spot_nat (n := sz.toNat) (st := st.toNat) (sa := sa.toNat) i
    rw [← ez, ← et, ← ea] at this
    exact this
  obtain ⟨tsp, gsp⟩ : ∃ t, (List.toArray vss)[((i : Nat) : Int).toNat]? = some (.int ((spN sz.toNat st.toNat sa.toNat i) : Int) t) := by
    obtain ⟨t, e⟩ := ints_at ia (i := i) (k := spotV sz st sa i) (by rw [List.getElem?_map, List.getElem?_range (by omega)]; rfl)
    exact ⟨t, by rw [← hsp]; simpa using e⟩
  have ebe : Txt.slice (txV sz st sa) (some (i : Int)) none = sv (Wn sz.toNat st.toNat (2 * sz.toNat - i) (spN sz.toNat st.toNat sa.toNat i)) := behind_eq PN hi
  have hlx : (txV sz st sa).length ≤ 1000 := by unfold txV; rw [sv_len, Wn_len]; omega
  have hz : (castL (cutsN sz.toNat st.toNat (mo.toNat + 1))).length ≤ 1000 := by rw [castL_len, cuts_len]; have := PN.m7; omega
  have X := G.X
  have T := G.T
  unfold PR; revert X; k_fill; intro X
  refine segN (A := fun sc => (Ar dp un fr gd).deeper (envOfC (PySem.Str.ofString "law") sc L fa cd)) (l := lawForSeg 12 0 1 rest) (l' := _ :: rest) rfl rfl ?_
  (try dsimp only)
  k_unmd
  (try k_fold)
  k_steps
  unfold Stop
  rename Fr _ _ _ _ => F1
  rename News _ _ _ _ => N1
  refine wpAny_call ?_
  k_dflt (refine' bisr_int G ?g_k ?g_room ?g_l ic hz EO.ha EO.h1 EO.h2 ?_; (case g_k => exact F1.keep); (case g_room => k_room); (case g_l => exact list_news N1 (.tail _ (.tail _ (.head _)))))
  intro t4 h4' tk4 x4
  obtain ⟨F4, N4⟩ := after0 F1 N1 x4
  clear x4 F1 N1
  (try dsimp only)
  k_steps
  rename Fr _ _ _ _ => F9
  rename News _ _ _ _ => N9
  exact hk _ _ _ _ F9 (fun q hq => N9 q (.tail _ hq))
end
section
theorem rs57 : True := by
  w_top off
  exact trivial
local macro_rules | `(tactic| walk_at "binaryOp Add str str") => mc13
def mc17 : Lean.MacroM Lean.Syntax := `(tactic| (k_here; (with_reducible show wpAny _ _ (subscriptTail _ _ (Value.ref _) (Value.int _ _)) _ _ _); k_dflt (refine' item_wrap ?iw_l ?iw_z ?iw_0 ?iw_k ?iw_n ?iw_e ?_ ?iw_s ?iw_g; (case iw_l => exact list_news (by k_asm) (by k_mem)); (case iw_z => assumption); (case iw_0 => omega); (case iw_k => omega); (case iw_n => assumption); (case iw_e => with_reducible assumption); (case iw_s => with_unfolding_all rfl); (case iw_g => intro _; with_unfolding_all rfl); k_whole)))
local macro_rules | `(tactic| walk_at "subscriptTail Name BinOp ref int") => mc17
local macro_rules | `(tactic| walk_at "call ref") => mc8
set_option maxHeartbeats 8000000 in
theorem turn12b {w : World} {p : Program} {loose : List Str} {mean : ExcName → Option Value} {mg mb : Str → Option Value} {dp un : Nat} {fr : Option (List Env)} {gd : Option (List Code)} {s0 : Shared} {Q : Flow → Shared → Prop} {h₀ : Heap} {L fa : Addr} {cd : Value} {m : Str → Option Value} {rest : List Stmt}
    (G : Gd w p loose mean mg mb h₀) (hdp : dp + 100 < recursionLimit) (F : Fr h₀ L s0.heap m)
    {o1 o2 o3 o4 o5 o6 : Obj} {sz sh va mo st sa : Int} {t1 t2 t3 t4 t5 t6 : Tok} (P : Pars sz sh va mo st sa) {vss vsi : List Value} {cs ci : Nat} {nx : List (Addr × Obj)} {Ds Di : Addr} {gv cv hv : List Value} {cg cc ch i : Nat} {Dg Dc Dh I : Addr} {oI : Obj} {tt : Tok} {ti tb : Tok} (N : News h₀ L s0.heap ((I, oI) :: (Dh, W.listOf (List.toArray hv) ch) :: (Dc, W.listOf (List.toArray cv) cc) :: (Dg, W.listOf (List.toArray gv) cg) :: (Di, W.listOf (List.toArray vsi) ci) :: (Ds, W.listOf (List.toArray vss) cs) :: (L + 1 + 1 + 1 + 1 + 1 + 1, o6) :: (L + 1 + 1 + 1 + 1 + 1, o5) :: (L + 1 + 1 + 1 + 1, o4) :: (L + 1 + 1 + 1, o3) :: (L + 1 + 1, o2) :: (L + 1, o1) :: nx))
    (m1 : m (PySem.Str.ofString "index") = some (.int (((cntN sz.toNat st.toNat mo.toNat (spN sz.toNat st.toNat sa.toNat i)) : Int) - 1) ti)) (m2 : m (PySem.Str.ofString "behind") = some (.str (sv (Wn sz.toNat st.toNat (2 * sz.toNat - i) (spN sz.toNat st.toNat sa.toNat i))) tb)) (m3 : m (PySem.Str.ofString "grown") = some (.ref Dg)) (hi : i < sz.toNat)
    (ig : StrsAre gv ((Gr sz.toNat st.toNat mo.toNat).map sv))
    (hk : ∀ h' tk, Fr h₀ L h' m → News h₀ L h' ((I, oI) :: (Dh, W.listOf (List.toArray hv) ch) :: (Dc, W.listOf (List.toArray cv) cc) :: (Dg, W.listOf (List.toArray gv) cg) :: (Di, W.listOf (List.toArray vsi) ci) :: (Ds, W.listOf (List.toArray vss) cs) :: (L + 1 + 1 + 1 + 1 + 1 + 1, o6) :: (L + 1 + 1 + 1 + 1 + 1, o5) :: (L + 1 + 1 + 1 + 1, o4) :: (L + 1 + 1 + 1, o3) :: (L + 1 + 1, o2) :: (L + 1, o1) :: nx) → wpAny (model PR w) ((Ar dp un fr gd).deeper (lawEnv L fa cd)) (execs rest (lawEnv L fa cd)) Q (fun _ _ => False) { s0 with heap := h', toks := tk }) :
    wpAny (model PR w) ((Ar dp un fr gd).deeper (lawEnv L fa cd)) (execs (lawForSeg 12 1 1 rest) (lawEnv L fa cd)) Q (fun _ _ => False) s0 := by
  obtain ⟨PN, ez, et, ea, em⟩ := P.nat
  have pm1 := PN.m1
  have pm7 := PN.m7
  have hn16 : sz.toNat ≤ 16 := by rcases PN.z with h | h <;> omega
  have hn8 : 8 ≤ sz.toNat := by rcases PN.z with h | h <;> omega
  have hs : (spN sz.toNat st.toNat sa.toNat i) < sz.toNat := Nat.mod_lt _ (by omega)
  have EO := end_of PN hs
  have ec1 := EO.c1
  have ec2 := EO.c2
  have hgl := gr_len PN pm7
  have hgv : gv.length = mo.toNat + 1 := by rw [ig.length, List.length_map, hgl]
  have hwl : (Wn sz.toNat st.toNat mo.toNat (spN sz.toNat st.toNat sa.toNat i)).length = mo.toNat := Wn_len ..
  have hbl : (Wn sz.toNat st.toNat (2 * sz.toNat - i) (spN sz.toNat st.toNat sa.toNat i)).length = 2 * sz.toNat - i := Wn_len ..
  have hw46 : 46 ∉ (Wn sz.toNat st.toNat mo.toNat (spN sz.toNat st.toNat sa.toNat i)) := fun hm => by have := Wn_ab hm; omega
  have hwne : (Wn sz.toNat st.toNat mo.toNat (spN sz.toNat st.toNat sa.toNat i)) ≠ [] := fun e => by have := congrArg List.length e; rw [hwl] at this; simp at this; omega
  obtain ⟨tg1, gg1⟩ : ∃ t, (List.toArray gv)[(((cntN sz.toNat st.toNat mo.toNat (spN sz.toNat st.toNat sa.toNat i)) : Int) - 1).toNat]? = some (.str (sv (Wn sz.toNat st.toNat mo.toNat (spN sz.toNat st.toNat sa.toNat i))) t) := by
    obtain ⟨t, e⟩ := strs_at ig (i := (cntN sz.toNat st.toNat mo.toNat (spN sz.toNat st.toNat sa.toNat i)) - 1) (k := sv (Wn sz.toNat st.toNat mo.toNat (spN sz.toNat st.toNat sa.toNat i))) (by rw [List.getElem?_map, EO.g1]; rfl)
    refine ⟨t, ?_⟩
    rw [show (((cntN sz.toNat st.toNat mo.toNat (spN sz.toNat st.toNat sa.toNat i)) : Int) - 1).toNat = (cntN sz.toNat st.toNat mo.toNat (spN sz.toNat st.toNat sa.toNat i)) - 1 by omega]
    simpa using e
  obtain ⟨w', gw, nw⟩ := EO.g2
  have hwl' : w'.length = mo.toNat := Gr_len (List.mem_of_getElem? gw)
  have hw46' : 46 ∉ w' := no46w (List.mem_of_getElem? gw)
  have hwne' : w' ≠ [] := fun e => by have := congrArg List.length e; rw [hwl'] at this; simp at this; omega
  have hgne : gv ≠ [] := fun e => by have := congrArg List.length e; rw [hgv] at this; simp at this
  have hg1000 : gv.length ≤ 1000 := by omega
  obtain ⟨tg2, gg2⟩ : ∃ t, gv[(if (((cntN sz.toNat st.toNat mo.toNat (spN sz.toNat st.toNat sa.toNat i)) : Int) - 1 - 1) < 0 then (((cntN sz.toNat st.toNat mo.toNat (spN sz.toNat st.toNat sa.toNat i)) : Int) - 1 - 1) + gv.length else (((cntN sz.toNat st.toNat mo.toNat (spN sz.toNat st.toNat sa.toNat i)) : Int) - 1 - 1)).toNat]? = some (.str (sv w') t) := by
    obtain ⟨t, e⟩ := strs_at ig (k := sv w') (by rw [List.getElem?_map, gw]; rfl)
    refine ⟨t, ?_⟩
    rw [← e]
    congr 1
    rw [hgv]
    by_cases q : (cntN sz.toNat st.toNat mo.toNat (spN sz.toNat st.toNat sa.toNat i)) = 1
    · rw [if_pos (by omega), q, show 1 - 1 + mo.toNat = mo.toNat by omega, Nat.mod_eq_of_lt (by omega)]
      omega
    · rw [if_neg (by omega), show (cntN sz.toNat st.toNat mo.toNat (spN sz.toNat st.toNat sa.toNat i)) - 1 + mo.toNat = ((cntN sz.toNat st.toNat mo.toNat (spN sz.toNat st.toNat sa.toNat i)) - 2) + (mo.toNat + 1) by omega, Nat.add_mod_right, Nat.mod_eq_of_lt (by omega)]
      omega
  have q1 : ((Wn sz.toNat st.toNat (2 * sz.toNat - i) (spN sz.toNat st.toNat sa.toNat i)).take (Wn sz.toNat st.toNat mo.toNat (spN sz.toNat st.toNat sa.toNat i)).length == (Wn sz.toNat st.toNat mo.toNat (spN sz.toNat st.toNat sa.toNat i))) = true := by rw [hwl, begin_eq PN hi, beq_self_eq_true]
  have q2 : ((Wn sz.toNat st.toNat (2 * sz.toNat - i) (spN sz.toNat st.toNat sa.toNat i)).take w'.length == w') = false := by rw [hwl', begin_eq PN hi]; exact nw
  clear ig gw
  have X := G.X
  have T := G.T
  unfold PR; revert X; k_fill; intro X
  refine segN (A := fun sc => (Ar dp un fr gd).deeper (envOfC (PySem.Str.ofString "law") sc L fa cd)) (l := lawForSeg 12 1 1 rest) (l' := _ :: rest) rfl rfl ?_
  (try dsimp only)
  k_unmd
  (try k_fold)
  k_steps
  unfold Stop
  rename Fr _ _ _ _ => F1
  rename News _ _ _ _ => N1
  refine wpAny_call ?_
  k_dflt (refine' ell_start G ?g_k ?g_room hwne hw46 ?g_a ?g_b ?_; (case g_k => exact F1.keep); (case g_room => k_room); (case g_a => omega); (case g_b => omega))
  intro h4' tk4 x4
  rw [q1]
  obtain ⟨F4, N4⟩ := after0 F1 N1 x4
  clear x4 F1 N1
  (try dsimp only)
  k_steps
  unfold Stop
  rename Fr _ _ _ _ => F5
  rename News _ _ _ _ => N5
  refine wpAny_call ?_
  k_dflt (refine' ell_start G ?g_k ?g_room hwne' hw46' ?g_a ?g_b ?_; (case g_k => exact F5.keep); (case g_room => k_room); (case g_a => omega); (case g_b => omega))
  intro h6' tk6 x6
  rw [q2]
  obtain ⟨F6, N6⟩ := after0 F5 N5 x6
  clear x6 F5 N5
  (try dsimp only)
  k_steps
  rename Fr _ _ _ _ => F9
  rename News _ _ _ _ => N9
  exact hk _ _ F9 N9
end
section
local macro_rules | `(tactic| walk_at "zz") => `(tactic| skip)
theorem rs58 : True := by
  w_top off
  exact trivial
local macro_rules | `(tactic| k_steps) => `(tactic| repeat' first | fail "K3" | fail "K4")
local macro_rules | `(tactic| walk_at "binaryOp Add str str") => mc13
local macro_rules | `(tactic| walk_at "subscriptTail Name BinOp ref int") => mc17
local macro_rules | `(tactic| walk_at "call ref") => mc8
set_option maxHeartbeats 8000000 in
theorem turn12c {w : World} {p : Program} {loose : List Str} {mean : ExcName → Option Value} {mg mb : Str → Option Value} {dp un : Nat} {fr : Option (List Env)} {gd : Option (List Code)} {s0 : Shared} {Q : Flow → Shared → Prop} {h₀ : Heap} {L fa : Addr} {cd : Value} {m : Str → Option Value} {rest : List Stmt}
    (G : Gd w p loose mean mg mb h₀) (hdp : dp + 100 < recursionLimit) (F : Fr h₀ L s0.heap m)
    {o1 o2 o3 o4 o5 o6 : Obj} {sz sh va mo st sa : Int} {t1 t2 t3 t4 t5 t6 : Tok} (P : Pars sz sh va mo st sa) {vss vsi : List Value} {cs ci : Nat} {nx : List (Addr × Obj)} {Ds Di : Addr} {gv cv hv : List Value} {cg cc ch i : Nat} {Dg Dc Dh I : Addr} {oI : Obj} {tt : Tok} {ti tb : Tok} (N : News h₀ L s0.heap ((I, oI) :: (Dh, W.listOf (List.toArray hv) ch) :: (Dc, W.listOf (List.toArray cv) cc) :: (Dg, W.listOf (List.toArray gv) cg) :: (Di, W.listOf (List.toArray vsi) ci) :: (Ds, W.listOf (List.toArray vss) cs) :: (L + 1 + 1 + 1 + 1 + 1 + 1, o6) :: (L + 1 + 1 + 1 + 1 + 1, o5) :: (L + 1 + 1 + 1 + 1, o4) :: (L + 1 + 1 + 1, o3) :: (L + 1 + 1, o2) :: (L + 1, o1) :: nx)) (d1 : o1.data = .cell (some (.int sz t1))) (d2 : o2.data = .cell (some (.int mo t2))) (d3 : o3.data = .cell (some (.int st t3))) (d4 : o4.data = .cell (some (.int sa t4))) (d6 : o6.data = .cell (some (.str (txV sz st sa) tt)))
    (m1 : m (PySem.Str.ofString "index") = some (.int (((cntN sz.toNat st.toNat mo.toNat (spN sz.toNat st.toNat sa.toNat i)) : Int) - 1) ti)) (m2 : m (PySem.Str.ofString "behind") = some (.str (sv (Wn sz.toNat st.toNat (2 * sz.toNat - i) (spN sz.toNat st.toNat sa.toNat i))) tb)) (m3 : m (PySem.Str.ofString "grown") = some (.ref Dg)) (hi : i < sz.toNat)
    (ig : StrsAre gv ((Gr sz.toNat st.toNat mo.toNat).map sv))
    (hk : ∀ h' tk, Fr h₀ L h' m → News h₀ L h' ((I, oI) :: (Dh, W.listOf (List.toArray hv) ch) :: (Dc, W.listOf (List.toArray cv) cc) :: (Dg, W.listOf (List.toArray gv) cg) :: (Di, W.listOf (List.toArray vsi) ci) :: (Ds, W.listOf (List.toArray vss) cs) :: (L + 1 + 1 + 1 + 1 + 1 + 1, o6) :: (L + 1 + 1 + 1 + 1 + 1, o5) :: (L + 1 + 1 + 1 + 1, o4) :: (L + 1 + 1 + 1, o3) :: (L + 1 + 1, o2) :: (L + 1, o1) :: nx) → wpAny (model PR w) ((Ar dp un fr gd).deeper (lawEnv L fa cd)) (execs rest (lawEnv L fa cd)) Q (fun _ _ => False) { s0 with heap := h', toks := tk }) :
    wpAny (model PR w) ((Ar dp un fr gd).deeper (lawEnv L fa cd)) (execs (lawForSeg 12 2 1 rest) (lawEnv L fa cd)) Q (fun _ _ => False) s0 := by
  obtain ⟨PN, ez, et, ea, em⟩ := P.nat
  have pm1 := PN.m1
  have pm7 := PN.m7
  have hn16 : sz.toNat ≤ 16 := by rcases PN.z with h | h <;> omega
  have hn8 : 8 ≤ sz.toNat := by rcases PN.z with h | h <;> omega
  have hs : (spN sz.toNat st.toNat sa.toNat i) < sz.toNat := Nat.mod_lt _ (by omega)
  have EO := end_of PN hs
  have ec1 := EO.c1
  have ec2 := EO.c2
  have hgl := gr_len PN pm7
  have hgv : gv.length = mo.toNat + 1 := by rw [ig.length, List.length_map, hgl]
  have hwl : (Wn sz.toNat st.toNat mo.toNat (spN sz.toNat st.toNat sa.toNat i)).length = mo.toNat := Wn_len ..
  have hbl : (Wn sz.toNat st.toNat (2 * sz.toNat - i) (spN sz.toNat st.toNat sa.toNat i)).length = 2 * sz.toNat - i := Wn_len ..
  have hw46 : 46 ∉ (Wn sz.toNat st.toNat mo.toNat (spN sz.toNat st.toNat sa.toNat i)) := fun hm => by have := Wn_ab hm; omega
  have hwne : (Wn sz.toNat st.toNat mo.toNat (spN sz.toNat st.toNat sa.toNat i)) ≠ [] := fun e => by have := congrArg List.length e; rw [hwl] at this; simp at this; omega
  obtain ⟨tg1, gg1⟩ : ∃ t, (List.toArray gv)[(((cntN sz.toNat st.toNat mo.toNat (spN sz.toNat st.toNat sa.toNat i)) : Int) - 1).toNat]? = some (.str (sv (Wn sz.toNat st.toNat mo.toNat (spN sz.toNat st.toNat sa.toNat i))) t) := by
    obtain ⟨t, e⟩ := strs_at ig (i := (cntN sz.toNat st.toNat mo.toNat (spN sz.toNat st.toNat sa.toNat i)) - 1) (k := sv (Wn sz.toNat st.toNat mo.toNat (spN sz.toNat st.toNat sa.toNat i))) (by rw [List.getElem?_map, EO.g1]; rfl)
    refine ⟨t, ?_⟩
    rw [show (((cntN sz.toNat st.toNat mo.toNat (spN sz.toNat st.toNat sa.toNat i)) : Int) - 1).toNat = (cntN sz.toNat st.toNat mo.toNat (spN sz.toNat st.toNat sa.toNat i)) - 1 by omega]
    simpa using e
  have hul : ((Wn sz.toNat st.toNat (2 * sz.toNat) sa.toNat).drop (2 * sz.toNat - mo.toNat)).length = mo.toNat := by rw [List.length_drop, Wn_len]; omega
  have hu46 : 46 ∉ ((Wn sz.toNat st.toNat (2 * sz.toNat) sa.toNat).drop (2 * sz.toNat - mo.toNat)) := fun hm => by have := Wn_ab (List.mem_of_mem_drop hm); omega
  have hune : ((Wn sz.toNat st.toNat (2 * sz.toNat) sa.toNat).drop (2 * sz.toNat - mo.toNat)) ≠ [] := fun e => by have := congrArg List.length e; rw [hul] at this; simp at this; omega
  have etx : Txt.slice (txV sz st sa) (some (-mo)) none = sv ((Wn sz.toNat st.toNat (2 * sz.toNat) sa.toNat).drop (2 * sz.toNat - mo.toNat)) := by
    have := tail_eq PN
    rw [← em] at this
    exact this
  have hlx : (txV sz st sa).length ≤ 1000 := by unfold txV; rw [sv_len, Wn_len]; omega
  have q1 : (Wn sz.toNat st.toNat (2 * sz.toNat - i) (spN sz.toNat st.toNat sa.toNat i)).take (Wn sz.toNat st.toNat mo.toNat (spN sz.toNat st.toNat sa.toNat i)).length = (Wn sz.toNat st.toNat mo.toNat (spN sz.toNat st.toNat sa.toNat i)) := by rw [hwl, begin_eq PN hi]
  have q2 : ((Wn sz.toNat st.toNat (2 * sz.toNat - i) (spN sz.toNat st.toNat sa.toNat i)).drop ((Wn sz.toNat st.toNat (2 * sz.toNat - i) (spN sz.toNat st.toNat sa.toNat i)).length - ((Wn sz.toNat st.toNat (2 * sz.toNat) sa.toNat).drop (2 * sz.toNat - mo.toNat)).length)).take ((Wn sz.toNat st.toNat (2 * sz.toNat) sa.toNat).drop (2 * sz.toNat - mo.toNat)).length = ((Wn sz.toNat st.toNat (2 * sz.toNat) sa.toNat).drop (2 * sz.toNat - mo.toNat)) := by rw [hul, hbl]; exact rest_eq PN hi
  have q3 : ((Wn sz.toNat st.toNat (2 * sz.toNat) sa.toNat).drop (2 * sz.toNat - mo.toNat)).length ≤ (Wn sz.toNat st.toNat (2 * sz.toNat - i) (spN sz.toNat st.toNat sa.toNat i)).length := by omega
  have hbi : (sv (Wn sz.toNat st.toNat (2 * sz.toNat - i) (spN sz.toNat st.toNat sa.toNat i))).length = 2 * sz.toNat - i := by rw [sv_len, hbl]
  have hdd : decide ((Wn sz.toNat st.toNat mo.toNat (spN sz.toNat st.toNat sa.toNat i)).length + ((Wn sz.toNat st.toNat (2 * sz.toNat) sa.toNat).drop (2 * sz.toNat - mo.toNat)).length ≤ (Wn sz.toNat st.toNat (2 * sz.toNat - i) (spN sz.toNat st.toNat sa.toNat i)).length) = decide (2 * mo ≤ ((sv (Wn sz.toNat st.toNat (2 * sz.toNat - i) (spN sz.toNat st.toNat sa.toNat i))).length : Int)) := by
    rw [decide_eq_decide, hwl, hul, hbl, hbi]
    omega
  clear ig
  have X := G.X
  have T := G.T
  unfold PR; revert X; k_fill; intro X
  refine segN (A := fun sc => (Ar dp un fr gd).deeper (envOfC (PySem.Str.ofString "law") sc L fa cd)) (l := lawForSeg 12 2 1 rest) (l' := _ :: rest) rfl rfl ?_
  (try dsimp only)
  k_unmd
  (try k_fold)
  k_steps
  unfold Stop
  rename Fr _ _ _ _ => F1
  rename News _ _ _ _ => N1
  refine wpAny_call ?_
  k_dflt (refine' ell_ends G ?g_k ?g_room hwne hune hw46 hu46 ?g_a ?g_c ?g_b q1 q2 q3 ?_; (case g_k => exact F1.keep); (case g_room => k_room); (case g_a => omega); (case g_b => omega); (case g_c => omega))
  intro h4' tk4 x4
  obtain ⟨F4, N4⟩ := after0 F1 N1 x4
  clear x4 F1 N1
  (try dsimp only)
  k_steps
  all_goals first
    | (exfalso
       rename (_ != _) = true => ha
       rw [hdd, bne_self_eq_false] at ha
       cases ha)
    | (rename Fr _ _ _ _ => F9
       rename News _ _ _ _ => N9
       exact hk _ _ F9 N9)
end
section
theorem rs59 : True := by
  w_top off
  exact trivial
local macro_rules | `(tactic| walk_at "subscriptTail Name Subscript ref int") => mc15
local macro_rules | `(tactic| walk_at "compareOp NotEq ref ref") => `(tactic| refine Stop.mk ?_)
local macro_rules | `(tactic| walk_at "call ref") => mc8
set_option maxHeartbeats 8000000 in
theorem turn12d {w : World} {p : Program} {loose : List Str} {mean : ExcName → Option Value} {mg mb : Str → Option Value} {dp un : Nat} {fr : Option (List Env)} {gd : Option (List Code)} {s0 : Shared} {Q : Flow → Shared → Prop} {h₀ : Heap} {L fa : Addr} {cd : Value} {m : Str → Option Value} {rest : List Stmt}
    (G : Gd w p loose mean mg mb h₀) (hdp : dp + 100 < recursionLimit) (F : Fr h₀ L s0.heap m)
    {o1 o2 o3 o4 o5 o6 : Obj} {sz sh va mo st sa : Int} {t1 t2 t3 t4 t5 t6 : Tok} (P : Pars sz sh va mo st sa) {vss vsi : List Value} {cs ci : Nat} {nx : List (Addr × Obj)} {Ds Di : Addr} {gv cv hv : List Value} {cg cc ch i : Nat} {Dg Dc Dh I : Addr} {oI : Obj} {tt : Tok} {tb tn : Tok} (N : News h₀ L s0.heap ((I, oI) :: (Dh, W.listOf (List.toArray hv) ch) :: (Dc, W.listOf (List.toArray cv) cc) :: (Dg, W.listOf (List.toArray gv) cg) :: (Di, W.listOf (List.toArray vsi) ci) :: (Ds, W.listOf (List.toArray vss) cs) :: (L + 1 + 1 + 1 + 1 + 1 + 1, o6) :: (L + 1 + 1 + 1 + 1 + 1, o5) :: (L + 1 + 1 + 1 + 1, o4) :: (L + 1 + 1 + 1, o3) :: (L + 1 + 1, o2) :: (L + 1, o1) :: nx)) (d1 : o1.data = .cell (some (.int sz t1))) (d2 : o2.data = .cell (some (.int mo t2))) (d3 : o3.data = .cell (some (.int st t3))) (d4 : o4.data = .cell (some (.int sa t4))) (hun : un + 100 < cLine)
    (m1 : m (PySem.Str.ofString "number") = some (.int (i : Int) tn)) (m2 : m (PySem.Str.ofString "behind") = some (.str (sv (Wn sz.toNat st.toNat (2 * sz.toNat - i) (spN sz.toNat st.toNat sa.toNat i))) tb)) (m3 : m (PySem.Str.ofString "heard") = some (.ref Dh)) (m4 : m (PySem.Str.ofString "images") = some (.ref Di)) (hi : i < sz.toNat)
    (ib : IntsAre vsi ((List.range sz.toNat).map (imgV sz mo st sa))) (hh : ∀ k, k < sz.toNat → ∃ (d : Addr) (t u : Tok), hv[k]? = some (.ref d) ∧ (d, tupO [.int (k : Int) t, .str (sv (Wn sz.toNat st.toNat mo.toNat k)) u]) ∈ nx)
    (hk : ∀ h' tk, Fr h₀ L h' m → News h₀ L h' ((I, oI) :: (Dh, W.listOf (List.toArray hv) ch) :: (Dc, W.listOf (List.toArray cv) cc) :: (Dg, W.listOf (List.toArray gv) cg) :: (Di, W.listOf (List.toArray vsi) ci) :: (Ds, W.listOf (List.toArray vss) cs) :: (L + 1 + 1 + 1 + 1 + 1 + 1, o6) :: (L + 1 + 1 + 1 + 1 + 1, o5) :: (L + 1 + 1 + 1 + 1, o4) :: (L + 1 + 1 + 1, o3) :: (L + 1 + 1, o2) :: (L + 1, o1) :: nx) → wpAny (model PR w) ((Ar dp un fr gd).deeper (lawEnv L fa cd)) (execs rest (lawEnv L fa cd)) Q (fun _ _ => False) { s0 with heap := h', toks := tk }) :
    wpAny (model PR w) ((Ar dp un fr gd).deeper (lawEnv L fa cd)) (execs (lawForSeg 12 3 1 rest) (lawEnv L fa cd)) Q (fun _ _ => False) s0 := by
  obtain ⟨PN, ez, et, ea, em⟩ := P.nat
  have pm1 := PN.m1
  have pm7 := PN.m7
  have hn16 : sz.toNat ≤ 16 := by rcases PN.z with h | h <;> omega
  have hn8 : 8 ≤ sz.toNat := by rcases PN.z with h | h <;> omega
  have hs : (spN sz.toNat st.toNat sa.toNat i) < sz.toNat := Nat.mod_lt _ (by omega)
  have EO := end_of PN hs
  have him : (imgN sz.toNat st.toNat mo.toNat (spN sz.toNat st.toNat sa.toNat i)) < sz.toNat := Nat.mod_lt _ (by omega)
  have hiv : imgV sz mo st sa i = ((imgN sz.toNat st.toNat mo.toNat (spN sz.toNat st.toNat sa.toNat i)) : Int) := by
    have := img_nat (i := i) PN
    rw [← ez, ← et, ← ea, ← em] at this
    exact this
  obtain ⟨tim, gim⟩ : ∃ t, (List.toArray vsi)[((i : Nat) : Int).toNat]? = some (.int ((imgN sz.toNat st.toNat mo.toNat (spN sz.toNat st.toNat sa.toNat i)) : Int) t) := by
    obtain ⟨t, e⟩ := ints_at ib (i := i) (k := imgV sz mo st sa i) (by rw [List.getElem?_map, List.getElem?_range (by omega)]; rfl)
    exact ⟨t, by rw [← hiv]; simpa using e⟩
  obtain ⟨d, th, uh, gh0, hd⟩ := hh _ him
  have gh : (List.toArray hv)[(((imgN sz.toNat st.toNat mo.toNat (spN sz.toNat st.toNat sa.toNat i)) : Nat) : Int).toNat]? = some (.ref d) := by simpa using gh0
  have ecb : Txt.slice (sv (Wn sz.toNat st.toNat (2 * sz.toNat - i) (spN sz.toNat st.toNat sa.toNat i))) none (some mo) = sv (Wn sz.toNat st.toNat mo.toNat (spN sz.toNat st.toNat sa.toNat i)) := by
    have := cutb_eq PN hi
    rw [← em] at this
    exact this
  have hlb : (sv (Wn sz.toNat st.toNat (2 * sz.toNat - i) (spN sz.toNat st.toNat sa.toNat i))).length ≤ 1000 := by rw [sv_len, Wn_len]; omega
  have hlw : (Wn sz.toNat st.toNat mo.toNat (spN sz.toNat st.toNat sa.toNat i)).length ≤ 1000 := by rw [Wn_len]; omega
  have hrev := EO.r
  clear ib hh gh0 EO
  have X := G.X
  have T := G.T
  unfold PR; revert X; k_fill; intro X
  refine segN (A := fun sc => (Ar dp un fr gd).deeper (envOfC (PySem.Str.ofString "law") sc L fa cd)) (l := lawForSeg 12 3 1 rest) (l' := _ :: rest) rfl rfl ?_
  (try dsimp only)
  k_unmd
  (try k_fold)
  k_steps
  unfold Stop
  rename Fr _ _ _ _ => F1
  rename News _ _ _ _ => N1
  refine eqAt2 ?e2_u (N1 _ (.tail _ (List.mem_append_right [(I, oI), (Dh, W.listOf (List.toArray hv) ch), (Dc, W.listOf (List.toArray cv) cc), (Dg, W.listOf (List.toArray gv) cg), (Di, W.listOf (List.toArray vsi) ci), (Ds, W.listOf (List.toArray vss) cs), (L + 1 + 1 + 1 + 1 + 1 + 1, o6), (L + 1 + 1 + 1 + 1 + 1, o5), (L + 1 + 1 + 1 + 1, o4), (L + 1 + 1 + 1, o3), (L + 1 + 1, o2), (L + 1, o1)] hd))).1 (News.get N1 (List.Mem.head _)) rfl (congrArg sv hrev) ?_
  case e2_u => (show un + _ < cLine; omega)
  k_steps
  rename Fr _ _ _ _ => F9
  rename News _ _ _ _ => N9
  exact hk _ _ F9 (fun q hq => N9 q (.tail _ hq))
end
section
theorem rs60 : True := by
  w_top off
  exact trivial
def J11 (n st sa mo : Nat) (bs nx : List (Addr × Obj)) (i : Nat) (ys : List Value) (nw : List (Addr × Obj)) : Prop :=
  ∃ nx', nw = bs ++ nx' ∧ ys.length = i ∧ (∀ q ∈ nx, q ∈ nx') ∧ ∀ j, j < i → ∃ (d : Addr) (t u : Tok), ys[j]? = some (.ref d) ∧ (d, tupO [.int (spN n st sa j : Int) t, .str (sv (Wn n st mo (spN n st sa j))) u]) ∈ nx'

local macro_rules | `(tactic| walk_at "CompSrc") => `(tactic| (refine Stop.mk ?_))
local macro_rules | `(tactic| walk_at "CompEnd") => `(tactic| (refine Stop.mk ?_))
local macro_rules | `(tactic| walk_at "call builtin:sorted") => `(tactic| (refine Stop.mk ?_))
local macro_rules | `(tactic| walk_at "eval ListComp") => `(tactic| (k_here; k_dflt (refine LCg.ListComp_U (F₀ := by k_asm) (by with_unfolding_all rfl) (by decide) (by rfl) (by decide) (by rfl) ?_)))
set_option maxHeartbeats 8000000 in
theorem seg11 {w : World} {p : Program} {loose : List Str} {mean : ExcName → Option Value} {mg mb : Str → Option Value} {dp un : Nat} {fr : Option (List Env)} {gd : Option (List Code)} {s0 : Shared} {Q : Flow → Shared → Prop} {h₀ : Heap} {L fa : Addr} {cd : Value} {m : Str → Option Value} {rest : List Stmt}
    (G : Gd w p loose mean mg mb h₀) (hdp : dp + 100 < recursionLimit) (F : Fr h₀ L s0.heap m)
    {o1 o2 o3 o4 o5 o6 : Obj} {sz sh va mo st sa : Int} {t1 t2 t3 t4 t5 t6 : Tok} (P : Pars sz sh va mo st sa) {vss vsi : List Value} {cs ci : Nat} {nx : List (Addr × Obj)} {Ds Di : Addr} {gv cv : List Value} {cg cc : Nat} {Dg Dc : Addr} {tt : Tok} (N : News h₀ L s0.heap ((Dc, W.listOf (List.toArray cv) cc) :: (Dg, W.listOf (List.toArray gv) cg) :: (Di, W.listOf (List.toArray vsi) ci) :: (Ds, W.listOf (List.toArray vss) cs) :: (L + 1 + 1 + 1 + 1 + 1 + 1, o6) :: (L + 1 + 1 + 1 + 1 + 1, o5) :: (L + 1 + 1 + 1 + 1, o4) :: (L + 1 + 1 + 1, o3) :: (L + 1 + 1, o2) :: (L + 1, o1) :: nx)) (d1 : o1.data = .cell (some (.int sz t1))) (d2 : o2.data = .cell (some (.int mo t2))) (d3 : o3.data = .cell (some (.int st t3))) (d4 : o4.data = .cell (some (.int sa t4))) (d5 : o5.data = .cell (some (.ref Ds))) (d6 : o6.data = .cell (some (.str (txV sz st sa) tt)))
    (ia : IntsAre vss ((List.range sz.toNat).map (spotV sz st sa)))
    (hk : ∀ Dh hv ch nx' h' tk, Fr h₀ L h' (fun q => if q = (PySem.Str.ofString "heard") then some (.ref Dh) else m q) → News h₀ L h' ((Dh, W.listOf (List.toArray hv) ch) :: (Dc, W.listOf (List.toArray cv) cc) :: (Dg, W.listOf (List.toArray gv) cg) :: (Di, W.listOf (List.toArray vsi) ci) :: (Ds, W.listOf (List.toArray vss) cs) :: (L + 1 + 1 + 1 + 1 + 1 + 1, o6) :: (L + 1 + 1 + 1 + 1 + 1, o5) :: (L + 1 + 1 + 1 + 1, o4) :: (L + 1 + 1 + 1, o3) :: (L + 1 + 1, o2) :: (L + 1, o1) :: nx') → hv.length = sz.toNat →
      (∀ k, k < sz.toNat → ∃ (d : Addr) (t u : Tok), hv[k]? = some (.ref d) ∧ (d, tupO [.int (k : Int) t, .str (sv (Wn sz.toNat st.toNat mo.toNat k)) u]) ∈ nx') → (∀ q ∈ nx, q ∈ nx') → wpAny (model PR w) ((Ar dp un fr gd).deeper (lawEnv L fa cd)) (execs rest (lawEnv L fa cd)) Q (fun _ _ => False) { s0 with heap := h', toks := tk }) :
    wpAny (model PR w) ((Ar dp un fr gd).deeper (lawEnv L fa cd)) (execs (lawSeg 11 1 rest) (lawEnv L fa cd)) Q (fun _ _ => False) s0 := by
  obtain ⟨PN, ez, et, ea, em⟩ := P.nat
  have hz16 := P.z
  have X := G.X
  have T := G.T
  unfold PR; revert X; k_fill; intro X
  refine segN (A := fun sc => (Ar dp un fr gd).deeper (envOfC (PySem.Str.ofString "law") sc L fa cd)) (l := lawSeg 11 1 rest) (l' := _ :: rest) rfl rfl ?_
  (try dsimp only)
  k_unmd
  (try k_fold)
  k_steps
  unfold Stop
  rename IsRange _ _ _ _ _ _ _ _ => hr
  rename Fr _ _ _ _ => F1
  rename News _ _ _ _ => N1
  refine LCg.CompSrc.range (n := sz.toNat) rfl F1 N1 hr (small_01 (by omega) (by omega)) (by rw [size_01 (by omega)]; rw [Int.sub_zero]) (by rw [sizeLine_eq]; omega) ?_
  intro g
  clear N1 F1 hr
  refine compRest_ind (J11 sz.toNat st.toNat sa.toNat mo.toNat [(Dc, W.listOf (List.toArray cv) cc), (Dg, W.listOf (List.toArray gv) cg), (Di, W.listOf (List.toArray vsi) ci), (Ds, W.listOf (List.toArray vss) cs), (L + 1 + 1 + 1 + 1 + 1 + 1, o6), (L + 1 + 1 + 1 + 1 + 1, o5), (L + 1 + 1 + 1 + 1, o4), (L + 1 + 1 + 1, o3), (L + 1 + 1, o2), (L + 1, o1)] nx) ⟨nx, rfl, rfl, fun q hq => hq, fun j hj => absurd hj (Nat.not_lt_zero _)⟩ ?turn ?fin
  case fin =>
    intro ys nw hj
    unfold LCg.FinE
    intro D h tk F9 N9 ho
    obtain ⟨nx', rfl, hyl, hsub, hit⟩ := hj
    (try simp only [List.cons_append, List.nil_append] at N9)
    k_steps
    unfold Stop
    rename Fr _ _ _ _ => F2
    rename News _ _ _ _ => N2
    refine sortedH PN (z := fun k => sv (Wn sz.toNat st.toNat mo.toNat k)) F2 N2 (List.Mem.head _) hyl (fun j hj => ?_) ?_
    · obtain ⟨d, t, u, h1, h2⟩ := hit j hj
      exact ⟨d, t, u, h1, .tail _ (List.mem_append_right [(Dc, W.listOf (List.toArray cv) cc), (Dg, W.listOf (List.toArray gv) cg), (Di, W.listOf (List.toArray vsi) ci), (Ds, W.listOf (List.toArray vss) cs), (L + 1 + 1 + 1 + 1 + 1 + 1, o6), (L + 1 + 1 + 1 + 1 + 1, o5), (L + 1 + 1 + 1 + 1, o4), (L + 1 + 1 + 1, o3), (L + 1 + 1, o2), (L + 1, o1)] h2)⟩
    intro D2 out c' h2 tk2 hlen hout F3 N3 l3
    k_steps
    rename Fr _ _ _ _ => F9
    rename News _ _ _ _ => N9
    refine hk D2 out c' ((D, LCg.lst ys) :: (Dc, W.listOf (List.toArray cv) cc) :: (Dg, W.listOf (List.toArray gv) cg) :: (Di, W.listOf (List.toArray vsi) ci) :: (Ds, W.listOf (List.toArray vss) cs) :: (L + 1 + 1 + 1 + 1 + 1 + 1, o6) :: (L + 1 + 1 + 1 + 1 + 1, o5) :: (L + 1 + 1 + 1 + 1, o4) :: (L + 1 + 1 + 1, o3) :: (L + 1 + 1, o2) :: (L + 1, o1) :: nx') _ _ F9 (fun q hq => N9 q ?_) hlen hout (fun q hq => .tail _ (List.mem_append_right [(Dc, W.listOf (List.toArray cv) cc), (Dg, W.listOf (List.toArray gv) cg), (Di, W.listOf (List.toArray vsi) ci), (Ds, W.listOf (List.toArray vss) cs), (L + 1 + 1 + 1 + 1 + 1 + 1, o6), (L + 1 + 1 + 1 + 1 + 1, o5), (L + 1 + 1 + 1 + 1, o4), (L + 1 + 1 + 1, o3), (L + 1 + 1, o2), (L + 1, o1)] (hsub q hq)))
    rcases List.mem_cons.mp hq with hq | hq
    · exact hq ▸ List.Mem.head _
    · have : q ∈ [(Dc, W.listOf (List.toArray cv) cc), (Dg, W.listOf (List.toArray gv) cg), (Di, W.listOf (List.toArray vsi) ci), (Ds, W.listOf (List.toArray vss) cs), (L + 1 + 1 + 1 + 1 + 1 + 1, o6), (L + 1 + 1 + 1 + 1 + 1, o5), (L + 1 + 1 + 1 + 1, o4), (L + 1 + 1 + 1, o3), (L + 1 + 1, o2), (L + 1, o1)] ++ ((D, LCg.lst ys) :: (Dc, W.listOf (List.toArray cv) cc) :: (Dg, W.listOf (List.toArray gv) cg) :: (Di, W.listOf (List.toArray vsi) ci) :: (Ds, W.listOf (List.toArray vss) cs) :: (L + 1 + 1 + 1 + 1 + 1 + 1, o6) :: (L + 1 + 1 + 1 + 1 + 1, o5) :: (L + 1 + 1 + 1 + 1, o4) :: (L + 1 + 1 + 1, o3) :: (L + 1 + 1, o2) :: (L + 1, o1) :: nx') := hq
      rcases List.mem_append.mp this with h | h
      · exact .tail _ (.tail _ (List.mem_append_left (bs := nx') h))
      · exact .tail _ h
  case turn =>
    intro i ys nw v I oI C oC D m₂ h tk E' hi hv hj hC hx F N off ne
    obtain ⟨tv, rfl⟩ := hv
    rw [Int.zero_add] at hx
    obtain ⟨nx', rfl, hyl, hsub, hit⟩ := hj
    have hsp : spotV sz st sa i = (spN sz.toNat st.toNat sa.toNat i : Int) := by
      have := spot_nat (n := sz.toNat) (st := st.toNat) (sa := sa.toNat) i
      rw [← ez, ← et, ← ea] at this
      exact this
    obtain ⟨tsp, gsp⟩ : ∃ t, (List.toArray vss)[((i : Nat) : Int).toNat]? = some (.int (spN sz.toNat st.toNat sa.toNat i : Int) t) := by
      obtain ⟨t, e⟩ := ints_at ia (i := i) (k := spotV sz st sa i) (by rw [List.getElem?_map, List.getElem?_range (by omega)]; rfl)
      exact ⟨t, by rw [← hsp]; simpa using e⟩
    have ecut : Txt.slice (txV sz st sa) (some (i : Int)) (some ((i : Int) + mo)) = sv (Wn sz.toNat st.toNat mo.toNat (spN sz.toNat st.toNat sa.toNat i)) := by
      have := text_cut (i := i) PN (by omega)
      rw [← em] at this
      exact this
    have hlx : (txV sz st sa).length ≤ 1000 := by unfold txV; rw [sv_len, Wn_len]; omega
    (try simp only [List.cons_append, List.nil_append] at N off)
    k_steps
    unfold Stop
    rename Fr _ _ _ _ => F3
    rename News _ _ _ _ => N3
    fail "lt&"
    rename @LT.lt _ _ I _ ∧ _ => k1
    refine compEnd_ins [(Dc, W.listOf (List.toArray cv) cc), (Dg, W.listOf (List.toArray gv) cg), (Di, W.listOf (List.toArray vsi) ci), (Ds, W.listOf (List.toArray vss) cs), (L + 1 + 1 + 1 + 1 + 1 + 1, o6), (L + 1 + 1 + 1 + 1 + 1, o5), (L + 1 + 1 + 1 + 1, o4), (L + 1 + 1 + 1, o3), (L + 1 + 1, o2), (L + 1, o1)] nx' F3 N3 off (Nat.ne_of_lt k1.1) (Nat.ne_of_lt k1.2.1) (Nat.ne_of_lt k1.2.2.1) ⟨_, rfl, by simp [hyl], fun q hq => .tail _ (hsub q hq), fun j hj => ?_⟩
    by_cases q : j < i
    · obtain ⟨d, t, u, h1, h2⟩ := hit j q
      exact ⟨d, t, u, by rw [List.getElem?_append_left (by rw [hyl]; exact q)]; exact h1, .tail _ h2⟩
    · obtain rfl : j = i := by omega
      exact ⟨_, _, _, by rw [← hyl]; simp, List.Mem.head _⟩
end
section
def J12 (Dc Dh Dg Di : Addr) (bs : List (Addr × Obj)) (m : Str → Option Value) (nw : List (Addr × Obj)) : Prop := nw = bs ∧ m (PySem.Str.ofString "cuts") = some (.ref Dc) ∧ m (PySem.Str.ofString "heard") = some (.ref Dh) ∧ m (PySem.Str.ofString "grown") = some (.ref Dg) ∧ m (PySem.Str.ofString "images") = some (.ref Di)
set_option maxHeartbeats 8000000 in
theorem turn12 {w : World} {p : Program} {loose : List Str} {mean : ExcName → Option Value} {mg mb : Str → Option Value} {dp un : Nat} {fr : Option (List Env)} {gd : Option (List Code)} {s0 : Shared} {Q : Flow → Shared → Prop} {h₀ : Heap} {L fa : Addr} {cd : Value} {m : Str → Option Value}
    (G : Gd w p loose mean mg mb h₀) (hdp : dp + 100 < recursionLimit) (F : Fr h₀ L s0.heap m)
    {o1 o2 o3 o4 o5 o6 : Obj} {sz sh va mo st sa : Int} {t1 t2 t3 t4 t5 t6 : Tok} (P : Pars sz sh va mo st sa) {vss vsi : List Value} {cs ci : Nat} {nx : List (Addr × Obj)} {Ds Di : Addr} {gv cv hv : List Value} {cg cc ch i : Nat} {Dg Dc Dh I : Addr} {oI : Obj} {tt : Tok} {tn : Tok} (N : News h₀ L s0.heap ((I, oI) :: (Dh, W.listOf (List.toArray hv) ch) :: (Dc, W.listOf (List.toArray cv) cc) :: (Dg, W.listOf (List.toArray gv) cg) :: (Di, W.listOf (List.toArray vsi) ci) :: (Ds, W.listOf (List.toArray vss) cs) :: (L + 1 + 1 + 1 + 1 + 1 + 1, o6) :: (L + 1 + 1 + 1 + 1 + 1, o5) :: (L + 1 + 1 + 1 + 1, o4) :: (L + 1 + 1 + 1, o3) :: (L + 1 + 1, o2) :: (L + 1, o1) :: nx)) (d1 : o1.data = .cell (some (.int sz t1))) (d2 : o2.data = .cell (some (.int mo t2))) (d3 : o3.data = .cell (some (.int st t3))) (d4 : o4.data = .cell (some (.int sa t4))) (d5 : o5.data = .cell (some (.ref Ds))) (d6 : o6.data = .cell (some (.str (txV sz st sa) tt))) (hun : un + 100 < cLine)
    (m1 : m (PySem.Str.ofString "number") = some (.int (i : Int) tn)) (m2 : m (PySem.Str.ofString "cuts") = some (.ref Dc)) (m3 : m (PySem.Str.ofString "heard") = some (.ref Dh)) (m4 : m (PySem.Str.ofString "grown") = some (.ref Dg)) (m5 : m (PySem.Str.ofString "images") = some (.ref Di)) (hi : i < sz.toNat)
    (ia : IntsAre vss ((List.range sz.toNat).map (spotV sz st sa))) (ib : IntsAre vsi ((List.range sz.toNat).map (imgV sz mo st sa))) (ic : IntsAre cv (castL (cutsN sz.toNat st.toNat (mo.toNat + 1)))) (ig : StrsAre gv ((Gr sz.toNat st.toNat mo.toNat).map sv)) (hh : ∀ k, k < sz.toNat → ∃ (d : Addr) (t u : Tok), hv[k]? = some (.ref d) ∧ (d, tupO [.int (k : Int) t, .str (sv (Wn sz.toNat st.toNat mo.toNat k)) u]) ∈ nx) (hI : AllNe I ((Dh, W.listOf (List.toArray hv) ch) :: (Dc, W.listOf (List.toArray cv) cc) :: (Dg, W.listOf (List.toArray gv) cg) :: (Di, W.listOf (List.toArray vsi) ci) :: (Ds, W.listOf (List.toArray vss) cs) :: (L + 1 + 1 + 1 + 1 + 1 + 1, o6) :: (L + 1 + 1 + 1 + 1 + 1, o5) :: (L + 1 + 1 + 1 + 1, o4) :: (L + 1 + 1 + 1, o3) :: (L + 1 + 1, o2) :: (L + 1, o1) :: nx)) :
    wpAny (model PR w) ((Ar dp un fr gd).deeper (lawEnv L fa cd)) (execs (lawForSeg 12 0 1 (lawForSeg 12 1 1 (lawForSeg 12 2 1 (lawForSeg 12 3 1 [])))) (lawEnv L fa cd)) (TurnP h₀ L I oI (J12 Dc Dh Dg Di ((Dh, W.listOf (List.toArray hv) ch) :: (Dc, W.listOf (List.toArray cv) cc) :: (Dg, W.listOf (List.toArray gv) cg) :: (Di, W.listOf (List.toArray vsi) ci) :: (Ds, W.listOf (List.toArray vss) cs) :: (L + 1 + 1 + 1 + 1 + 1 + 1, o6) :: (L + 1 + 1 + 1 + 1 + 1, o5) :: (L + 1 + 1 + 1 + 1, o4) :: (L + 1 + 1 + 1, o3) :: (L + 1 + 1, o2) :: (L + 1, o1) :: nx)) s0 Q) (fun _ _ => False) s0 := by
  refine turn12a (t1 := t1) (t2 := t2) (t3 := t3) (t4 := t4) (t5 := t5) (t6 := t6) (tt := tt) G hdp F P N d1 d2 d3 d4 d5 d6 m1 m2 hi ia ic ?_
  intro ti tb h1 tk1 F1 N1
  refine turn12b (s0 := { s0 with heap := h1, toks := tk1 }) (t1 := t1) (t2 := t2) (t3 := t3) (t4 := t4) (t5 := t5) (t6 := t6) (tt := tt) G hdp F1 P N1 rfl rfl m4 hi ig ?_
  intro h2 tk2 F2 N2
  refine turn12c (s0 := { s0 with heap := h2, toks := tk2 }) (t1 := t1) (t2 := t2) (t3 := t3) (t4 := t4) (t5 := t5) (t6 := t6) (tt := tt) G hdp F2 P N2 d1 d2 d3 d4 d6 rfl rfl m4 hi ig ?_
  intro h3 tk3 F3 N3
  refine turn12d (s0 := { s0 with heap := h3, toks := tk3 }) (t1 := t1) (t2 := t2) (t3 := t3) (t4 := t4) (t5 := t5) (t6 := t6) (tt := tt) G hdp F3 P N3 d1 d2 d3 d4 hun m1 rfl m3 m5 hi ib hh ?_
  intro h4 tk4 F4 N4
  refine wpAny_execs_nil ?_
  show TurnE _ _ _ _ _ _ _
  exact TurnE.intro F4 N4 hI ⟨rfl, m2, m3, m4, m5⟩
end
end
end
section
open PySem PySem.W PySem.Calls PyProof.Rows
def mc18 : Lean.MacroM Lean.Syntax := `(tactic| (k_here; (rename Fr _ _ _ _ => lF'); (with_unfolding_all refine' For_invVF lF' ?k1 ?k2 ?_; (case k1 => exact rfl); (case k2 => exact rfl); k_whole)))
local macro_rules | `(tactic| walk_at "exec For Name Call cons nil") => mc18
local macro_rules | `(tactic| walk_at "pyIter ref") => mc10
section
theorem rs62 : True := by
  w_top off
  exact trivial
local macro_rules | `(tactic| walk_at "CompSrc") => `(tactic| (refine Stop.mk ?_))
local macro_rules | `(tactic| walk_at "CompEnd") => `(tactic| (refine Stop.mk ?_))
local macro_rules | `(tactic| walk_at "call ref") => mc11
-- => `(tactic| (k_here; k_dflt (refine LCg.Assign_ListComp_U (F₀ := by k_asm) (by rfl) (by with_unfolding_all rfl) (by with_unfolding_all rfl) (by decide) (by rfl) (by decide) (by rfl) (by rfl) (by rfl) ?_)))
set_option maxHeartbeats 8000000 in
theorem segC {w : World} {p : Program} {loose : List Str} {mean : ExcName → Option Value} {mg mb : Str → Option Value} {dp un : Nat} {fr : Option (List Env)} {gd : Option (List Code)} {s0 : Shared} {Q : Flow → Shared → Prop} {h₀ : Heap} {L fa : Addr} {cd : Value} {m : Str → Option Value} {rest : List Stmt}
    (G : Gd w p loose mean mg mb h₀) (hdp : dp + 100 < recursionLimit) (F : Fr h₀ L s0.heap m)
    {o1 o2 o3 o4 o5 o6 : Obj} {sz sh va mo st sa : Int} {t1 t2 t3 t4 t5 t6 : Tok} (P : Pars sz sh va mo st sa) {vs : List Value} {nx : List (Addr × Obj)} {Dt : Addr} (N : News h₀ L s0.heap ((Dt, LCg.lst vs) :: (L + 1 + 1 + 1 + 1 + 1 + 1, o6) :: (L + 1 + 1 + 1 + 1 + 1, o5) :: (L + 1 + 1 + 1 + 1, o4) :: (L + 1 + 1 + 1, o3) :: (L + 1 + 1, o2) :: (L + 1, o1) :: nx)) (l0 : AllNe Dt ((L + 1 + 1 + 1 + 1 + 1 + 1, o6) :: (L + 1 + 1 + 1 + 1 + 1, o5) :: (L + 1 + 1 + 1 + 1, o4) :: (L + 1 + 1 + 1, o3) :: (L + 1 + 1, o2) :: (L + 1, o1) :: nx)) (hT : Turned sz st sa (sz.toNat + 1) vs nx) (hN : CellsNe L nx)
    (d1 : o1.data = .cell (some (.int sz t1))) (d2 : o2.data = .cell (some (.int mo t2))) (d3 : o3.data = .cell (some (.int st t3))) (d4 : o4.data = .cell (some (.int sa t4))) (d5 : o5.data = .cell none) (hun : un + 100 < cLine)
    (m1 : m (PySem.Str.ofString "turned") = some (.ref Dt)) (m2 : m (PySem.Str.ofString "share") = some (.int sh t5)) (m3 : m (PySem.Str.ofString "value") = some (.int va t6))
    (hk : ∀ Ds Di Dl o5' h' tk m' nw, Fr h₀ L h' m' → News h₀ L h' nw → SCJ L Dt Ds Di Dl o1 o2 o3 o4 o5' o6 vs nx sz sh va mo st sa t5 t6 sz.toNat m' nw → o5'.data = .cell (some (.ref Ds)) →
      AllNe Ds ((L + 1 + 1 + 1 + 1 + 1 + 1, o6) :: (L + 1 + 1 + 1 + 1 + 1, o5) :: (L + 1 + 1 + 1 + 1, o4) :: (L + 1 + 1 + 1, o3) :: (L + 1 + 1, o2) :: (L + 1, o1) :: nx) → AllNe Di ((L + 1 + 1 + 1 + 1 + 1 + 1, o6) :: (L + 1 + 1 + 1 + 1 + 1, o5) :: (L + 1 + 1 + 1 + 1, o4) :: (L + 1 + 1 + 1, o3) :: (L + 1 + 1, o2) :: (L + 1, o1) :: nx) → AllNe Dl ((L + 1 + 1 + 1 + 1 + 1 + 1, o6) :: (L + 1 + 1 + 1 + 1 + 1, o5) :: (L + 1 + 1 + 1 + 1, o4) :: (L + 1 + 1 + 1, o3) :: (L + 1 + 1, o2) :: (L + 1, o1) :: nx) → Dif Ds Di Dl → Ne3 Dt Ds Di Dl →
      wpAny (model PR w) ((Ar dp un fr gd).deeper (lawEnv L fa cd)) (execs rest (lawEnv L fa cd)) Q (fun _ _ => False) { s0 with heap := h', toks := tk }) :
    wpAny (model PR w) ((Ar dp un fr gd).deeper (lawEnv L fa cd)) (execs (lawSeg 4 2 rest) (lawEnv L fa cd)) Q (fun _ _ => False) s0 := by
  have hz16 := P.z
  simp only [AllNe] at l0
  obtain ⟨cn6, cn5, cn4, cn3, cn2, cn1⟩ := hN
  have X := G.X
  have T := G.T
  unfold PR; revert X; k_fill; intro X
  refine seg2 (A := fun sc => (Ar dp un fr gd).deeper (envOfC (PySem.Str.ofString "law") sc L fa cd)) (l := lawSeg 4 2 rest) (rest := rest) rfl rfl ?_
  (try dsimp only)
  k_unmd
  (try k_fold)
  k_steps
  unfold Stop
  rename IsRange _ _ _ _ _ _ _ _ => hr
  rename Fr _ _ _ _ => F9
  rename News _ _ _ _ => N9
  rename _ = Data.cell (some (Value.ref _)) => d9
  fail "lt&"
  rename @LT.lt _ _ Dt _ ∧ _ => k1
  rename _ ∧ @LT.lt _ _ Dt _ ∧ _ => k2
  rename _ ∧ _ ∧ @LT.lt _ _ Dt _ ∧ _ => k3
  rename _ ∧ _ ∧ _ ∧ @LT.lt _ _ Dt _ ∧ _ => k4
  have ns : AllNe _ ((L + 1 + 1 + 1 + 1 + 1 + 1, o6) :: (L + 1 + 1 + 1 + 1 + 1, o5) :: (L + 1 + 1 + 1 + 1, o4) :: (L + 1 + 1 + 1, o3) :: (L + 1 + 1, o2) :: (L + 1, o1) :: nx) := allNe_lt (l := (L + 1 + 1 + 1 + 1 + 1 + 1, o6) :: (L + 1 + 1 + 1 + 1 + 1, o5) :: (L + 1 + 1 + 1 + 1, o4) :: (L + 1 + 1 + 1, o3) :: (L + 1 + 1, o2) :: (L + 1, o1) :: nx) k1.2
  have ni : AllNe _ ((L + 1 + 1 + 1 + 1 + 1 + 1, o6) :: (L + 1 + 1 + 1 + 1 + 1, o5) :: (L + 1 + 1 + 1 + 1, o4) :: (L + 1 + 1 + 1, o3) :: (L + 1 + 1, o2) :: (L + 1, o1) :: nx) := allNe_lt (l := (L + 1 + 1 + 1 + 1 + 1 + 1, o6) :: (L + 1 + 1 + 1 + 1 + 1, o5) :: (L + 1 + 1 + 1 + 1, o4) :: (L + 1 + 1 + 1, o3) :: (L + 1 + 1, o2) :: (L + 1, o1) :: nx) k2.2.2
  have nl : AllNe _ ((L + 1 + 1 + 1 + 1 + 1 + 1, o6) :: (L + 1 + 1 + 1 + 1 + 1, o5) :: (L + 1 + 1 + 1 + 1, o4) :: (L + 1 + 1 + 1, o3) :: (L + 1 + 1, o2) :: (L + 1, o1) :: nx) := allNe_lt (l := (L + 1 + 1 + 1 + 1 + 1 + 1, o6) :: (L + 1 + 1 + 1 + 1 + 1, o5) :: (L + 1 + 1 + 1 + 1, o4) :: (L + 1 + 1 + 1, o3) :: (L + 1 + 1, o2) :: (L + 1, o1) :: nx) k3.2.2.2
  have dif : Dif _ _ _ := ⟨Nat.ne_of_lt k2.1, Nat.ne_of_lt k3.2.1, Nat.ne_of_lt k3.1⟩
  have dt3 : Ne3 Dt _ _ _ := ⟨Nat.ne_of_lt k1.1, Nat.ne_of_lt k2.2.1, Nat.ne_of_lt k3.2.2.1⟩
  have hlt : sz ≤ 1000 := by rcases hz16 with h | h <;> rw [h] <;> decide
  have hz0 : 0 ≤ sz := by rcases hz16 with h | h <;> rw [h] <;> decide
  refine for_range (n := sz.toNat) (SCJ L Dt _ _ _ o1 o2 o3 o4 _ o6 vs nx sz sh va mo st sa t5 t6) rfl hr (small_01 hz0 hlt) (by rw [size_01 hz0, Int.sub_zero]) F9 (fun q hq => N9 q (.tail _ hq)) ⟨[], 0, [], 0, [], 0, rfl, m1, m2, m3, rfl, rfl, .nil, .nil, .nil⟩ ?turn ?done
  case turn =>
    intro i t mm nw h tk I o hi hne hj Fi Ni
    obtain ⟨vss, cs, vsi, ci, vsl, cl, rfl, q1, q2, q3, q4, q5, ia, ib, ic⟩ := hj
    rw [Int.zero_add] at Fi
    exact turnAll (s0 := { s0 with heap := h, toks := tk }) (tv := t) G hdp Fi P Ni hT d1 d2 d3 d4 d9 hi ⟨rfl, q1, q2, q3, q4, q5⟩ hun ia ib ic dif ns ni nl dt3 hne
  case done =>
    intro mm nw h tk hj Fi Ni
    exact hk _ _ _ _ h tk mm nw Fi Ni hj d9 ns ni nl dif dt3
end
section
theorem rs63 : True := by
  w_top off
  exact trivial
set_option maxHeartbeats 8000000 in
theorem seg7 {w : World} {p : Program} {loose : List Str} {mean : ExcName → Option Value} {mg mb : Str → Option Value} {dp un : Nat} {fr : Option (List Env)} {gd : Option (List Code)} {s0 : Shared} {Q : Flow → Shared → Prop} {h₀ : Heap} {L fa : Addr} {cd : Value} {m : Str → Option Value} {rest : List Stmt}
    (G : Gd w p loose mean mg mb h₀) (hdp : dp + 100 < recursionLimit) (F : Fr h₀ L s0.heap m)
    {o1 o2 o3 o4 o5 o6 : Obj} {sz sh va mo st sa : Int} {t1 t2 t3 t4 t5 t6 : Tok} (P : Pars sz sh va mo st sa) {vss vsi : List Value} {cs ci : Nat} {nx : List (Addr × Obj)} {Ds Di : Addr} {te : Tok} {cg : Nat} {Dg : Addr} {tt : Tok} (N : News h₀ L s0.heap ((Dg, W.listOf (List.toArray [.str (sv []) te]) cg) :: (Di, W.listOf (List.toArray vsi) ci) :: (Ds, W.listOf (List.toArray vss) cs) :: (L + 1 + 1 + 1 + 1 + 1 + 1, o6) :: (L + 1 + 1 + 1 + 1 + 1, o5) :: (L + 1 + 1 + 1 + 1, o4) :: (L + 1 + 1 + 1, o3) :: (L + 1 + 1, o2) :: (L + 1, o1) :: nx)) (d1 : o1.data = .cell (some (.int sz t1))) (d2 : o2.data = .cell (some (.int mo t2))) (d3 : o3.data = .cell (some (.int st t3))) (d4 : o4.data = .cell (some (.int sa t4))) (d6 : o6.data = .cell (some (.str (txV sz st sa) tt)))
    (m1 : m (PySem.Str.ofString "grown") = some (.ref Dg)) (m2 : m (PySem.Str.ofString "images") = some (.ref Di)) (hDg : AllNe Dg ((Di, W.listOf (List.toArray vsi) ci) :: (Ds, W.listOf (List.toArray vss) cs) :: (L + 1 + 1 + 1 + 1 + 1 + 1, o6) :: (L + 1 + 1 + 1 + 1 + 1, o5) :: (L + 1 + 1 + 1 + 1, o4) :: (L + 1 + 1 + 1, o3) :: (L + 1 + 1, o2) :: (L + 1, o1) :: nx))
    (hk : ∀ Dg gv cg h' tk m', Fr h₀ L h' m' → News h₀ L h' ((Dg, W.listOf (List.toArray gv) cg) :: (Di, W.listOf (List.toArray vsi) ci) :: (Ds, W.listOf (List.toArray vss) cs) :: (L + 1 + 1 + 1 + 1 + 1 + 1, o6) :: (L + 1 + 1 + 1 + 1 + 1, o5) :: (L + 1 + 1 + 1 + 1, o4) :: (L + 1 + 1 + 1, o3) :: (L + 1 + 1, o2) :: (L + 1, o1) :: nx) → StrsAre gv ((Gr sz.toNat st.toNat mo.toNat).map sv) → AllNe Dg ((Di, W.listOf (List.toArray vsi) ci) :: (Ds, W.listOf (List.toArray vss) cs) :: (L + 1 + 1 + 1 + 1 + 1 + 1, o6) :: (L + 1 + 1 + 1 + 1 + 1, o5) :: (L + 1 + 1 + 1 + 1, o4) :: (L + 1 + 1 + 1, o3) :: (L + 1 + 1, o2) :: (L + 1, o1) :: nx) → m' (PySem.Str.ofString "grown") = some (.ref Dg) → m' (PySem.Str.ofString "images") = some (.ref Di) → wpAny (model PR w) ((Ar dp un fr gd).deeper (lawEnv L fa cd)) (execs rest (lawEnv L fa cd)) Q (fun _ _ => False) { s0 with heap := h', toks := tk }) :
    wpAny (model PR w) ((Ar dp un fr gd).deeper (lawEnv L fa cd)) (execs (lawSeg 7 1 rest) (lawEnv L fa cd)) Q (fun _ _ => False) s0 := by
  have pm1 := P.m1
  have pm7 := P.m7
  have X := G.X
  have T := G.T
  unfold PR; revert X; k_fill; intro X
  refine segN (A := fun sc => (Ar dp un fr gd).deeper (envOfC (PySem.Str.ofString "law") sc L fa cd)) (l := lawSeg 7 1 rest) (l' := _ :: rest) rfl rfl ?_
  (try dsimp only)
  k_unmd
  (try k_fold)
  k_steps
  unfold Stop
  rename IsRange _ _ _ _ _ _ _ _ => hr
  rename Fr _ _ _ _ => F9
  rename News _ _ _ _ => N9
  refine for_range (n := mo.toNat) (J7 L Di sz.toNat st.toNat ((Di, W.listOf (List.toArray vsi) ci) :: (Ds, W.listOf (List.toArray vss) cs) :: (L + 1 + 1 + 1 + 1 + 1 + 1, o6) :: (L + 1 + 1 + 1 + 1 + 1, o5) :: (L + 1 + 1 + 1 + 1, o4) :: (L + 1 + 1 + 1, o3) :: (L + 1 + 1, o2) :: (L + 1, o1) :: nx)) rfl hr (small_a (by decide) (by omega) (by omega) (by decide)) (by rw [size_01 (by omega)]; omega) F9 N9 ⟨Dg, _, _, rfl, m1, m2, .cons _ _ .nil, hDg⟩ ?turn ?done
  case turn =>
    intro i t mm nw h tk I o hi hne hj Fi Ni
    obtain ⟨Dg', gv, cg', rfl, q1, q2, ig, hd⟩ := hj
    exact turn7 (s0 := { s0 with heap := h, toks := tk }) (t5 := t5) (t6 := t6) (tl := t) G hdp Fi P Ni d1 d2 d3 d4 d6 q1 q2 rfl hi ig hne
  case done =>
    intro mm nw h tk hj Fi Ni
    obtain ⟨Dg', gv, cg', rfl, q1, q2, ig, hd⟩ := hj
    exact hk _ _ _ h tk mm Fi Ni ig hd q1 q2
end
section
theorem rs64 : True := by
  w_top off
  exact trivial
local macro_rules | `(tactic| walk_at "exec For Name Name cons nil") => mc18
set_option maxHeartbeats 8000000 in
theorem seg8 {w : World} {p : Program} {loose : List Str} {mean : ExcName → Option Value} {mg mb : Str → Option Value} {dp un : Nat} {fr : Option (List Env)} {gd : Option (List Code)} {s0 : Shared} {Q : Flow → Shared → Prop} {h₀ : Heap} {L fa : Addr} {cd : Value} {m : Str → Option Value} {rest : List Stmt}
    (G : Gd w p loose mean mg mb h₀) (hdp : dp + 100 < recursionLimit) (F : Fr h₀ L s0.heap m)
    {o1 o2 o3 o4 o5 o6 : Obj} {sz sh va mo st sa : Int} {t1 t2 t3 t4 t5 t6 : Tok} (P : Pars sz sh va mo st sa) {vss vsi : List Value} {cs ci : Nat} {nx : List (Addr × Obj)} {Ds Di : Addr} {gv : List Value} {cg : Nat} {Dg : Addr} (N : News h₀ L s0.heap ((Dg, W.listOf (List.toArray gv) cg) :: (Di, W.listOf (List.toArray vsi) ci) :: (Ds, W.listOf (List.toArray vss) cs) :: (L + 1 + 1 + 1 + 1 + 1 + 1, o6) :: (L + 1 + 1 + 1 + 1 + 1, o5) :: (L + 1 + 1 + 1 + 1, o4) :: (L + 1 + 1 + 1, o3) :: (L + 1 + 1, o2) :: (L + 1, o1) :: nx))
    (m1 : m (PySem.Str.ofString "grown") = some (.ref Dg)) (m2 : m (PySem.Str.ofString "images") = some (.ref Di)) (ig : StrsAre gv ((Gr sz.toNat st.toNat mo.toNat).map sv))
    (hk : ∀ h' tk m', Fr h₀ L h' m' → News h₀ L h' ((Dg, W.listOf (List.toArray gv) cg) :: (Di, W.listOf (List.toArray vsi) ci) :: (Ds, W.listOf (List.toArray vss) cs) :: (L + 1 + 1 + 1 + 1 + 1 + 1, o6) :: (L + 1 + 1 + 1 + 1 + 1, o5) :: (L + 1 + 1 + 1 + 1, o4) :: (L + 1 + 1 + 1, o3) :: (L + 1 + 1, o2) :: (L + 1, o1) :: nx) → m' (PySem.Str.ofString "grown") = some (.ref Dg) → m' (PySem.Str.ofString "images") = some (.ref Di) → wpAny (model PR w) ((Ar dp un fr gd).deeper (lawEnv L fa cd)) (execs rest (lawEnv L fa cd)) Q (fun _ _ => False) { s0 with heap := h', toks := tk }) :
    wpAny (model PR w) ((Ar dp un fr gd).deeper (lawEnv L fa cd)) (execs (lawSeg 8 1 rest) (lawEnv L fa cd)) Q (fun _ _ => False) s0 := by
  have X := G.X
  have T := G.T
  unfold PR; revert X; k_fill; intro X
  refine segN (A := fun sc => (Ar dp un fr gd).deeper (envOfC (PySem.Str.ofString "law") sc L fa cd)) (l := lawSeg 8 1 rest) (l' := _ :: rest) rfl rfl ?_
  (try dsimp only)
  k_unmd
  (try k_fold)
  k_steps
  unfold Stop
  rename Fr _ _ _ _ => F9
  rename News _ _ _ _ => N9
  refine for_list (vs := List.toArray gv) (nn := cg) (fun _ => J8 Dg Di ((Dg, W.listOf (List.toArray gv) cg) :: (Di, W.listOf (List.toArray vsi) ci) :: (Ds, W.listOf (List.toArray vss) cs) :: (L + 1 + 1 + 1 + 1 + 1 + 1, o6) :: (L + 1 + 1 + 1 + 1 + 1, o5) :: (L + 1 + 1 + 1 + 1, o4) :: (L + 1 + 1 + 1, o3) :: (L + 1 + 1, o2) :: (L + 1, o1) :: nx)) rfl (List.Mem.head _) F9 N9 ⟨rfl, m1, m2⟩ (fun i mm nw h => h.1 ▸ List.Mem.head _) ?turn ?done
  case turn =>
    rintro i v mm nw h tk I o hv hne ⟨rfl, q1, q2⟩ Fi Ni
    obtain ⟨tw, wd, hw, rfl⟩ : ∃ tw wd, (Gr sz.toNat st.toNat mo.toNat)[i]? = some wd ∧ v = .str (sv wd) tw := by
      obtain ⟨p, t, e, hp⟩ := ig.item i v (by simpa using hv)
      rw [List.getElem?_map] at hp
      cases q : (Gr sz.toNat st.toNat mo.toNat)[i]? with
      | none => rw [q] at hp; cases hp
      | some w => rw [q] at hp; cases hp; exact ⟨t, w, rfl, e⟩
    exact turn8J (s0 := { s0 with heap := h, toks := tk }) (t1 := t1) (t2 := t2) (t3 := t3) (t4 := t4) (t5 := t5) (t6 := t6) G hdp Fi P Ni rfl q1 q2 (List.mem_of_getElem? hw) hne
  case done =>
    rintro mm nw h tk ⟨rfl, q1, q2⟩ Fi Ni
    exact hk h tk mm Fi Ni q1 q2
end
section
theorem rs65 : True := by
  w_top off
  exact trivial
def J10 (Dc Dg Di : Addr) (n st : Nat) (bs : List (Addr × Obj)) (i : Nat) (m : Str → Option Value) (nw : List (Addr × Obj)) : Prop := ∃ cv cc, nw = (Dc, W.listOf (List.toArray cv) cc) :: bs ∧ m (PySem.Str.ofString "cuts") = some (.ref Dc) ∧ m (PySem.Str.ofString "grown") = some (.ref Dg) ∧ m (PySem.Str.ofString "images") = some (.ref Di) ∧ IntsAre cv (castL (cutsN n st i))

set_option maxHeartbeats 8000000 in
theorem seg9 {w : World} {p : Program} {loose : List Str} {mean : ExcName → Option Value} {mg mb : Str → Option Value} {dp un : Nat} {fr : Option (List Env)} {gd : Option (List Code)} {s0 : Shared} {Q : Flow → Shared → Prop} {h₀ : Heap} {L fa : Addr} {cd : Value} {m : Str → Option Value} {rest : List Stmt}
    (G : Gd w p loose mean mg mb h₀) (hdp : dp + 100 < recursionLimit) (F : Fr h₀ L s0.heap m)
    {o1 o2 o3 o4 o5 o6 : Obj} {sz sh va mo st sa : Int} {t1 t2 t3 t4 t5 t6 : Tok} (P : Pars sz sh va mo st sa) {vss vsi : List Value} {cs ci : Nat} {nx : List (Addr × Obj)} {Ds Di : Addr} {gv : List Value} {cg : Nat} {Dg : Addr} (N : News h₀ L s0.heap ((Dg, W.listOf (List.toArray gv) cg) :: (Di, W.listOf (List.toArray vsi) ci) :: (Ds, W.listOf (List.toArray vss) cs) :: (L + 1 + 1 + 1 + 1 + 1 + 1, o6) :: (L + 1 + 1 + 1 + 1 + 1, o5) :: (L + 1 + 1 + 1 + 1, o4) :: (L + 1 + 1 + 1, o3) :: (L + 1 + 1, o2) :: (L + 1, o1) :: nx)) (d1 : o1.data = .cell (some (.int sz t1))) (d2 : o2.data = .cell (some (.int mo t2))) (d3 : o3.data = .cell (some (.int st t3))) (d4 : o4.data = .cell (some (.int sa t4))) (hT : Tail nx)
    (m1 : m (PySem.Str.ofString "grown") = some (.ref Dg)) (m2 : m (PySem.Str.ofString "images") = some (.ref Di))
    (hk : ∀ Dc h' tk m' nw, Fr h₀ L h' m' → News h₀ L h' nw → J10 Dc Dg Di sz.toNat st.toNat ((Dg, W.listOf (List.toArray gv) cg) :: (Di, W.listOf (List.toArray vsi) ci) :: (Ds, W.listOf (List.toArray vss) cs) :: (L + 1 + 1 + 1 + 1 + 1 + 1, o6) :: (L + 1 + 1 + 1 + 1 + 1, o5) :: (L + 1 + 1 + 1 + 1, o4) :: (L + 1 + 1 + 1, o3) :: (L + 1 + 1, o2) :: (L + 1, o1) :: nx) (mo.toNat + 1) m' nw → AllNe Dc ((Dg, W.listOf (List.toArray gv) cg) :: (Di, W.listOf (List.toArray vsi) ci) :: (Ds, W.listOf (List.toArray vss) cs) :: (L + 1 + 1 + 1 + 1 + 1 + 1, o6) :: (L + 1 + 1 + 1 + 1 + 1, o5) :: (L + 1 + 1 + 1 + 1, o4) :: (L + 1 + 1 + 1, o3) :: (L + 1 + 1, o2) :: (L + 1, o1) :: nx) → wpAny (model PR w) ((Ar dp un fr gd).deeper (lawEnv L fa cd)) (execs rest (lawEnv L fa cd)) Q (fun _ _ => False) { s0 with heap := h', toks := tk }) :
    wpAny (model PR w) ((Ar dp un fr gd).deeper (lawEnv L fa cd)) (execs (lawSeg 9 2 rest) (lawEnv L fa cd)) Q (fun _ _ => False) s0 := by
  have X := G.X
  have T := G.T
  unfold PR; revert X; k_fill; intro X
  refine segN (A := fun sc => (Ar dp un fr gd).deeper (envOfC (PySem.Str.ofString "law") sc L fa cd)) (l := lawSeg 9 2 rest) (l' := _ :: _ :: rest) rfl rfl ?_
  (try dsimp only)
  k_unmd
  (try k_fold)
  k_steps
  unfold Stop
  rename IsRange _ _ _ _ _ _ _ _ => hr
  rename Fr _ _ _ _ => F9
  rename News _ _ _ _ => N9
  fail "lt&"
  rename @LT.lt _ _ Dg _ ∧ _ => k1
  have pm1 := P.m1
  have pm7 := P.m7
  have hc := allNe_lt (l := (Dg, W.listOf (List.toArray gv) cg) :: (Di, W.listOf (List.toArray vsi) ci) :: (Ds, W.listOf (List.toArray vss) cs) :: (L + 1 + 1 + 1 + 1 + 1 + 1, o6) :: (L + 1 + 1 + 1 + 1 + 1, o5) :: (L + 1 + 1 + 1 + 1, o4) :: (L + 1 + 1 + 1, o3) :: (L + 1 + 1, o2) :: (L + 1, o1) :: nx) k1
  refine for_range (n := mo.toNat + 1) (J10 _ Dg Di sz.toNat st.toNat ((Dg, W.listOf (List.toArray gv) cg) :: (Di, W.listOf (List.toArray vsi) ci) :: (Ds, W.listOf (List.toArray vss) cs) :: (L + 1 + 1 + 1 + 1 + 1 + 1, o6) :: (L + 1 + 1 + 1 + 1 + 1, o5) :: (L + 1 + 1 + 1 + 1, o4) :: (L + 1 + 1 + 1, o3) :: (L + 1 + 1, o2) :: (L + 1, o1) :: nx)) rfl hr (small_01 (by omega) (by omega)) (by rw [size_01 (by omega)]; omega) F9 N9 ⟨[], 0, rfl, rfl, m1, m2, .nil⟩ ?turn ?done
  case turn =>
    intro i t mm nw h tk I o hi hne hj Fi Ni
    obtain ⟨cv, cc, rfl, q1, q2, q3, ic⟩ := hj
    rw [Int.zero_add] at Fi
    refine turn10 (s0 := { s0 with heap := h, toks := tk }) (rest := []) (t5 := t5) (t6 := t6) (tn := t) G hdp Fi P Ni d1 d2 d3 d4 hT q1 rfl (by omega) ic hc hne ?_
    intro cv' cc' h' tk' F' N' ic'
    refine wpAny_execs_nil ?_
    show TurnE _ _ _ _ _ _ _
    exact TurnE.intro F' N' hne ⟨cv', cc', rfl, q1, q2, q3, ic'⟩
  case done =>
    intro mm nw h tk hj Fi Ni
    exact hk _ h tk mm nw Fi Ni hj hc
end
section
local macro_rules | `(tactic| walk_at "zz") => `(tactic| skip)
theorem rs66 : True := by
  w_top off
  exact trivial
set_option maxHeartbeats 8000000 in
theorem seg12 {w : World} {p : Program} {loose : List Str} {mean : ExcName → Option Value} {mg mb : Str → Option Value} {dp un : Nat} {fr : Option (List Env)} {gd : Option (List Code)} {s0 : Shared} {Q : Flow → Shared → Prop} {h₀ : Heap} {L fa : Addr} {cd : Value} {m : Str → Option Value} {rest : List Stmt}
    (G : Gd w p loose mean mg mb h₀) (hdp : dp + 100 < recursionLimit) (F : Fr h₀ L s0.heap m)
    {o1 o2 o3 o4 o5 o6 : Obj} {sz sh va mo st sa : Int} {t1 t2 t3 t4 t5 t6 : Tok} (P : Pars sz sh va mo st sa) {vss vsi : List Value} {cs ci : Nat} {nx : List (Addr × Obj)} {Ds Di : Addr} {gv cv hv : List Value} {cg cc ch : Nat} {Dg Dc Dh : Addr} {tt : Tok} (N : News h₀ L s0.heap ((Dh, W.listOf (List.toArray hv) ch) :: (Dc, W.listOf (List.toArray cv) cc) :: (Dg, W.listOf (List.toArray gv) cg) :: (Di, W.listOf (List.toArray vsi) ci) :: (Ds, W.listOf (List.toArray vss) cs) :: (L + 1 + 1 + 1 + 1 + 1 + 1, o6) :: (L + 1 + 1 + 1 + 1 + 1, o5) :: (L + 1 + 1 + 1 + 1, o4) :: (L + 1 + 1 + 1, o3) :: (L + 1 + 1, o2) :: (L + 1, o1) :: nx)) (d1 : o1.data = .cell (some (.int sz t1))) (d2 : o2.data = .cell (some (.int mo t2))) (d3 : o3.data = .cell (some (.int st t3))) (d4 : o4.data = .cell (some (.int sa t4))) (d5 : o5.data = .cell (some (.ref Ds))) (d6 : o6.data = .cell (some (.str (txV sz st sa) tt))) (hun : un + 100 < cLine)
    (m2 : m (PySem.Str.ofString "cuts") = some (.ref Dc)) (m3 : m (PySem.Str.ofString "heard") = some (.ref Dh)) (m4 : m (PySem.Str.ofString "grown") = some (.ref Dg)) (m5 : m (PySem.Str.ofString "images") = some (.ref Di))
    (ia : IntsAre vss ((List.range sz.toNat).map (spotV sz st sa))) (ib : IntsAre vsi ((List.range sz.toNat).map (imgV sz mo st sa))) (ic : IntsAre cv (castL (cutsN sz.toNat st.toNat (mo.toNat + 1)))) (ig : StrsAre gv ((Gr sz.toNat st.toNat mo.toNat).map sv)) (hh : ∀ k, k < sz.toNat → ∃ (d : Addr) (t u : Tok), hv[k]? = some (.ref d) ∧ (d, tupO [.int (k : Int) t, .str (sv (Wn sz.toNat st.toNat mo.toNat k)) u]) ∈ nx)
    (hk : ∀ h' tk m', Fr h₀ L h' m' → News h₀ L h' ((Dh, W.listOf (List.toArray hv) ch) :: (Dc, W.listOf (List.toArray cv) cc) :: (Dg, W.listOf (List.toArray gv) cg) :: (Di, W.listOf (List.toArray vsi) ci) :: (Ds, W.listOf (List.toArray vss) cs) :: (L + 1 + 1 + 1 + 1 + 1 + 1, o6) :: (L + 1 + 1 + 1 + 1 + 1, o5) :: (L + 1 + 1 + 1 + 1, o4) :: (L + 1 + 1 + 1, o3) :: (L + 1 + 1, o2) :: (L + 1, o1) :: nx) → wpAny (model PR w) ((Ar dp un fr gd).deeper (lawEnv L fa cd)) (execs rest (lawEnv L fa cd)) Q (fun _ _ => False) { s0 with heap := h', toks := tk }) :
    wpAny (model PR w) ((Ar dp un fr gd).deeper (lawEnv L fa cd)) (execs (lawSeg 12 1 rest) (lawEnv L fa cd)) Q (fun _ _ => False) s0 := by
  have hz16 := P.z
  have X := G.X
  have T := G.T
  unfold PR; revert X; k_fill; intro X
  refine segN (A := fun sc => (Ar dp un fr gd).deeper (envOfC (PySem.Str.ofString "law") sc L fa cd)) (l := lawSeg 12 1 rest) (l' := _ :: rest) rfl rfl ?_
  (try dsimp only)
  k_unmd
  (try k_fold)
  k_steps
  unfold Stop
  rename IsRange _ _ _ _ _ _ _ _ => hr
  rename Fr _ _ _ _ => F9
  rename News _ _ _ _ => N9
  have hlt : sz ≤ 1000 := by rcases hz16 with h | h <;> rw [h] <;> decide
  have hz0 : 0 ≤ sz := by rcases hz16 with h | h <;> rw [h] <;> decide
  refine for_range (n := sz.toNat) (fun _ => J12 Dc Dh Dg Di ((Dh, W.listOf (List.toArray hv) ch) :: (Dc, W.listOf (List.toArray cv) cc) :: (Dg, W.listOf (List.toArray gv) cg) :: (Di, W.listOf (List.toArray vsi) ci) :: (Ds, W.listOf (List.toArray vss) cs) :: (L + 1 + 1 + 1 + 1 + 1 + 1, o6) :: (L + 1 + 1 + 1 + 1 + 1, o5) :: (L + 1 + 1 + 1 + 1, o4) :: (L + 1 + 1 + 1, o3) :: (L + 1 + 1, o2) :: (L + 1, o1) :: nx)) rfl hr (small_01 hz0 hlt) (by rw [size_01 hz0, Int.sub_zero]) F9 N9 ⟨rfl, m2, m3, m4, m5⟩ ?turn ?done
  case turn =>
    rintro i t mm nw h tk I o hi hne ⟨rfl, q2, q3, q4, q5⟩ Fi Ni
    rw [Int.zero_add] at Fi
    exact turn12 (s0 := { s0 with heap := h, toks := tk }) (t1 := t1) (t2 := t2) (t3 := t3) (t4 := t4) (t5 := t5) (t6 := t6) (tt := tt) (tn := t) G hdp Fi P Ni d1 d2 d3 d4 d5 d6 hun rfl q2 q3 q4 q5 hi ia ib ic ig hh hne
  case done =>
    rintro mm nw h tk ⟨rfl, q2, q3, q4, q5⟩ Fi Ni
    exact hk h tk mm Fi Ni
end
section
theorem rs67 : True := by
  w_top off
  exact trivial
set_option maxHeartbeats 8000000 in
theorem seg13 {w : World} {p : Program} {loose : List Str} {mean : ExcName → Option Value} {mg mb : Str → Option Value} {dp un : Nat} {fr : Option (List Env)} {gd : Option (List Code)} {s0 : Shared} {Q : Flow → Shared → Prop} {h₀ : Heap} {L fa : Addr} {cd : Value} {m : Str → Option Value}
    (G : Gd w p loose mean mg mb h₀) (hdp : dp + 100 < recursionLimit) (F : Fr h₀ L s0.heap m)
    (hk : ∀ tk, Q (.ret (.bool true)) { s0 with toks := tk }) :
    wpAny (model PR w) ((Ar dp un fr gd).deeper (lawEnv L fa cd)) (execs (lawSeg 13 1 []) (lawEnv L fa cd)) Q (fun _ _ => False) s0 := by
  have X := G.X
  have T := G.T
  unfold PR; revert X; k_fill; intro X
  refine segN (A := fun sc => (Ar dp un fr gd).deeper (envOfC (PySem.Str.ofString "law") sc L fa cd)) (l := lawSeg 13 1 []) (l' := [_]) rfl rfl ?_
  (try dsimp only)
  k_unmd
  (try k_fold)
  k_steps
  exact hk _
set_option maxHeartbeats 8000000 in
theorem lawAll {w : World} {p : Program} {loose : List Str} {mean : ExcName → Option Value} {mg mb : Str → Option Value} {dp un : Nat} {fr : Option (List Env)} {gd : Option (List Code)} {s0 : Shared} {Q : Flow → Shared → Prop} {h₀ : Heap} {L fa : Addr} {cd : Value} {m : Str → Option Value}
    (G : Gd w p loose mean mg mb h₀) (hdp : dp + 100 < recursionLimit) (F : Fr h₀ L s0.heap m)
    (hun : un + 100 < cLine) {o1 o2 o3 o4 o5 o6 : Obj} (N : News h₀ L s0.heap [(L + 1 + 1 + 1 + 1 + 1 + 1, o6), (L + 1 + 1 + 1 + 1 + 1, o5), (L + 1 + 1 + 1 + 1, o4), (L + 1 + 1 + 1, o3), (L + 1 + 1, o2), (L + 1, o1), (58, tabObj #[]), (51, tabObj #[])]) (l0 : @LT.lt Nat _ 58 L ∧ @LT.lt Nat _ 51 L)
    (d1 : o1.data = .cell none) (d2 : o2.data = .cell none) (d3 : o3.data = .cell none) (d4 : o4.data = .cell none) (d5 : o5.data = .cell none) (d6 : o6.data = .cell none)
    {l : Addr} {vs : List Value} {ns : List Int} (hm : m (PySem.Str.ofString "script") = some (.ref l)) (hl : h₀.IsList l vs.toArray) (hi : IntsAre vs ns) (hz : ns.length ≤ 63)
    (hk : ∀ h' tk m', Fr h₀ L h' m' → GrownAt 58 h' → GrownAt 51 h' → Q (.ret (.bool true)) { s0 with heap := h', toks := tk }) :
    wpAny (model PR w) ((Ar dp un fr gd).deeper (lawEnv L fa cd)) (execs (lawSeg 0 3 (lawSeg 3 1 (lawSeg 4 2 (lawSeg 6 1 (lawSeg 7 1 (lawSeg 8 1 (lawSeg 9 2 (lawSeg 11 1 (lawSeg 12 1 (lawSeg 13 1 [])))))))))) (lawEnv L fa cd)) Q (fun _ _ => False) s0 := by
  refine segA G hdp F N l0 d1 d2 d3 d4 d5 d6 hm hl hi hz ?_
  intro h1 tk1 m1 o1 o2 o3 o4 sz sh va mo st sa t1 t2 t3 t4 t5 t6 F1 N1 P e1 e2 e3 e4 psh pva
  refine segB (s0 := { s0 with heap := h1, toks := tk1 }) (t1 := t1) (t2 := t2) (t3 := t3) (t4 := t4) (t5 := t5) (t6 := t6) G hdp F1 P N1 l0 e1 e2 e3 e4 ?_
  intro Dt tv nx h2 tk2 F2 N2 hT hN lt
  refine segC (s0 := { s0 with heap := h2, toks := tk2 }) (t1 := t1) (t2 := t2) (t3 := t3) (t4 := t4) (t5 := t5) (t6 := t6) G hdp F2 P N2 lt hT hN e1 e2 e3 e4 d5 hun rfl psh pva ?_
  intro Ds Di Dl o5' h3 tk3 m3 nw F3 N3 hj d5' ns_ ni nl dif dt3
  obtain ⟨vss, cs, vsi, ci, vsl, cl, rfl, q1, q2, q3, q4, q5, ia, ib, ic⟩ := hj
  refine seg6 (s0 := { s0 with heap := h3, toks := tk3 }) (Dl := Dl) (o5 := o5') (vss := vss) (vsi := vsi) (cs := cs) (ci := ci) (cl := cl) (vsl := vsl) (t1 := t1) (t2 := t2) (t3 := t3) (t4 := t4) (t5 := t5) (t6 := t6) G hdp F3 P (fun q hq => N3 q ?_) e1 e2 e3 e4 d6 hN ⟨dif.bc, dif.ac, nl⟩ ni ns_ q5 q4 ic ?_
  · rcases List.mem_cons.mp hq with rfl | hq
    · exact .head _
    rcases List.mem_cons.mp hq with rfl | hq
    · exact .tail _ (.head _)
    rcases List.mem_cons.mp hq with rfl | hq
    · exact .tail _ (.tail _ (.head _))
    exact .tail _ (.tail _ (.tail _ (.tail _ hq)))
  intro Dg o6' cg te tt h4 tk4 m4 F4 N4 d6' lg g1 g2
  refine seg7 (s0 := { s0 with heap := h4, toks := tk4 }) (t1 := t1) (t2 := t2) (t3 := t3) (t4 := t4) (t5 := t5) (t6 := t6) G hdp F4 P N4 e1 e2 e3 e4 d6' g1 g2 lg ?_
  intro Dg gv cg h5 tk5 m5 F5 N5 ig lg g1 g2
  refine seg8 (s0 := { s0 with heap := h5, toks := tk5 }) (t1 := t1) (t2 := t2) (t3 := t3) (t4 := t4) (t5 := t5) (t6 := t6) G hdp F5 P N5 g1 g2 ig ?_
  intro h6 tk6 m6 F6 N6 g1 g2
  refine seg9 (s0 := { s0 with heap := h6, toks := tk6 }) (t1 := t1) (t2 := t2) (t3 := t3) (t4 := t4) (t5 := t5) (t6 := t6) G hdp F6 P N6 e1 e2 e3 e4 hT.tail g1 g2 ?_
  intro Dc h7 tk7 m7 nw F7 N7 hj lc
  obtain ⟨cv, cc, rfl, r1, r2, r3, icv⟩ := hj
  refine seg11 (s0 := { s0 with heap := h7, toks := tk7 }) (t1 := t1) (t2 := t2) (t3 := t3) (t4 := t4) (t5 := t5) (t6 := t6) G hdp F7 P N7 e1 e2 e3 e4 d5' d6' ia ?_
  intro Dh hv ch nx' h8 tk8 F8 N8 _ hh hsub
  refine seg12 (s0 := { s0 with heap := h8, toks := tk8 }) (Dg := Dg) (Dc := Dc) (Dh := Dh) (t1 := t1) (t2 := t2) (t3 := t3) (t4 := t4) (t5 := t5) (t6 := t6) G hdp F8 P N8 e1 e2 e3 e4 d5' d6' hun r1 rfl r2 r3 ia ib icv ig hh ?_
  intro h9 tk9 m9 F9 N9
  have key : ∀ q ∈ nx', h9.get? q.1 = some q.2 := fun q hq => (N9 q (List.mem_append_right [(Dh, W.listOf (List.toArray hv) ch), (Dc, W.listOf (List.toArray cv) cc), (Dg, W.listOf (List.toArray gv) cg), (Di, W.listOf (List.toArray vsi) ci), (Ds, W.listOf (List.toArray vss) cs), (L + 1 + 1 + 1 + 1 + 1 + 1, o6'), (L + 1 + 1 + 1 + 1 + 1, o5'), (L + 1 + 1 + 1 + 1, o4), (L + 1 + 1 + 1, o3), (L + 1 + 1, o2), (L + 1, o1)] hq)).1
  obtain ⟨c1, _, _, _, w1, _⟩ := (hT.tail.mono hsub).t51
  obtain ⟨c2, _, _, _, w2, _⟩ := (hT.tail.mono hsub).t58
  exact seg13 (s0 := { s0 with heap := h9, toks := tk9 }) G hdp F9 (fun tk => hk h9 tk m9 F9 ⟨_, key _ w2⟩ ⟨_, key _ w1⟩)
theorem lawAll_body : lawBody = lawSeg 0 3 (lawSeg 3 1 (lawSeg 4 2 (lawSeg 6 1 (lawSeg 7 1 (lawSeg 8 1 (lawSeg 9 2 (lawSeg 11 1 (lawSeg 12 1 (lawSeg 13 1 []))))))))) := rfl
end
section
theorem lawAll_end {w : World} {p : Program} {loose : List Str} {mean : ExcName → Option Value} {mg mb : Str → Option Value} {s0 : Shared} {Q : Flow → Shared → Prop} {E : Value → Shared → Prop} {h₀ : Heap} {L fa : Addr} {cd : Value} {m : Str → Option Value}
    (G : Gd w p loose mean mg mb h₀) (hdp : callerA.depth + 100 < recursionLimit) (F : Fr h₀ L s0.heap m)
    (hun : callerA.units + 100 < cLine) {o1 o2 o3 o4 o5 o6 : Obj} (N : News h₀ L s0.heap [(L + 1 + 1 + 1 + 1 + 1 + 1, o6), (L + 1 + 1 + 1 + 1 + 1, o5), (L + 1 + 1 + 1 + 1, o4), (L + 1 + 1 + 1, o3), (L + 1 + 1, o2), (L + 1, o1), (58, tabObj #[]), (51, tabObj #[])]) (l0 : @LT.lt Nat _ 58 L ∧ @LT.lt Nat _ 51 L)
    (d1 : o1.data = .cell none) (d2 : o2.data = .cell none) (d3 : o3.data = .cell none) (d4 : o4.data = .cell none) (d5 : o5.data = .cell none) (d6 : o6.data = .cell none)
    {l : Addr} {vs : List Value} {ns : List Int} (hm : m (PySem.Str.ofString "script") = some (.ref l)) (hl : h₀.IsList l vs.toArray) (hi : IntsAre vs ns) (hz : ns.length ≤ 63)
    (hk : ∀ h' tk m', Fr h₀ L h' m' → GrownAt 58 h' → GrownAt 51 h' → Q (.ret (.bool true)) { s0 with heap := h', toks := tk }) :
    wpAny (model PR w) (callerA.deeper (lawEnv L fa cd)) (execs lawBody (lawEnv L fa cd)) Q E s0 := by
  rw [lawAll_body]
  exact wpAny_mono (lawAll (dp := callerA.depth) (un := callerA.units) (fr := callerA.frames) (gd := callerA.guards) G hdp F hun N l0 d1 d2 d3 d4 d5 d6 hm hl hi hz hk) (fun _ _ q => q) fun _ _ x => x.elim
set_option maxHeartbeats 8000000 in
theorem tt : PySem.Challenge.rw_uy0018_01.Holds := hd (by
  k_go0
  rename Fr _ _ _ _ => F9
  rename News _ _ _ _ => N9
  rename Top topProg _ _ _ _ _ => T9
  rename Frag.In _ (ghostOf _ _) => X9
  rename (ghostOf _ _).IsList _ _ => hl9
  rename IntsAre _ _ => hi9
  rename CodeHd _ (62, 58).1 (62, 58).2 => c58
  rename CodeHd _ (55, 51).1 (55, 51).2 => c51
  fail "lt&"
  rename @LT.lt _ _ 58 _ ∧ _ => l9
  rename ¬ ((63 : Nat) : Int) < _ => hc9
  rename Shared.gens _ = #[] => hg9
  have n58 := (N9 (58, tabObj #[]) (.tail _ (.tail _ (.tail _ (.tail _ (.tail _ (.tail _ (.head _)))))))).2.2
  have n51 := (N9 (51, tabObj #[]) (.tail _ (.tail _ (.tail _ (.tail _ (.tail _ (.tail _ (.tail _ (.head _))))))))).2.2
  refine' lawAll_end ⟨X9, T9, c51, c58, n51, n58⟩ ?la_dp F9 ?la_un N9 l9 ?la_d1 ?la_d2 ?la_d3 ?la_d4 ?la_d5 ?la_d6 ?la_m hl9 hi9 ?la_z ?la_q
  case la_dp => decide
  case la_un => decide
  case la_d1 => (refine Eq.trans (by with_reducible assumption) ?_; with_unfolding_all rfl)
  case la_d2 => (refine Eq.trans (by with_reducible assumption) ?_; with_unfolding_all rfl)
  case la_d3 => (refine Eq.trans (by with_reducible assumption) ?_; with_unfolding_all rfl)
  case la_d4 => (refine Eq.trans (by with_reducible assumption) ?_; with_unfolding_all rfl)
  case la_d5 => (refine Eq.trans (by with_reducible assumption) ?_; with_unfolding_all rfl)
  case la_d6 => (refine Eq.trans (by with_reducible assumption) ?_; with_unfolding_all rfl)
  case la_m => rfl
  case la_z => exact Nat.le_of_not_lt fun h => hc9 (Int.ofNat_lt.mpr h)
  case la_q =>
    intro h' tk m' F' g58 g51
    refine ⟨?_, g58, g51, trivial⟩
    refine' goodW_bool ?gw_F ?gw_g ?gw_n ?gw_p
    case gw_F => exact F'
    case gw_g => exact hg9
    case gw_n => intro cls; rfl
    case gw_p => first | with_unfolding_all rfl | kernel_rfl)
end
end
end
end
end
end
end
end
end
end Mine
set_option maxRecDepth 100000 in
theorem PySem.Challenge.cw_uy0018_01_holds : PySem.Challenge.rw_uy0018_01.Holds := by
  exact Mine.tt
