import PyProof.Rows.All
import Wide.All
import OpenK.AllK
import Wide.FinOn
import Lean
import PySem.Challenge.RW_xg0074_01
set_option Elab.async false
section PartHD
open PySem PySem.W PyProof.Rows
set_option maxRecDepth 100000 in
set_option maxHeartbeats 8000000 in
open_top hd for PySem.Challenge.rw_xg0074_01
end PartHD
section Whole
open PySem PySem.W PyProof.Rows
local macro_rules | `(tactic| walk_at "getMethod ref") => `(tactic| k_extra "my getMethod ref")
local macro_rules | `(tactic| walk_at "call builtin:re.Pattern.search") => `(tactic| k_extra "my call builtin:re.Pattern.search")
local macro_rules | `(tactic| walk_at "call builtin:str.lower") => `(tactic| k_extra "my call builtin:str.lower")
local macro_rules | `(tactic| walk_at "call ref") => `(tactic| k_extra "my call ref")
local macro_rules | `(tactic| walk_at "subscriptTail Name Slice str ref") => `(tactic| k_extra "my subscriptTail Name Slice str ref")
local macro_rules | `(tactic| walk_at "pyIter str") => `(tactic| k_extra "my pyIter str")
local macro_rules | `(tactic| walk_at "UnrEnd") => `(tactic| k_extra "my UnrEnd")
local macro_rules | `(tactic| walk_at "call type:tuple") => `(tactic| k_extra "my call type:tuple")
local macro_rules | `(tactic| walk_at "call builtin:len") => `(tactic| k_extra "my call builtin:len")
local macro_rules | `(tactic| walk_at "subscriptTail") => `(tactic| k_extra "my subscriptTail")
local macro_rules | `(tactic| walk_at "pyIter ref") => `(tactic| k_extra "my pyIter ref")
local macro_rules | `(tactic| walk_at "call builtin:str.upper") => `(tactic| k_extra "my call builtin:str.upper")
local macro_rules | `(tactic| walk_at "last subscriptTail") => `(tactic| k_extra "my last subscriptTail")
local macro_rules | `(tactic| walk_at "call builtin:max") => `(tactic| k_extra "my call builtin:max")
local macro_rules | `(tactic| walk_at "call builtin:min") => `(tactic| k_extra "my call builtin:min")
local macro_rules | `(tactic| walk_at "binaryOp Add float float") => `(tactic| k_extra "my binaryOp Add float float")
local macro_rules | `(tactic| walk_at "binaryOp Sub float float") => `(tactic| k_extra "my binaryOp Sub float float")
local macro_rules | `(tactic| walk_at "binaryOp Div float float") => `(tactic| k_extra "my binaryOp Div float float")
local macro_rules | `(tactic| walk_at "compareOp Eq float float") => `(tactic| k_extra "my compareOp Eq float float")
local macro_rules | `(tactic| walk_at "subscriptTail Name Constant ref int") => `(tactic| k_extra "my subscriptTail Name Constant ref int")
local macro_rules | `(tactic| walk_at "binaryOp Div int int") => `(tactic| k_extra "my binaryOp Div int int")
local macro_rules | `(tactic| walk_at "call builtin:round") => `(tactic| k_extra "my call builtin:round")
local macro_rules | `(tactic| walk_at "binaryOp FloorDiv int int") => `(tactic| k_extra "my binaryOp FloorDiv int int")
local macro_rules | `(tactic| walk_at "exec For Tuple Call") => `(tactic| k_extra "my exec For Tuple Call")
local macro_rules | `(tactic| walk_at "call type:zip") => `(tactic| k_extra "my call type:zip")
local macro_rules | `(tactic| walk_at "UnrEndW") => `(tactic| k_extra "my UnrEndW")
local macro_rules | `(tactic| walk_at "setItem ref int") => `(tactic| k_extra "my setItem ref int")
local macro_rules | `(tactic| walk_at "exec Assign cons ListComp") => `(tactic| k_extra "my exec Assign cons ListComp")
local macro_rules | `(tactic| walk_at "CompSrc") => `(tactic| k_extra "my CompSrc")
local macro_rules | `(tactic| walk_at "subscriptTail Name Slice ref ref") => `(tactic| k_extra "my subscriptTail Name Slice ref ref")
local macro_rules | `(tactic| walk_at "call builtin:sum") => `(tactic| k_extra "my call builtin:sum")
local macro_rules | `(tactic| walk_at "binaryOp Add int int") => `(tactic| k_extra "my binaryOp Add int int")
local macro_rules | `(tactic| walk_at "CompEnd") => `(tactic| k_extra "my CompEnd")
local macro_rules | `(tactic| walk_at "subscriptTail Name Name ref int") => `(tactic| k_extra "my subscriptTail Name Name ref int")
local macro_rules | `(tactic| walk_at "eval IfExp") => `(tactic| k_extra "my eval IfExp")
local macro_rules | `(tactic| walk_at "compareOp NotEq int int") => `(tactic| k_extra "my compareOp NotEq int int")
local macro_rules | `(tactic| walk_at "compareOp NotEq str str") => `(tactic| k_extra "my compareOp NotEq str str")
local macro_rules | `(tactic| walk_at "compareOp Eq ref ref") => `(tactic| k_extra "my compareOp Eq ref ref")
section PartP0
open PySem PySem.W PyProof.Rows
namespace Mine
abbrev Prg := PySem.Challenge.rw_xg0074_01.row.prog
noncomputable abbrev Loo : List Str := looseW hd.view_39 [Str.ofString "IPV4_RE", Str.ofString "Whitespace"]
theorem lad_pos {k : Nat} {st : Int} (hk : st = 8 ∧ k = 5 ∨ st = 4 ∧ k = 4 ∨ st = 2 ∧ k = 3 ∨ st = 1 ∧ k = 2 ∨ st = 0 ∧ k = 1) : ∃ j, k = j + 1 := by
  rcases hk with ⟨_, h⟩ | ⟨_, h⟩ | ⟨_, h⟩ | ⟨_, h⟩ | ⟨_, h⟩
  · exact ⟨4, h⟩
  · exact ⟨3, h⟩
  · exact ⟨2, h⟩
  · exact ⟨1, h⟩
  · exact ⟨0, h⟩
theorem lad_down {j : Nat} {n p st : Int} (hk : st = 8 ∧ j + 1 = 5 ∨ st = 4 ∧ j + 1 = 4 ∨ st = 2 ∧ j + 1 = 3 ∨ st = 1 ∧ j + 1 = 2 ∨ st = 0 ∧ j + 1 = 1) (hr : p = n ∨ (p - 2 * st < n ∧ n < p + 2 * st)) (hp : ¬ p = n) (hl : n < p) :
    (st / 2 = 8 ∧ j = 5 ∨ st / 2 = 4 ∧ j = 4 ∨ st / 2 = 2 ∧ j = 3 ∨ st / 2 = 1 ∧ j = 2 ∨ st / 2 = 0 ∧ j = 1) ∧ (p - st = n ∨ (p - st - 2 * (st / 2) < n ∧ n < p - st + 2 * (st / 2))) := by
  have hr' : p - 2 * st < n := hr.elim (fun h => absurd h hp) (fun h => h.1)
  clear hr hp
  rcases hk with ⟨rfl, h⟩ | ⟨rfl, h⟩ | ⟨rfl, h⟩ | ⟨rfl, h⟩ | ⟨rfl, h⟩ <;> have hj := Nat.succ.inj h <;> clear h
  · exact ⟨.inr (.inl ⟨rfl, hj⟩), .inr ⟨by omega, by omega⟩⟩
  · exact ⟨.inr (.inr (.inl ⟨rfl, hj⟩)), .inr ⟨by omega, by omega⟩⟩
  · exact ⟨.inr (.inr (.inr (.inl ⟨rfl, hj⟩))), .inr ⟨by omega, by omega⟩⟩
  · exact ⟨.inr (.inr (.inr (.inr ⟨rfl, hj⟩))), .inl (by omega)⟩
  · exact absurd hr' (by omega)
theorem lad_up {j : Nat} {n p st : Int} (hk : st = 8 ∧ j + 1 = 5 ∨ st = 4 ∧ j + 1 = 4 ∨ st = 2 ∧ j + 1 = 3 ∨ st = 1 ∧ j + 1 = 2 ∨ st = 0 ∧ j + 1 = 1) (hr : p = n ∨ (p - 2 * st < n ∧ n < p + 2 * st)) (hp : ¬ p = n) (hl : ¬ n < p) :
    (st / 2 = 8 ∧ j = 5 ∨ st / 2 = 4 ∧ j = 4 ∨ st / 2 = 2 ∧ j = 3 ∨ st / 2 = 1 ∧ j = 2 ∨ st / 2 = 0 ∧ j = 1) ∧ (p + st = n ∨ (p + st - 2 * (st / 2) < n ∧ n < p + st + 2 * (st / 2))) := by
  have hr' : n < p + 2 * st := hr.elim (fun h => absurd h hp) (fun h => h.2)
  have hl' : p < n := by omega
  clear hr hp hl
  rcases hk with ⟨rfl, h⟩ | ⟨rfl, h⟩ | ⟨rfl, h⟩ | ⟨rfl, h⟩ | ⟨rfl, h⟩ <;> have hj := Nat.succ.inj h <;> clear h
  · exact ⟨.inr (.inl ⟨rfl, hj⟩), .inr ⟨by omega, by omega⟩⟩
  · exact ⟨.inr (.inr (.inl ⟨rfl, hj⟩)), .inr ⟨by omega, by omega⟩⟩
  · exact ⟨.inr (.inr (.inr (.inl ⟨rfl, hj⟩))), .inr ⟨by omega, by omega⟩⟩
  · exact ⟨.inr (.inr (.inr (.inr ⟨rfl, hj⟩))), .inl (by omega)⟩
  · exact absurd hr' (by omega)
theorem lad_bd {k : Nat} {n p st : Int} (h1 : 1 ≤ n) (h2 : n ≤ 31) (hk : st = 8 ∧ k = 5 ∨ st = 4 ∧ k = 4 ∨ st = 2 ∧ k = 3 ∨ st = 1 ∧ k = 2 ∨ st = 0 ∧ k = 1) (hr : p = n ∨ (p - 2 * st < n ∧ n < p + 2 * st)) : 0 ≤ st ∧ st ≤ 8 ∧ -20 ≤ p ∧ p ≤ 63 ∧ (st = 0 → p = n) := by
  rcases hk with ⟨rfl, _⟩ | ⟨rfl, _⟩ | ⟨rfl, _⟩ | ⟨rfl, _⟩ | ⟨rfl, _⟩
  · exact ⟨by decide, by decide, by omega, by omega, fun h => absurd h (by decide)⟩
  · exact ⟨by decide, by decide, by omega, by omega, fun h => absurd h (by decide)⟩
  · exact ⟨by decide, by decide, by omega, by omega, fun h => absurd h (by decide)⟩
  · exact ⟨by decide, by decide, by omega, by omega, fun h => absurd h (by decide)⟩
  · exact ⟨by decide, by decide, by omega, by omega, fun _ => by omega⟩
theorem len_dn {a j : Nat} (h : a + 7 * (j + 1) ≤ 40) : 6 + a + 7 * j ≤ 40 := by omega
theorem len_up {a j : Nat} (h : a + 7 * (j + 1) ≤ 40) : 7 + a + 7 * j ≤ 40 := by omega
theorem len_le {a k : Nat} (h : a + 7 * k ≤ 40) : a ≤ 40 := by omega
theorem half_lt {st : Int} {P : Prop} (h0 : 0 ≤ st) (h : st = 0 → P) (hp : ¬ P) : (st.fdiv 2).toNat < st.toNat := by
  rw [Int.fdiv_eq_ediv_of_nonneg _ (by decide)]
  have : st ≠ 0 := fun e => hp (h e)
  clear h hp
  omega
/-- a call of the def at address f, its answer no object: the frame and the ledger stand -/
abbrev C1 (w : World) (d : Nat) (f : Addr) (pre : Prop) (vs : List Value) (R : Tok → Value) : Prop :=
  ∀ (mean : ExcName → Option Value) (mg mb : Str → Option Value) (news : List (Addr × Obj)) (dp un : Nat) (gd : Option (List Code)) (cn : Str) (cs : Scope) (a : Addr) (ccd : Value) (cl : List (Str × Addr)) (outer : List Env) (A₀ : Around) (base h₀ : Heap) (L : Addr) (m : Str → Option Value) (s : Shared) (Q E : Value → Shared → Prop),
    Below A₀ base outer h₀ → Fr h₀ L s.heap m → (hd.heap_39 w.params).In h₀ → News h₀ L s.heap news → Top hd.view_39 Loo mean mg mb h₀ → cs.kind = .function →
    pre → dp + d < recursionLimit → un + 8 * d < cLine →
    (∀ (t : Tok) (h' : Heap) (tk' : Nat), Fr h₀ L h' m → News h₀ L h' news → Q (R t) { s with heap := h', toks := tk' }) →
      wpAny (model PySem.Challenge.rw_xg0074_01.row.prog w) (ktrTop dp un gd cn cs L a ccd cl outer) (call (.ref f) vs) Q E s
end Mine
end PartP0
section PartR1
open PySem PySem.W PyProof.Rows
namespace Mine
set_option maxRecDepth 100000
theorem re_slot : Slot "re.Pattern" "search" "re.Pattern.search" :=
  .of (owner := "re.Pattern") (n := "search") (by rw [typeLookup_type, builtinLookup_eq_fast]; kernel_rfl) (by decide +kernel) (by decide +kernel) (by decide +kernel)
    (by first | exact .inl (by decide +kernel) | exact .inr (by decide +kernel)) (by rw [isSubtype_type]; kernel_rfl)
theorem re_type : typeOf (.builtin "re.Pattern.search") = pure (.type "method_descriptor") := by show builtinType _ = _; rw [builtinType_eq_fast]; kernel_rfl
theorem re_entry : entryFor table "re.Pattern.search" = some Builtin.«re.Pattern.search» := entryFor_of_tree (by kernel_rfl)
theorem re_attrs : PlainAttrs "re.Pattern" :=
  ⟨⟨"object.__getattribute__", by rw [typeLookup_type, builtinLookup_eq_fast]; kernel_rfl, by decide +kernel⟩, by rw [typeLookup_type, builtinLookup_eq_fast]; kernel_rfl⟩
theorem re_args (a b : Value) : argsOk "re.Pattern.search" ⟨[a, b], []⟩ := by
  unfold argsOk; rw [signature?_of (id := "re.Pattern.search") (rows := Manifest.sig_re_Pattern) (n := ['h', 'c', 'r', 'a', 'e', 's']) (o := ['n', 'r', 'e', 't', 't', 'a', 'P', '.', 'e', 'r']) (by kernel_rfl) (by kernel_rfl)]; kernel_rfl

open PySem.Sre in
def reCode : Array Nat := #[14, 8, 1, 2, 4294967295, 1, 1, 46, 0, 16, 46, 24, 9, 1, 4294967295, 13, 4, 8, 0, 0, 1, 6, 5, 1]
open PySem.Sre
theorem run_done {m : M} (h : m.outcome.isSome = true) : ∀ k, M.runFor k m = m
  | 0 => rfl
  | k + 1 => by unfold M.runFor; rw [if_pos h]
theorem run_add (m : M) : ∀ (a b : Nat), M.runFor (a + b) m = M.runFor b (M.runFor a m)
  | 0, b => by simp [M.runFor]
  | a + 1, b => by
    rw [show a + 1 + b = (a + b) + 1 by omega]
    conv => lhs; unfold M.runFor
    conv => rhs; rhs; unfold M.runFor
    by_cases h : m.outcome.isSome = true
    · rw [if_pos h, if_pos h, run_done h]
    · rw [if_neg h, if_neg h]; exact run_add _ a b
theorem run_one {m : M} (h : m.outcome = none) : M.runFor 1 m = m.step := by
  unfold M.runFor; rw [h]; rfl

theorem run_s {m : M} (h : m.outcome = none) (k : Nat) : M.runFor (k + 1) m = M.runFor k m.step := by
  conv => lhs; unfold M.runFor
  rw [h]; rfl

def stt (x : Array Nat) (lim p : Nat) (o : Bool) (seen : Sre.Seen) : M :=
  { code := reCode, text := x, lim, start := p, lastStart := lim, pc := 9, pos := p, handed := p, outermost := o, marks := #[], frames := [{ wait := .nextStart, pc := 9, pos := p, outermost := o }], weight := 1, seen }
def sttL (x : Array Nat) (lim p : Nat) (o : Bool) (seen : Sre.Seen) : M :=
  { code := reCode, text := x, lim, start := p, lastStart := lim, pc := 11, pos := p + 1, handed := p, outermost := o, marks := #[], frames := [{ wait := .nextStart, pc := 9, pos := p, outermost := o }], weight := 1, seen }
def nope (x : Array Nat) (lim p st pc: Nat) (o : Bool) (seen : Sre.Seen) : M :=
  { code := reCode, text := x, lim, start := st, lastStart := lim, pc, pos := p, handed := st, outermost := o, marks := #[], frames := [{ wait := .nextStart, pc := 9, pos := st, outermost := o }], weight := 1, answer := some false, seen }
theorem st1 (x : Array Nat) (lim p : Nat) (o : Bool) (seen : Sre.Seen) (h : lim ≤ p) : (stt x lim p o seen).step = nope x lim p p 9 o (seen.add 16) := by
  have e : (stt x lim p o seen).step = if lim ≤ p then nope x lim p p 9 o (seen.add 16) else (match Except.ok (ε := String) (x.getD p 0 == 46, seen.add 16) with
    | .error why => ({ stt x lim p o (seen.add 16) with outcome := some (.stuck why) } : M)
    | .ok (false, seen) => nope x lim p p 9 o seen
    | .ok (true, seen) => sttL x lim p o seen) := rfl
  rw [e, if_pos h]
theorem st2 (x : Array Nat) (lim p : Nat) (o : Bool) (seen : Sre.Seen) (h : p < lim) : (stt x lim p o seen).step = if x.getD p 0 = 46 then sttL x lim p o (seen.add 16) else nope x lim p p 9 o (seen.add 16) := by
  have e : (stt x lim p o seen).step = if lim ≤ p then nope x lim p p 9 o (seen.add 16) else (match Except.ok (ε := String) (x.getD p 0 == 46, seen.add 16) with
    | .error why => ({ stt x lim p o (seen.add 16) with outcome := some (.stuck why) } : M)
    | .ok (false, seen) => nope x lim p p 9 o seen
    | .ok (true, seen) => sttL x lim p o seen) := rfl
  rw [e, if_neg (by omega)]
  by_cases hc : x.getD p 0 = 46
  · rw [if_pos hc, hc]; rfl
  · rw [if_neg hc, show (x.getD p 0 == 46) = false by simpa using hc]
theorem acc (c : Nat) (seen : Sre.Seen) (h : isDigit c = false) : ∃ seen', accepts reCode 15 c seen = .ok (false, seen') := by
  refine ⟨((seen.add 8).add 55).add 0, ?_⟩
  have e : accepts reCode 15 c seen = (do if ← (Except.ok (ε := String) (isDigit c != false)) then pure (true, (seen.add 8).add 55) else inSet reCode c 23 19 true ((seen.add 8).add 55)) := rfl
  rw [e, h]
  rfl
theorem st3 (x : Array Nat) (lim p : Nat) (o : Bool) (seen : Sre.Seen) (hd : isDigit (x.getD (p + 1) 0) = false) (hl : lim < 2 ^ 62) : ∃ seen', (sttL x lim p o seen).step = nope x lim (p + 1) p 11 o seen' := by
  have e : (sttL x lim p o seen).step = if ((1 : Nat) : Int) > ((lim : Int) - (p + 1 : Nat)) then nope x lim (p + 1) p 11 o (seen.add 24) else
     match Sre.run reCode x 15 (min 4294967295 ((lim : Int) - (p + 1 : Nat)).toNat) (p + 1) 0 ((seen.add 24).add 13) with
     | Except.error why => ({ sttL x lim p o (seen.add 24) with outcome := some (.stuck why) } : M)
     | Except.ok (n, seen) => if n < 1 then nope x lim (p + 1) p 11 o seen else M.afterRun { sttL x lim p o seen with pos := p + 1 + n } .giveBack n (M.keep { sttL x lim p o seen with pos := p + 1 + n } false) := rfl
  rw [e]
  by_cases h : ((1 : Nat) : Int) > ((lim : Int) - (p + 1 : Nat))
  · rw [if_pos h]; exact ⟨_, rfl⟩
  · rw [if_neg h]
    obtain ⟨n, hn⟩ : ∃ n, min 4294967295 ((lim : Int) - (p + 1 : Nat)).toNat = n + 1 := ⟨min 4294967295 ((lim : Int) - (p + 1 : Nat)).toNat - 1, by omega⟩
    rw [hn]
    obtain ⟨sn, ha⟩ := acc (x.getD (p + 1) 0) ((seen.add 24).add 13) hd
    have er : Sre.run reCode x 15 (n + 1) (p + 1) 0 ((seen.add 24).add 13) = .ok (0, sn) := by
      unfold Sre.run
      rw [ha]
      rfl
    rw [er]
    exact ⟨sn, rfl⟩
theorem st4 (x : Array Nat) (lim p st pc : Nat) (o : Bool) (seen : Sre.Seen) : (nope x lim p st pc o seen).step = if st < lim then stt x lim (st + 1) false seen else
    ({ code := reCode, text := x, lim, start := st, lastStart := lim, pc := 9, pos := st, handed := st, outermost := o, marks := #[], frames := [], weight := 0, answer := some false, seen } : M) := rfl
theorem fin1 {m : M} (h : m.answer = some false) (h2 : m.frames = []) (h3 : m.outcome = none) : m.step.outcome = some .failed := by
  unfold M.step; rw [h3, h, h2]; rfl

theorem from_p (x : Array Nat) (lim : Nat) (hd : ∀ p, isDigit (x.getD p 0) = false) (hl : lim < 2 ^ 62) : ∀ (n p : Nat) (o : Bool) (seen : Sre.Seen), p + n = lim →
    ∃ k, k ≤ 3 * n + 3 ∧ (M.runFor k (stt x lim p o seen)).outcome = some .failed
  | 0, p, o, seen, e => by
    refine ⟨3, by omega, ?_⟩
    rw [show (3 : Nat) = 0 + 1 + 1 + 1 from rfl, run_s rfl, st1 _ _ _ _ _ (by omega), run_s rfl, st4, if_neg (by omega), run_s rfl]
    exact fin1 rfl rfl rfl
  | n + 1, p, o, seen, e => by
    have h2 := st2 x lim p o seen (by omega)
    by_cases hc : x.getD p 0 = 46
    · rw [if_pos hc] at h2
      obtain ⟨s3, h3⟩ := st3 x lim p o (seen.add 16) (hd _) hl
      obtain ⟨k, hk, hr⟩ := from_p x lim hd hl n (p + 1) false s3 (by omega)
      refine ⟨k + 1 + 1 + 1, by omega, ?_⟩
      rw [run_s rfl, h2, run_s rfl, h3, run_s rfl, st4, if_pos (by omega)]
      exact hr
    · rw [if_neg hc] at h2
      obtain ⟨k, hk, hr⟩ := from_p x lim hd hl n (p + 1) false (seen.add 16) (by omega)
      refine ⟨k + 1 + 1, by omega, ?_⟩
      rw [run_s rfl, h2, run_s rfl, st4, if_pos (by omega)]
      exact hr

theorem search_fails (x : Array Nat) (hd : ∀ p, isDigit (x.getD p 0) = false) (hl : x.size < 2 ^ 62) :
    ∃ k, k ≤ 3 * x.size + 3 ∧ (M.runFor k (forSearch reCode x 0 0 x.size false)).outcome = some .failed := by
  have e : forSearch reCode x 0 0 x.size false = if (decide (0 > x.size) || decide (x.size - 0 < 2)) = true then ({ code := reCode, text := x, lim := x.size, start := 0, pc := 9, pos := 0, handed := 0, marks := #[], answer := some false, seen := ({} : Sre.Seen).add 14 } : M) else stt x x.size 0 true (({} : Sre.Seen).add 14) := rfl
  rw [e]
  by_cases h : (decide (0 > x.size) || decide (x.size - 0 < 2)) = true
  · rw [if_pos h]
    refine ⟨1, by omega, ?_⟩
    rw [run_one rfl]
    exact fin1 rfl rfl rfl
  · rw [if_neg h]
    exact from_p x x.size hd hl x.size 0 true _ (by omega)
open PySem.Builtin.Re
theorem drive_of {Mo : Model} {A : Around} {E : Value → Shared → Prop} {s : Shared} {Q : M → Shared → Prop} : ∀ (T k : Nat) (m : M), (M.runFor k m).outcome.isSome = true → k < 4 * T → Q (M.runFor k m) s → wpAny Mo A (reDrive T m) Q E s
  | 0, k, m, h, hk, hq => absurd hk (by omega)
  | T + 1, k, m, h, hk, hq => by
    unfold reDrive
    dsimp only
    rw [show reTurnSteps = 4 from rfl]
    by_cases h4 : (M.runFor 4 m).outcome.isSome = true
    · rw [if_pos h4]
      refine wpAny_pure ?_
      have : M.runFor 4 m = M.runFor k m := by
        by_cases hl : k ≤ 4
        · rw [show 4 = k + (4 - k) by omega, run_add, run_done h]
        · rw [show k = 4 + (k - 4) by omega, run_add, run_done h4]
      rw [this]; exact hq
    · rw [if_neg h4]
      have hl : ¬ k ≤ 4 := fun hl => h4 (by rw [show 4 = k + (4 - k) by omega, run_add, run_done h]; exact h)
      have e : M.runFor k m = M.runFor (k - 4) (M.runFor 4 m) := by rw [← run_add]; congr 1; omega
      rw [e] at h hq
      exact wpAny_bind (wpAny_rule (drive_of T (k - 4) _ h (by omega) hq))
theorem toEnd_none {Mo : Model} {A : Around} {E : Value → Shared → Prop} {s : Shared} {Q : Option M → Shared → Prop} {m : M} {k : Nat} (h : (M.runFor k m).outcome = some .failed) (hk : k < 2 ^ 66) (hq : Q none s) : wpAny Mo A (reRunToEnd m) Q E s := by
  unfold reRunToEnd
  refine wpAny_bind (drive_of (2 ^ 64) k m (by rw [h]; rfl) (by omega) ?_)
  refine wpAny_bind ?_
  refine wpAny_mono (wpAny_forIn_list _ (fun _ _ s' => s' = s) (fun _ s' => s' = s) ?_ (fun _ _ e => e) _ _ rfl) ?_ fun _ _ x => x
  · intro i rest b s' e
    subst e
    split
    · exact wpAny_bind (wpAny_rule (wpAny_pure rfl))
    · exact wpAny_pure rfl
  · intro _ s' e
    subst e
    rw [h]
    exact wpAny_pure hq
end Mine
end PartR1
section PartR2
open PySem PySem.W PyProof.Rows
namespace Mine
set_option maxRecDepth 100000
open PySem.Builtin.Re
abbrev reObj : Obj := { cls := .type "re.Pattern", data := .fields #[.str (Str.ofString "\\.\\d+$") 292, .int 256 319, .int 0 0, .none, .none, .ref 42, .int 0 0] }
theorem re_in (P : Params) : (hd.heap_39 P).lookup 43 = some reObj := rfl
abbrev codObj : Obj := { cls := .type "tuple", data := .seq #[.int 14 0, .int 8 0, .int 1 0, .int 2 0, .int 4294967295 0, .int 1 0,
          .int 1 0, .int 46 0, .int 0 0, .int 16 0, .int 46 0, .int 24 0, .int 9 0,
          .int 1 0, .int 4294967295 0, .int 13 0, .int 4 0, .int 8 0, .int 0 0, .int 0 0, .int 1 0, .int 6 0, .int 5 0, .int 1 0] 0 }
theorem cod_in (P : Params) : (hd.heap_39 P).lookup 42 = some codObj := rfl
section
variable {prog : Program} {w : World} {A : Around} {E : Value → Shared → Prop} {s : Shared}
theorem search_none {Q : Value → Shared → Prop} {P : Params} {x : PySem.Str} {t : Tok} (X : (hd.heap_39 P).In s.heap) (hd : ∀ p, Sre.isDigit (x.cps.getD p 0) = false) (hs : x.cps.size < 2 ^ 62)
    (h : Q .none s) : wpAny (model prog w) A (call (.builtin "re.Pattern.search") [.ref 43, .str x t]) Q E s := by
  have h43 : s.heap.get? 43 = some reObj := X _ _ (re_in P)
  have h42 : s.heap.get? 42 = some codObj := X _ _ (cod_in P)
  refine wpAny_call_entry re_slot ⟨_, h43, rfl⟩ re_entry ?_ (re_args _ _)
  unfold Builtin.«re.Pattern.search»
  have e1 : reTarget "re.Pattern.search" "search" ⟨[.ref 43, .str x t], []⟩ = (do
    let fs ← fieldsOf (.ref 43)
    let want := reRawNat (fs.getD 6 .none)
    if want == 0 && (0 : Nat) == 1 then raiseError "TypeError" "cannot use a string pattern on a bytes-like object"
    if want == 1 && (0 : Nat) == 0 then raiseError "TypeError" "cannot use a bytes pattern on a string-like object"
    reNoCollectionInside (.str x t) 0
    let clip (i : Int) : Nat := min i.toNat x.cps.size
    pure { pattern := .ref 43, string := .str x t, code := (← reRawItems (fs.getD 5 .none)).map (fun (i : Int) => i.toNat), text := x.cps, kind := 0, groups := reRawNat (fs.getD 2 .none), pos := clip 0, lim := clip (2 ^ 63 - 1) }) := by
    with_unfolding_all rfl
  rw [e1]
  refine wpAny_bind (wpAny_bind (wpAny_fieldsOf h43 rfl ?_))
  have e2 : ∀ fs : Array Value, fs = #[Value.str (Str.ofString "\\.\\d+$") 292, .int 256 319, .int 0 0, .none, .none, .ref 42, .int 0 0] → (do
    let want := reRawNat (fs.getD 6 .none)
    if want == 0 && (0 : Nat) == 1 then raiseError "TypeError" "cannot use a string pattern on a bytes-like object"
    if want == 1 && (0 : Nat) == 0 then raiseError "TypeError" "cannot use a bytes pattern on a string-like object"
    reNoCollectionInside (.str x t) 0
    let clip (i : Int) : Nat := min i.toNat x.cps.size
    pure ({ pattern := .ref 43, string := .str x t, code := (← reRawItems (fs.getD 5 .none)).map (fun (i : Int) => i.toNat), text := x.cps, kind := 0, groups := reRawNat (fs.getD 2 .none), pos := clip 0, lim := clip (2 ^ 63 - 1) } : ReTarget)) = (do
      let rs ← reRawItems (.ref 42)
      pure ({ pattern := .ref 43, string := .str x t, code := rs.map (fun (i : Int) => i.toNat), text := x.cps, kind := 0, groups := 0, pos := min 0 x.cps.size, lim := min (2 ^ 63 - 1) x.cps.size } : ReTarget)) := by
    rintro fs rfl
    with_unfolding_all rfl
  rw [e2 _ rfl]
  refine wpAny_bind ?_
  unfold reRawItems
  refine wpAny_bind ?_
  unfold seqItems?
  refine wpAny_bind (wpAny_load h42 (wpAny_pure (wpAny_pure (wpAny_pure ?_))))
  have ec : (((some #[Value.int 14 0, .int 8 0, .int 1 0, .int 2 0, .int 4294967295 0, .int 1 0,
          .int 1 0, .int 46 0, .int 0 0, .int 16 0, .int 46 0, .int 24 0, .int 9 0,
          .int 1 0, .int 4294967295 0, .int 13 0, .int 4 0, .int 8 0, .int 0 0, .int 0 0, .int 1 0, .int 6 0, .int 5 0, .int 1 0]).getD #[]).map reRawOf).map (fun (i : Int) => i.toNat) = reCode := by decide +kernel
  obtain ⟨k, hk, hf⟩ := search_fails x.cps hd hs
  unfold reAnswer
  refine wpAny_bind (toEnd_none (k := k) ?_ (by omega) (wpAny_pure ⟨_, rfl, h⟩))
  dsimp only
  rw [show min (2 ^ 63 - 1) x.cps.size = x.cps.size by omega, Nat.zero_min]
  rw [← ec] at hf
  exact hf
end
end Mine
end PartR2
section PartR3
open PySem PySem.W PyProof.Rows
namespace Mine
set_option maxRecDepth 100000
theorem re_getMethod {M : Model} {A : Around} {E : Value → Shared → Prop} {s : Shared} {P : Params} {pl : Sem Bool} {Q : Value × List Value → Shared → Prop} (X : (hd.heap_39 P).In s.heap)
    (h : Q (.builtin "re.Pattern.search", [.ref 43]) s) : wpAny M A (getMethod (.ref 43) (Str.ofString "search") pl) Q E s :=
  getMethod_builtin ⟨_, X _ _ (re_in P), rfl⟩ re_attrs re_slot re_type (fun a e => by cases e; exact ⟨_, X _ _ (re_in P), rfl⟩) h
set_option maxHeartbeats 8000000 in
theorem liberal_c (w : World) (x : PySem.Str) (tx : Tok) : C1 w 1 57 ((∀ p, Sre.isDigit (x.cps.getD p 0) = false) ∧ x.cps.size < 2 ^ 60) [.str x tx] (fun _ => .bool true) := by
  unfold C1
  w_top off
  k_with_none
  k_with "my getMethod ref" => (k_here; (with_reducible show wpAny _ _ (getMethod (Value.ref 43) _ _) _ _ _); refine' re_getMethod ?k1 ?_; (case k1 => k_in))
  k_with "my call builtin:re.Pattern.search" => (k_here; refine' search_none ?k1 ?k2 ?k3 ?_; (case k1 => k_in); (case k2 => assumption); (case k3 => omega))
  k_fill
  intros
  rename_i hpre _ _ hret
  obtain ⟨hd1, hd2⟩ := hpre
  refine wpAny_call ?_
  k_dflt cell_enter
  k_steps
  all_goals cb_end hret
set_option maxHeartbeats 8000000 in
theorem ishdn_c (w : World) (x : PySem.Str) (tx : Tok) : C1 w 1 50 ((∀ p, Sre.isDigit (x.cps.getD p 0) = false) ∧ x.cps.size < 2 ^ 60 ∧ (x == Str.ofString "") = false ∧ (Txt.item x 0 == Str.ofString ".") = false ∧ (Txt.item x (-1) == Str.ofString ".") = false ∧ 1 ≤ x.length) [.str x tx] (fun _ => .bool true) := by
  unfold C1
  w_top off
  k_with_none
  k_with "my getMethod ref" => (k_here; (with_reducible show wpAny _ _ (getMethod (Value.ref 43) _ _) _ _ _); refine' re_getMethod ?k1 ?_; (case k1 => k_in))
  k_with "my call builtin:re.Pattern.search" => (k_here; refine' search_none ?k1 ?k2 ?k3 ?_; (case k1 => k_in); (case k2 => assumption); (case k3 => omega))
  k_fill
  intros
  rename_i hpre _ _ hret
  obtain ⟨hd1, hd2, hd3, hd4, hd5, hd6⟩ := hpre
  refine wpAny_call ?_
  k_dflt cell_enter
  k_steps
  all_goals first | cb_end hret | w_report
end Mine
end PartR3
section PartR4
open PySem PySem.W PyProof.Rows
open Builtin Builtin.Str
namespace Mine
set_option maxRecDepth 100000

set_option maxHeartbeats 8000000 in
theorem udm_c (w : World) (x y x' y' : PySem.Str) (tx ty: Tok) : C1 w 2 64 (Txt.lower x = x' ∧ Txt.lower y = y' ∧ tooLong (Txt.lower x).length = false ∧ tooLong (Txt.lower y).length = false ∧ (∀ p, Sre.isDigit (x'.cps.getD p 0) = false) ∧ (∀ p, Sre.isDigit (y'.cps.getD p 0) = false) ∧ x'.cps.size < 2 ^ 60 ∧ y'.cps.size < 2 ^ 60 ∧ Txt.startswith y' (Str.ofString ".") = true) [.str x tx, .str y ty] (fun _ => .bool (Txt.endswith x' y')) := by
  unfold C1
  w_top off
  k_with_none
  k_with "my call builtin:str.lower" => (k_here; (with_reducible show wpAny _ _ (call (Value.builtin "str.lower") [Value.str _ _]) _ _ _); (refine KXw.lower (by assumption) (by assumption) ?_); intro _ _)
  k_with "my call ref" => (k_here; (with_reducible show wpAny _ _ (call (Value.ref 57) _) _ _ _); k_dflt (refine' liberal_c _ _ _ _ _ _ _ _ _ _ _ _ _ _ _ _ _ _ _ _ _ _ _ _ ?k1 ?k2 ?k3 ?k4 ?k5 ?kK ?kp ?kd ?ku ?_); (case k1 => k_asm); (case k2 => k_asm); (case k3 => k_asm); (case k4 => k_asm); (case k5 => k_asm); (case kK => first | exact rfl | assumption); (case kp => exact ⟨by assumption, by omega⟩); (case kd => ktr_room); (case ku => ktr_units); intro t9 h9 tk9 F9 N9; (try dsimp only); (try k_fold))
  k_fill
  intros
  rename_i hpre _ _ hret
  obtain ⟨e1, e2, e3, e4, e5, e6, e7, e8, e9⟩ := hpre
  refine wpAny_call ?_
  k_dflt cell_enter
  k_steps
  all_goals (refine cb_retB hret ?e1 ?e2 ?e3; (case e2 => k_asm); (case e3 => k_asm); (case e1 => exact Eq.symm (by assumption)))
end Mine
end PartR4
section PartR5
open PySem PySem.W PyProof.Rows
open Builtin Builtin.Str
namespace Mine
set_option maxRecDepth 100000

abbrev tailS (x : PySem.Str) : PySem.Str := Txt.slice x (some (Txt.find x (Str.ofString ".") + 1)) none
def reachF (x : PySem.Str) : PySem.Str := if 0 ≤ Txt.find x (Str.ofString ".") then Str.ofString "." ++ tailS x else x
set_option maxHeartbeats 8000000 in
theorem reach_c (w : World) (x : PySem.Str) (tx : Tok) : C1 w 2 71 ((∀ p, Sre.isDigit (x.cps.getD p 0) = false) ∧ x.cps.size < 2 ^ 60 ∧ (x == Str.ofString "") = false ∧ (Txt.item x 0 == Str.ofString ".") = false ∧ (Txt.item x (-1) == Str.ofString ".") = false ∧ 1 ≤ x.length ∧ x.length ≤ 60 ∧ (0 ≤ Txt.find x (Str.ofString ".") → 0 ≤ Txt.find (tailS x) (Str.ofString ".") ∨ (tailS x == Str.ofString "local") = true)) [.str x tx] (fun t => .str (reachF x) t) := by
  unfold C1
  w_top off
  k_with_none
  k_with "my call ref" => (k_here; (with_reducible show wpAny _ _ (call (Value.ref 50) _) _ _ _); k_dflt (refine' ishdn_c _ _ _ _ _ _ _ _ _ _ _ _ _ _ _ _ _ _ _ _ _ _ _ _ ?k1 ?k2 ?k3 ?k4 ?k5 ?kK ?kp ?kd ?ku ?_); (case k1 => k_asm); (case k2 => k_asm); (case k3 => k_asm); (case k4 => k_asm); (case k5 => k_asm); (case kK => first | exact rfl | assumption); (case kp => (refine ⟨?_, ?_, ?_, ?_, ?_, ?_⟩ <;> first | assumption | omega)); (case kd => ktr_room); (case ku => ktr_units); intro t9 h9 tk9 F9 N9; (try dsimp only); (try k_fold))
  k_with "my subscriptTail Name Slice str ref" => (k_here; (rename Fr _ _ _ _ => F'); (rename News _ _ _ _ => N'); (refine slice_strN_sn F' N' ?_ (hsz := by size_fits)); clear F' N'; intro h' t' k' F' N')
  k_fill
  intros
  rename_i hpre _ _ hret
  obtain ⟨hd1, hd2, hd3, hd4, hd5, hd6, hd7, hd8⟩ := hpre
  refine wpAny_call ?_
  k_dflt cell_enter
  k_steps
  all_goals first
    | (refine cb_retS hret ?e1 ?e2 ?e3; (case e2 => k_asm); (case e3 => k_asm); (case e1 => (unfold reachF; rw [if_pos (by assumption)])))
    | (refine cb_retS hret ?e1 ?e2 ?e3; (case e2 => k_asm); (case e3 => k_asm); (case e1 => (unfold reachF; rw [if_neg (by assumption)])))
    | (exfalso; rcases hd8 (by assumption) with h | h; exact absurd h (by assumption); exact absurd (h.symm.trans (by assumption)) (show ¬ ((true : Bool) = false) by decide))
end Mine
end PartR5
section PartR6
open PySem PySem.W PyProof.Rows
open Builtin Builtin.Str
namespace Mine
set_option maxRecDepth 100000

def hostR : Nat → PySem.Str → Int → Int → Int → PySem.Str
  | 0, h, _, _, _ => h
  | k + 1, h, p, st, n => if p = n then h else if n < p then hostR k (Str.ofString "local." ++ h) (p - st) (st / 2) n else hostR k (Str.ofString "xlocal." ++ h) (p + st) (st / 2) n
def hostS (n : Int) : PySem.Str := hostR 5 (Str.ofString "local") 16 8 n
def HInv (n : Int) (h : PySem.Str) (p st : Int) : Prop :=
  ∃ k : Nat, hostR k h p st n = hostS n ∧ (st = 8 ∧ k = 5 ∨ st = 4 ∧ k = 4 ∨ st = 2 ∧ k = 3 ∨ st = 1 ∧ k = 2 ∨ st = 0 ∧ k = 1) ∧ (p = n ∨ (p - 2 * st < n ∧ n < p + 2 * st)) ∧ h.length + 7 * k ≤ 40
theorem hinv_start {n : Int} (h1 : 1 ≤ n) (h2 : n ≤ 31) : HInv n (Str.ofString "local") 16 8 := ⟨5, rfl, .inl ⟨rfl, rfl⟩, .inr ⟨by omega, by omega⟩, by decide⟩
theorem str_len_append (a b : PySem.Str) : (a ++ b).length = a.length + b.length := Array.size_append
theorem hinv_down {n : Int} {h : PySem.Str} {p st : Int} (x : HInv n h p st) (hp : ¬ p = n) (hl : n < p) : HInv n (Str.ofString "local." ++ h) (p - st) (st / 2) := by
  obtain ⟨k, e, hk, hr, hs⟩ := x
  obtain ⟨j, rfl⟩ := lad_pos hk
  rw [hostR, if_neg hp, if_pos hl] at e
  obtain ⟨l1, l2⟩ := lad_down hk hr hp hl
  exact ⟨j, e, l1, l2, by rw [str_len_append, show (Str.ofString "local.").length = 6 from rfl]; exact len_dn hs⟩
theorem hinv_up {n : Int} {h : PySem.Str} {p st : Int} (x : HInv n h p st) (hp : ¬ p = n) (hl : ¬ n < p) : HInv n (Str.ofString "xlocal." ++ h) (p + st) (st / 2) := by
  obtain ⟨k, e, hk, hr, hs⟩ := x
  obtain ⟨j, rfl⟩ := lad_pos hk
  rw [hostR, if_neg hp, if_neg hl] at e
  obtain ⟨l1, l2⟩ := lad_up hk hr hp hl
  exact ⟨j, e, l1, l2, by rw [str_len_append, show (Str.ofString "xlocal.").length = 7 from rfl]; exact len_up hs⟩
theorem hinv_end {n : Int} {h : PySem.Str} {p st : Int} (x : HInv n h p st) (hp : p = n) : h = hostS n := by
  obtain ⟨k, e, hk, hr, hs⟩ := x
  obtain ⟨j, rfl⟩ := lad_pos hk
  rw [hostR, if_pos hp] at e
  exact e
theorem hinv_len {n : Int} {h : PySem.Str} {p st : Int} (x : HInv n h p st) : h.length ≤ 40 := by
  obtain ⟨k, e, hk, hr, hs⟩ := x; exact len_le hs
theorem hinv_st {n : Int} {h : PySem.Str} {p st : Int} (h1 : 1 ≤ n) (h2 : n ≤ 31) (x : HInv n h p st) : 0 ≤ st ∧ st ≤ 8 ∧ -20 ≤ p ∧ p ≤ 63 ∧ (st = 0 → p = n) := by
  obtain ⟨k, e, hk, hr, hs⟩ := x; exact lad_bd h1 h2 hk hr
def HI (n : Int) (host : PySem.Str) (place step : Int) : Prop := HInv n host place step ∧ host.length ≤ 40 ∧ 0 ≤ step ∧ step ≤ 8 ∧ -20 ≤ place ∧ place ≤ 63 ∧ (step = 0 → place = n)
theorem hi_of {n : Int} (h1 : 1 ≤ n) (h2 : n ≤ 31) {h : PySem.Str} {p st : Int} (x : HInv n h p st) : HI n h p st := by
  obtain ⟨a, b, c, d, e⟩ := hinv_st h1 h2 x
  exact ⟨x, hinv_len x, a, b, c, d, e⟩
theorem hi_start {n : Int} (h1 : 1 ≤ n) (h2 : n ≤ 31) : HI n (Str.ofString "local") 16 8 := hi_of h1 h2 (hinv_start h1 h2)
theorem hi_down {n : Int} (h1 : 1 ≤ n) (h2 : n ≤ 31) {h : PySem.Str} {p st : Int} (x : HInv n h p st) (hp : ¬ p = n) (hl : n < p) : HI n (Str.ofString "local." ++ h) (p - st) (st.fdiv 2) := by
  rw [Int.fdiv_eq_ediv_of_nonneg _ (by decide)]; exact hi_of h1 h2 (hinv_down x hp hl)
theorem hi_up {n : Int} (h1 : 1 ≤ n) (h2 : n ≤ 31) {h : PySem.Str} {p st : Int} (x : HInv n h p st) (hp : ¬ p = n) (hl : ¬ n < p) : HI n (Str.ofString "xlocal." ++ h) (p + st) (st.fdiv 2) := by
  rw [Int.fdiv_eq_ediv_of_nonneg _ (by decide)]; exact hi_of h1 h2 (hinv_up x hp hl)
theorem half_less {st : Int} {P : Prop} (h0 : 0 ≤ st) (h : st = 0 → P) (hp : ¬ P) : (st.fdiv 2).toNat < st.toNat := half_lt h0 h hp
set_option maxHeartbeats 8000000 in
theorem host_c (w : World) (n : Int) (tn : Tok) : C1 w 1 151 (1 ≤ n ∧ n ≤ 31) [.int n tn] (fun t => .str (hostS n) t) := by
  unfold C1
  w_top off
  k_with_none
  k_fill
  intros
  rename_i hpre _ _ hret
  obtain ⟨hd1, hd2⟩ := hpre
  refine wpAny_call ?_
  k_dflt cell_enter
  k_with "exec While Compare cons nil" => k_while (fun _ host place step => HInv n host place step ∧ host.length ≤ 40 ∧ 0 ≤ step ∧ step ≤ 8 ∧ -20 ≤ place ∧ place ≤ 63 ∧ (step = 0 → place = n)) (fun _ host place step => step.toNat) "host" "place" "step"
  k_with "measure" => exact half_less (by assumption) (by assumption) (by assumption)
  k_with "state" => first
    | exact hi_start hd1 hd2
    | exact hi_down hd1 hd2 (by assumption) (by first | assumption | omega) (by first | assumption | omega)
    | exact hi_up hd1 hd2 (by assumption) (by first | assumption | omega) (by first | assumption | omega)
  k_steps
  all_goals (refine cb_retS hret ?e1 ?e2 ?e3; (case e2 => k_asm); (case e3 => (refine' cb_drop ?cbN ?cbS; (case cbN => assumption); (case cbS => kcj_all))); (case e1 => exact hinv_end (by assumption) (by assumption)))
end Mine
end PartR6
section PartR7
open PySem PySem.W PyProof.Rows
open Builtin Builtin.Str
namespace Mine
set_option maxRecDepth 100000

def partR : Nat → Int → Int → Int → Int → Int
  | 0, _, _, p, _ => p
  | k + 1, a, b, p, st => if p ≠ a ∧ p ≠ b ∧ (decide (a < p) = decide (b < p)) then partR k a b (if a < p then p - st else p + st) (st / 2) else p
def part (a b : Int) : Int := partR 5 a b 16 8
def PInv (a b p st : Int) : Prop :=
  ∃ k : Nat, partR k a b p st = part a b ∧ (st = 8 ∧ k = 5 ∨ st = 4 ∧ k = 4 ∨ st = 2 ∧ k = 3 ∨ st = 1 ∧ k = 2 ∨ st = 0 ∧ k = 1) ∧ (p = a ∨ (p - 2 * st < a ∧ a < p + 2 * st))
def PI (a b p st : Int) : Prop := PInv a b p st ∧ 0 ≤ st ∧ st ≤ 8 ∧ -20 ≤ p ∧ p ≤ 63 ∧ (st = 0 → p = a)
theorem pi_of {a b p st : Int} (h1 : 1 ≤ a) (h2 : a ≤ 31) (x : PInv a b p st) : PI a b p st := by
  refine ⟨x, ?_⟩
  obtain ⟨k, e, hk, hr⟩ := x
  exact lad_bd h1 h2 hk hr
theorem pi_start {a b : Int} (h1 : 1 ≤ a) (h2 : a ≤ 31) : PI a b 16 8 := pi_of h1 h2 ⟨5, rfl, .inl ⟨rfl, rfl⟩, .inr ⟨by omega, by omega⟩⟩
theorem pi_down {a b p st : Int} (h1 : 1 ≤ a) (h2 : a ≤ 31) (x : PInv a b p st) (ha : ¬ p = a) (hb : ¬ p = b) (hl : a < p) (hm' : (decide (a < p) == decide (b < p)) = true) : PI a b (p - st) (st.fdiv 2) := by
  have hm := eq_of_beq hm'
  rw [Int.fdiv_eq_ediv_of_nonneg _ (by decide)]
  refine pi_of h1 h2 ?_
  obtain ⟨k, e, hk, hr⟩ := x
  obtain ⟨j, rfl⟩ := lad_pos hk
  rw [partR, if_pos ⟨ha, hb, hm⟩, if_pos hl] at e
  obtain ⟨l1, l2⟩ := lad_down hk hr ha hl
  exact ⟨j, e, l1, l2⟩
theorem pi_up {a b p st : Int} (h1 : 1 ≤ a) (h2 : a ≤ 31) (x : PInv a b p st) (ha : ¬ p = a) (hb : ¬ p = b) (hl : ¬ a < p) (hm' : (decide (a < p) == decide (b < p)) = true) : PI a b (p + st) (st.fdiv 2) := by
  have hm := eq_of_beq hm'
  rw [Int.fdiv_eq_ediv_of_nonneg _ (by decide)]
  refine pi_of h1 h2 ?_
  obtain ⟨k, e, hk, hr⟩ := x
  obtain ⟨j, rfl⟩ := lad_pos hk
  rw [partR, if_pos ⟨ha, hb, hm⟩, if_neg hl] at e
  obtain ⟨l1, l2⟩ := lad_up hk hr ha hl
  exact ⟨j, e, l1, l2⟩
theorem pi_end {a b p st : Int} (x : PInv a b p st) (h : ¬ (p ≠ a ∧ p ≠ b ∧ (decide (a < p) = decide (b < p)))) : p = part a b := by
  obtain ⟨k, e, hk, hr⟩ := x
  obtain ⟨j, rfl⟩ := lad_pos hk
  rw [partR, if_neg h] at e
  exact e
theorem pi_end1 {a b p st : Int} (x : PInv a b p st) (h : p = a) : p = part a b := pi_end x (fun c => c.1 h)
theorem pi_end2 {a b p st : Int} (x : PInv a b p st) (h : p = b) : p = part a b := pi_end x (fun c => c.2.1 h)
theorem pi_end3 {a b p st : Int} (x : PInv a b p st) (h : (decide (a < p) == decide (b < p)) = false) : p = part a b := pi_end x (fun c => by rw [c.2.2] at h; simp at h)
theorem half_less' {st : Int} {P : Prop} (h0 : 0 ≤ st) (h : st = 0 → P) (hp : ¬ P) : (st.fdiv 2).toNat < st.toNat := half_lt h0 h hp
set_option maxHeartbeats 8000000 in
theorem part_c (w : World) (a b : Int) (ta tb : Tok) : C1 w 1 158 (1 ≤ a ∧ a ≤ 31 ∧ 1 ≤ b ∧ b ≤ 31) [.int a ta, .int b tb] (fun t => .int (part a b) t) := by
  unfold C1
  w_top off
  k_with_none
  k_fill
  intros
  rename_i hpre _ _ hret
  obtain ⟨hd1, hd2, hd3, hd4⟩ := hpre
  refine wpAny_call ?_
  k_dflt cell_enter
  k_with "exec While BoolOp cons nil" => k_while (fun _ place step => PInv a b place step ∧ 0 ≤ step ∧ step ≤ 8 ∧ -20 ≤ place ∧ place ≤ 63 ∧ (step = 0 → place = a)) (fun _ place step => step.toNat) "place" "step"
  k_with "measure" => exact half_less' (by assumption) (by assumption) (by assumption)
  k_with "state" => first
    | exact pi_start hd1 hd2
    | exact pi_down hd1 hd2 (by assumption) (by first | assumption | omega) (by first | assumption | omega) (by first | assumption | omega) (by assumption)
    | exact pi_up hd1 hd2 (by assumption) (by first | assumption | omega) (by first | assumption | omega) (by first | assumption | omega) (by assumption)
  k_steps
  all_goals (refine cb_retI hret ?e1 ?e2 ?e3; (case e2 => k_asm); (case e3 => (refine' cb_drop ?cbN ?cbS; (case cbN => assumption); (case cbS => kcj_all))); (case e1 => first | exact pi_end1 (by assumption) (by assumption) | exact pi_end2 (by assumption) (by assumption) | exact pi_end3 (by assumption) (by assumption)))
end Mine
end PartR7
section PartW0
open PySem PySem.W PyProof.Rows
open Builtin Builtin.Str
namespace Mine
set_option maxRecDepth 100000
def wsT (n : Int) : PySem.Str := Txt.mul (Str.ofString " ") (n - 1) ++ Str.ofString "\tx \t"
abbrev CW (w : World) (d : Nat) (f : Addr) (pre : List (Addr × Obj) → Prop) (vs : List Value) (P : List (Addr × Obj) → Value → List (Addr × Obj) → Prop) : Prop :=
  ∀ (mean : ExcName → Option Value) (mg mb : Str → Option Value) (news : List (Addr × Obj)) (dp un : Nat) (gd : Option (List Code)) (cn : Str) (cs : Scope) (a : Addr) (ccd : Value) (cl : List (Str × Addr)) (outer : List Env) (A₀ : Around) (base h₀ : Heap) (L : Addr) (m : Str → Option Value) (s : Shared) (Q E : Value → Shared → Prop),
    Below A₀ base outer h₀ → Fr h₀ L s.heap m → (hd.heap_39 w.params).In h₀ → News h₀ L s.heap news → Top hd.view_39 Loo mean mg mb h₀ → cs.kind = .function →
    pre news → dp + d < recursionLimit → un + 8 * d < cLine →
    (∀ (v : Value) (h' : Heap) (tk' : Nat) (nx : List (Addr × Obj)), P news v nx → Fr h₀ L h' m → News h₀ L h' nx → Q v { s with heap := h', toks := tk' }) →
      wpAny (model PySem.Challenge.rw_xg0074_01.row.prog w) (ktrTop dp un gd cn cs L a ccd cl outer) (call (.ref f) vs) Q E s
section
variable {prog : Program} {w : World} {A : Around} {E : Value → Shared → Prop} {s : Shared} {env : Env} {h₀ : Heap} {x : PySem.Str} {body : List Stmt} {Q : Flow → Shared → Prop} {I : Addr} {news : List (Addr × Obj)} {sp : PySem.Str} {r : List PySem.Str}
theorem rest_spaces (S : Nat → (PySem.Str → Option Value) → Prop) (K : Nat)
    (step : ∀ i m, i < K → S i m → ∀ (u : Tok) (it : Obj) h tk, Fr h₀ env.locals h (fun y => if y = x then some (.str sp u) else m y) → News h₀ env.locals h ((I, it) :: news) →
      wpAny (model prog w) A (execs body env) (UnrPost h₀ env.locals { s with heap := h, toks := tk } I it (fun m' n' => n' = news ∧ S (i + 1) m') Q) E { s with heap := h, toks := tk })
    (rest : ∀ m, S K m → StrRest prog w A E h₀ env x body Q s I r m news) :
    ∀ (j i : Nat) (m : PySem.Str → Option Value), i + j = K → S i m → StrRest prog w A E h₀ env x body Q s I (List.replicate j sp ++ r) m news := by
  intro j
  induction j with
  | zero =>
    intro i m e hS
    exact rest m (by rw [← e]; exact hS)
  | succ j ih =>
    intro i m e hS
    rw [List.replicate_succ, List.cons_append]
    refine StrRest.succ fun u it h tk F N => ?_
    refine wpAny_mono (step i m (by omega) hS u it h tk F N) (fun f s₂ p => ?_) fun _ _ x => x
    have fin : UnrEnd h₀ env.locals { s with heap := h, toks := tk } I it (fun m' n' => n' = news ∧ S (i + 1) m') s₂ → UnrEnd h₀ env.locals { s with heap := h, toks := tk } I it (StrRest prog w A E h₀ env x body Q s I (List.replicate j sp ++ r)) s₂ := by
      rintro ⟨h', tk, m', news', e', F', N', ho, hn, hS'⟩
      subst hn
      exact ⟨h', tk, m', _, e', F', N', ho, ih (i + 1) m' (by omega) hS'⟩
    cases f with
    | ret v => exact p
    | brk => exact p
    | next => exact fin p
    | cont => exact fin p
theorem allLt_ne {d : Addr} : ∀ {l : List (Addr × Obj)}, AllLt d l → ∀ p ∈ l, p.1 ≠ d
  | [], _, _, h => nomatch h
  | _ :: _, x, p, h => by
    rcases List.mem_cons.mp h with rfl | h
    · exact Nat.ne_of_lt x.1
    · exact allLt_ne x.2 p h
theorem unr_same {L : Addr} {it : Obj} {S : (PySem.Str → Option Value) → Prop} {s₁ : Shared} {h' : Heap} {tk : Nat} {m' : PySem.Str → Option Value} (F : Fr h₀ L h' m') (N : News h₀ L h' ((I, it) :: news))
    (off : AllLt I news) (r : S m') : UnrEnd h₀ L s₁ I it (fun m' n' => n' = news ∧ S m') { s₁ with heap := h', toks := tk } :=
  ⟨h', tk, m', news, rfl, F, N, allLt_ne off, rfl, r⟩
theorem unr_0 {L : Addr} {it : Obj} {rest : (PySem.Str → Option Value) → List (Addr × Obj) → Prop} {s₁ : Shared} {h' : Heap} {tk : Nat} {m' : PySem.Str → Option Value} (F : Fr h₀ L h' m') (N : News h₀ L h' ((I, it) :: news))
    (off : AllLt I news) (r : rest m' news) : UnrEnd h₀ L s₁ I it rest { s₁ with heap := h', toks := tk } :=
  ⟨h', tk, m', news, rfl, F, N, allLt_ne off, r⟩
theorem unr_3 {L : Addr} {it : Obj} {rest : (PySem.Str → Option Value) → List (Addr × Obj) → Prop} {s₁ : Shared} {h' : Heap} {tk : Nat} {m' : PySem.Str → Option Value} {p₁ p₂ p₃ : Addr × Obj} (F : Fr h₀ L h' m') (N : News h₀ L h' (p₁ :: p₂ :: p₃ :: (I, it) :: news))
    (off : AllLt I news) (h1 : p₁.1 ≠ I) (h2 : p₂.1 ≠ I) (h3 : p₃.1 ≠ I) (r : rest m' (p₁ :: p₂ :: p₃ :: news)) : UnrEnd h₀ L s₁ I it rest { s₁ with heap := h', toks := tk } := by
  refine ⟨h', tk, m', p₁ :: p₂ :: p₃ :: news, rfl, F, fun p hp => N p ?_, fun p hp => ?_, r⟩
  · simp only [List.mem_cons] at hp ⊢
    rcases hp with h | h | h | h | h
    · exact .inr (.inr (.inr (.inl h)))
    · exact .inl h
    · exact .inr (.inl h)
    · exact .inr (.inr (.inl h))
    · exact .inr (.inr (.inr (.inr h)))
  · simp only [List.mem_cons] at hp
    rcases hp with rfl | rfl | rfl | h
    · exact h1
    · exact h2
    · exact h3
    · exact allLt_ne off p h
end
def WS (m₀ : PySem.Str → Option Value) (i : Nat) (m : PySem.Str → Option Value) : Prop :=
  (∃ t, m (Str.ofString "b") = some (.int i t)) ∧ (∃ t, m (Str.ofString "n") = some (.int i t)) ∧ ∀ y, y ≠ Str.ofString "b" → y ≠ Str.ofString "n" → y ≠ Str.ofString "ch" → m y = m₀ y
theorem ws_lam {m₀ m : PySem.Str → Option Value} {i : Nat} (h : WS m₀ i m) : ∃ t u c, m = fun y => if y = Str.ofString "b" then some (.int i t) else if y = Str.ofString "n" then some (.int i u) else if y = Str.ofString "ch" then c else m₀ y := by
  obtain ⟨⟨t, ht⟩, ⟨u, hu⟩, h3⟩ := h
  refine ⟨t, u, m (Str.ofString "ch"), funext fun y => ?_⟩
  by_cases h1 : y = Str.ofString "b"
  · rw [if_pos h1, h1, ht]
  · rw [if_neg h1]
    by_cases h2 : y = Str.ofString "n"
    · rw [if_pos h2, h2, hu]
    · rw [if_neg h2]
      by_cases h4 : y = Str.ofString "ch"
      · rw [if_pos h4, h4]
      · rw [if_neg h4, h3 y h1 h2 h4]
def countI (n : Int) : List Int := List.replicate (n - 1).toNat 0 ++ [1]
theorem ws_count {n : Int} (h1 : 1 ≤ n) (h2 : n ≤ 31) : (([] ++ (List.replicate (n - 1 - 0 + 1).toNat [(0 : Int)]).flatten).set (n - 1).toNat (([] ++ (List.replicate (n - 1 - 0 + 1).toNat [(0 : Int)]).flatten).getD (n - 1).toNat 0 + 1)) = countI n := by
  obtain ⟨k, hk, hk2⟩ : ∃ k : Nat, k < 31 ∧ n = (k : Int) + 1 := ⟨(n - 1).toNat, by omega, by omega⟩
  subst hk2
  have e : ∀ k : Nat, k < 31 → (([] ++ (List.replicate ((k : Int) + 1 - 1 - 0 + 1).toNat [(0 : Int)]).flatten).set ((k : Int) + 1 - 1).toNat (([] ++ (List.replicate ((k : Int) + 1 - 1 - 0 + 1).toNat [(0 : Int)]).flatten).getD ((k : Int) + 1 - 1).toNat 0 + 1)) = countI ((k : Int) + 1) := by decide +kernel
  exact e k hk
theorem countI_len {n : Int} (h1 : 1 ≤ n) : (countI n).length = n.toNat := by simp [countI]; omega
theorem ws_tuple {prog : Program} {w : World} {A : Around} {E : Value → Shared → Prop} {s : Shared} {h₀ : Heap} {L : Addr} {m : PySem.Str → Option Value} {news : List (Addr × Obj)} {l : Addr} {vs : List Value} {ns : List Int} {n : Int} {Q : Value → Shared → Prop} (F : Fr h₀ L s.heap m) (N : News h₀ L s.heap news) (hl : s.heap.IsList l vs.toArray) (hi : IntsAre vs ns)
    (h1 : 1 ≤ n) (h2 : n ≤ 31) (e : ns = countI n)
    (h : ∀ D ws h', IntsAre ws (countI n) → Fr h₀ L h' m → News h₀ L h' ((D, ({ cls := .type "tuple", data := .seq (List.toArray ws) } : Obj)) :: news) → (∀ p ∈ news, p.1 < D) → Q (.ref D) { s with heap := h' }) : wpAny (model prog w) A (call (.type "tuple") [.ref l]) Q E s := by
  subst e
  refine kde_tupleOf (zs := vs) F N hl ?_ rfl fun D h' F' N' l1 => h D vs h' hi F' N' l1
  rw [List.size_toArray, hi.length, countI_len h1]
  omega
theorem ws_len {prog : Program} {w : World} {A : Around} {E : Value → Shared → Prop} {s : Shared} {l : Addr} {vs : List Value} {ns : List Int} {n : Int} {Q : Value → Shared → Prop} (hl : s.heap.IsList l vs.toArray) (hi : IntsAre vs ns)
    (h1 : 1 ≤ n) (h2 : n ≤ 31) (e : ns = countI n) (h : Q (.int n (s.toks + 1)) { s with toks := s.toks + 1 + 1 }) : wpAny (model prog w) A (call (.builtin "len") [.ref l]) Q E s := by
  subst e
  have hz : vs.toArray.size = n.toNat := by rw [List.size_toArray, hi.length, countI_len h1]
  refine len_list hl (by rw [hz]; omega) ?_
  rw [hz, show ((n.toNat : Nat) : Int) = n by omega]
  exact h
theorem ws_lenT {prog : Program} {w : World} {A : Around} {E : Value → Shared → Prop} {s : Shared} {l : Addr} {vs : List Value} {n : Int} {Q : Value → Shared → Prop} (hl : IsTup s.heap l vs.toArray) (hi : IntsAre vs (countI n))
    (h1 : 1 ≤ n) (h2 : n ≤ 31) (h : Q (.int n (s.toks + 1)) { s with toks := s.toks + 1 + 1 }) : wpAny (model prog w) A (call (.builtin "len") [.ref l]) Q E s := by
  have hz : vs.toArray.size = n.toNat := by rw [List.size_toArray, hi.length, countI_len h1]
  refine len_tuple hl (by rw [hz]; omega) ?_
  rw [hz, show ((n.toNat : Nat) : Int) = n by omega]
  exact h
def wsL (k : Nat) : List PySem.Str := List.replicate k (Str.ofString " ") ++ [Str.ofString "\t", Str.ofString "x", Str.ofString " ", Str.ofString "\t"]
theorem ws_codes {n : Int} (h1 : 1 ≤ n) (h2 : n ≤ 31) : (wsT n).cps.toList.map (fun c => (⟨#[c]⟩ : PySem.Str)) = wsL (n - 1).toNat := by
  obtain ⟨k, hk, hk2⟩ : ∃ k : Nat, k < 31 ∧ n = (k : Int) + 1 := ⟨(n - 1).toNat, by omega, by omega⟩
  subst hk2
  have e : ∀ k : Nat, k < 31 → (wsT ((k : Int) + 1)).cps.toList.map (fun c => (⟨#[c]⟩ : PySem.Str)) = wsL ((k : Int) + 1 - 1).toNat := by decide +kernel
  exact e k hk
abbrev leadD (w : World) (n : Int) (p : Addr) (k₁ k₂ k₃ k₄ k₅ t₁ t₂ t₃ : Tok) : Obj := dictOf
  [{ hash := PyData.keyHash w.params (Str.ofString "raw"), key := .str (Str.ofString "raw") k₁, val := .str (wsT n) t₁ },
   { hash := PyData.keyHash w.params (Str.ofString "n"), key := .str (Str.ofString "n") k₂, val := .int (n - 1 + 1) t₂ },
   { hash := PyData.keyHash w.params (Str.ofString "nt"), key := .str (Str.ofString "nt") k₃, val := .int (0 + 1) t₃ },
   { hash := PyData.keyHash w.params (Str.ofString "norm"), key := .str (Str.ofString "norm") k₄, val := .ref p },
   { hash := PyData.keyHash w.params (Str.ofString "is_simple"), key := .str (Str.ofString "is_simple") k₅, val := .bool (decide (n ≤ 1)) }] 5
abbrev tupO (vs : Array Value) : Obj := { cls := .type "tuple", data := .seq vs }
def LeadP (w : World) (n : Int) (news : List (Addr × Obj)) (v : Value) (nx : List (Addr × Obj)) : Prop :=
  ∃ (o d c p : Addr) (ws : List Value) (k₁ k₂ k₃ k₄ k₅ t₁ t₂ t₃ t₄ : Tok), v = .ref o ∧
    nx = (p, tupO #[.ref c, .int 0 t₄]) :: (c, tupO (List.toArray ws)) :: (o, instObj 140 d) :: (d, leadD w n p k₁ k₂ k₃ k₄ k₅ t₁ t₂ t₃) :: news ∧
    IntsAre ws (countI n) ∧ (∀ q ∈ news, q.1 < d) ∧ @LT.lt Nat _ d o ∧ @LT.lt Nat _ o c ∧ @LT.lt Nat _ c p
theorem news_pick {h₀ h : Heap} {L : Addr} {a₀ a₁ a₂ a₃ a₄ a₅ a₆ a₇ x d : Addr × Obj} {news : List (Addr × Obj)} (N : News h₀ L h (a₀ :: a₁ :: a₂ :: a₃ :: a₄ :: a₅ :: a₆ :: a₇ :: x :: d :: news)) : News h₀ L h (a₀ :: a₁ :: x :: d :: news) := by
  intro p hp
  refine N p ?_
  simp only [List.mem_cons] at hp ⊢
  rcases hp with h | h | h | h | h <;> simp [h]
end Mine
end PartW0
section PartW1
open PySem PySem.W PyProof.Rows
open Builtin Builtin.Str
namespace Mine
set_option maxRecDepth 100000
local macro_rules | `(tactic| k_room) => `(tactic| ktr_room)
theorem ws_iter {prog : Program} {w : World} {A : Around} {E : Value → Shared → Prop} {s : Shared} {env : Env} {h₀ : Heap} {x : PySem.Str} {body : List Stmt} {Q : Flow → Shared → Prop} {n : Int} {tn : Tok} {m₀ : PySem.Str → Option Value} {news : List (Addr × Obj)}
    (h1 : 1 ≤ n) (h2 : n ≤ 31) (hh : A.handled = none) (F : Fr h₀ env.locals s.heap m₀) (N : News h₀ env.locals s.heap news) (hb : ∃ t, m₀ (Str.ofString "b") = some (.int (0 : Nat) t)) (hn : ∃ t, m₀ (Str.ofString "n") = some (.int (0 : Nat) t))
    (step : ∀ I : Addr, (∀ p ∈ news, p.1 < I) → ∀ (i : Nat) t₁ t₂ c, (i : Int) < n - 1 → ∀ (u : Tok) (it : Obj) h tk, Fr h₀ env.locals h (fun y => if y = x then some (.str (Str.ofString " ") u) else if y = Str.ofString "b" then some (.int i t₁) else if y = Str.ofString "n" then some (.int i t₂) else if y = Str.ofString "ch" then c else m₀ y) → News h₀ env.locals h ((I, it) :: news) →
      wpAny (model prog w) A (execs body env) (UnrPost h₀ env.locals { s with heap := h, toks := tk } I it (fun m' n' => n' = news ∧ WS m₀ (i + 1) m') Q) E { s with heap := h, toks := tk })
    (rest : ∀ I : Addr, (∀ p ∈ news, p.1 < I) → ∀ t₁ t₂ c, StrRest prog w A E h₀ env x body Q s I [Str.ofString "\t", Str.ofString "x", Str.ofString " ", Str.ofString "\t"] (fun y => if y = Str.ofString "b" then some (.int (n - 1) t₁) else if y = Str.ofString "n" then some (.int (n - 1) t₂) else if y = Str.ofString "ch" then c else m₀ y) news) :
    wpAny (model prog w) A (pyIter (.str (wsT n) tn)) (fun it s₂ => LoopAtV prog w A h₀ env x body Q E it s₂) E s := by
  refine iter_strUnr (l := wsL (n - 1).toNat) hh F N (ws_codes h1 h2) fun I hI => ?_
  refine rest_spaces (WS m₀) (n - 1).toNat ?_ ?_ _ 0 _ (Nat.zero_add _) ⟨hb, hn, fun _ _ _ _ => rfl⟩
  · intro i m hi hS u it h tk F' N'
    obtain ⟨t₁, t₂, c, rfl⟩ := ws_lam hS
    exact step I hI i t₁ t₂ c (by omega) u it h tk F' N'
  · intro m hS
    obtain ⟨t₁, t₂, c, rfl⟩ := ws_lam hS
    have := rest I hI t₁ t₂ c
    rw [show (((n - 1).toNat : Nat) : Int) = n - 1 by omega]
    exact this
set_option maxHeartbeats 8000000 in
theorem ws_c (w : World) (n : Int) (tn : Tok) : CW w 1 140 (fun _ => 1 ≤ n ∧ n ≤ 31) [.str (wsT n) tn] (LeadP w n) := by
  unfold CW
  w_top off
  k_with_none
  k_with "my pyIter str" => (k_here; (rename Fr _ _ _ _ => lF'); (rename News _ _ _ _ => lN'); (with_unfolding_all refine ws_iter (by assumption) (by assumption) (by rfl) lF' lN' ⟨_, rfl⟩ ⟨_, rfl⟩ ?_ ?_); (all_goals (clear lF' lN'; intro i' l1; (try k_lt l1))); (focus (intro j9 t8 u8 c8 hj9 u9 it9 h9 tk9 F' N')); (rotate_left); (focus (intro t8 u8 c8)); rotate_right)
  k_with "my UnrEnd" => ((rename Fr _ _ _ _ => lF'); (rename News _ _ _ _ => lN'); (with_unfolding_all refine unr_3 lF' lN' (by assumption) ?_ ?_ ?_ ?_); (iterate 3 (focus (show @Ne Nat _ _; omega))))
  k_with "my UnrEnd" => ((rename Fr _ _ _ _ => lF'); (rename News _ _ _ _ => lN'); (with_unfolding_all refine unr_same lF' lN' (by assumption) ⟨⟨_, rfl⟩, ⟨_, rfl⟩, ?_⟩); intro y h1 h2 h3; dsimp only; simp only [if_neg h1, if_neg h2, if_neg h3])
  k_with "my call type:tuple" => (k_here; (with_reducible show wpAny _ _ (call (Value.type _) [Value.ref _]) _ _ _); k_dflt (refine' ws_tuple ?k1 ?k2 ?k3 ?k4 ?h1 ?h2 ?k5 ?_; (case k1 => k_asm); (case k2 => k_asm); (case k3 => exact News.isList (by k_asm) (by k_mem)); (case k4 => l_ints); (case h1 => assumption); (case h2 => assumption); (case k5 => exact ws_count (by assumption) (by assumption))); intro D' ws' h' hI' F' N' l1; (try k_lt l1); (try k_sweep))
  k_with "my call builtin:len" => (k_here; (with_reducible show wpAny _ _ (call (Value.builtin "len") [Value.ref _]) _ _ _); k_dflt (refine' ws_len ?k3 ?k4 ?h1 ?h2 ?k5 ?_; (case k3 => exact News.isList (by k_asm) (by k_mem)); (case k4 => l_ints); (case h1 => assumption); (case h2 => assumption); (case k5 => exact ws_count (by assumption) (by assumption))))
  k_fill
  intros
  rename_i hpre _ _ hret
  obtain ⟨hd1, hd2⟩ := hpre
  k_dflt (refine' call_cls ?k1 ?k2 ?k3 ?k4 ?k5 ?k6 ?_; (case k1 => k_asm); (case k2 => k_asm); (case k3 => k_asm); (case k4 => k_is); (case k5 => k_is); (case k6 => k_is); k_whole; intro x' d' h' F' N' l1 l2; (try k_lt l1); (try k_lt2 l2); (try k_sweep))
  k_dflt cell_enter
  k_steps
  rename Fr _ _ _ _ => kF9
  rename News _ _ _ _ => kN9
  refine' hret _ _ _ _ ?P kF9 (news_pick kN9)
  exact ⟨_, _, _, _, _, _, _, _, _, _, _, _, _, _, rfl, rfl, by assumption, by assumption, by omega, by omega, by omega⟩
end Mine
end PartW1
section PartI0
open PySem PySem.W PyProof.Rows
open Builtin Builtin.Str
namespace Mine
set_option maxRecDepth 100000
abbrev C1n (w : World) (d : Nat) (f : Addr) (pre : List (Addr × Obj) → Prop) (vs : List Value) (R : Tok → Value) : Prop :=
  ∀ (mean : ExcName → Option Value) (mg mb : Str → Option Value) (news : List (Addr × Obj)) (dp un : Nat) (gd : Option (List Code)) (cn : Str) (cs : Scope) (a : Addr) (ccd : Value) (cl : List (Str × Addr)) (outer : List Env) (A₀ : Around) (base h₀ : Heap) (L : Addr) (m : Str → Option Value) (s : Shared) (Q E : Value → Shared → Prop),
    Below A₀ base outer h₀ → Fr h₀ L s.heap m → (hd.heap_39 w.params).In h₀ → News h₀ L s.heap news → Top hd.view_39 Loo mean mg mb h₀ → cs.kind = .function →
    pre news → dp + d < recursionLimit → un + 8 * d < cLine →
    (∀ (t : Tok) (h' : Heap) (tk' : Nat), Fr h₀ L h' m → News h₀ L h' news → Q (R t) { s with heap := h', toks := tk' }) →
      wpAny (model PySem.Challenge.rw_xg0074_01.row.prog w) (ktrTop dp un gd cn cs L a ccd cl outer) (call (.ref f) vs) Q E s
/-- the lead of n stands at o -/
def LeadIn (w : World) (n : Int) (o : Addr) (news : List (Addr × Obj)) : Prop :=
  ∃ (d c p : Addr) (ws : List Value) (k₁ k₂ k₃ k₄ k₅ t₁ t₂ t₃ t₄ : Tok), (p, tupO #[.ref c, .int 0 t₄]) ∈ news ∧ (c, tupO (List.toArray ws)) ∈ news ∧ (o, instObj 140 d) ∈ news ∧ (d, leadD w n p k₁ k₂ k₃ k₄ k₅ t₁ t₂ t₃) ∈ news ∧ IntsAre ws (countI n)
theorem LeadIn.mono {w : World} {n : Int} {o : Addr} {news news' : List (Addr × Obj)} (h : LeadIn w n o news) (hs : ∀ p ∈ news, p ∈ news') : LeadIn w n o news' := by
  obtain ⟨d, c, p, ws, k₁, k₂, k₃, k₄, k₅, t₁, t₂, t₃, t₄, m1, m2, m3, m4, hI⟩ := h
  exact ⟨d, c, p, ws, k₁, k₂, k₃, k₄, k₅, t₁, t₂, t₃, t₄, hs _ m1, hs _ m2, hs _ m3, hs _ m4, hI⟩
theorem news_one {h₀ h : Heap} {L : Addr} {a : Addr × Obj} {news : List (Addr × Obj)} (N : News h₀ L h news) (ha : a ∈ news) : News h₀ L h (a :: news) := by
  intro p hp
  rcases List.mem_cons.mp hp with rfl | h
  · exact N _ ha
  · exact N _ h
theorem news_front {h₀ h : Heap} {L : Addr} {a b c d : Addr × Obj} {news : List (Addr × Obj)} (N : News h₀ L h news) (ha : a ∈ news) (hb : b ∈ news) (hc : c ∈ news) (hd : d ∈ news) : News h₀ L h (a :: b :: c :: d :: news) := by
  intro p hp
  simp only [List.mem_cons] at hp
  rcases hp with rfl | rfl | rfl | rfl | h
  · exact N _ ha
  · exact N _ hb
  · exact N _ hc
  · exact N _ hd
  · exact N _ h
def colF (size n : Int) : Int := size * ((n - 1).fdiv size + 1)
/-- the sum of the loop, its turns so far -/
def ilF (size n : Int) (k : Nat) : Int := if size + (k : Int) = n ∧ 0 < k then (n - 1).fdiv size else 0
theorem il_start (size n : Int) : (0 : Int) = ilF size n 0 := by unfold ilF; simp
theorem countI_at {n : Int} (h1 : 1 ≤ n) {i : Int} (h0 : 0 ≤ i) (hi : i < n) : (countI n).getD i.toNat 0 = if i = n - 1 then 1 else 0 := by
  unfold countI
  by_cases h : i = n - 1
  · rw [if_pos h, h]
    rw [List.getD_eq_getElem?_getD, List.getElem?_append_right (by simp)]
    simp
  · rw [if_neg h, List.getD_eq_getElem?_getD, List.getElem?_append_left (by simp; omega)]
    simp
    rw [List.getElem?_replicate]
    split <;> rfl
theorem il_step {size n : Int} {k : Nat} (h1 : 1 ≤ n) (hs : 1 ≤ size) (hk : size + (k : Int) < n) : ilF size n k + (size + (k : Int)).fdiv size * (countI n).getD (size + (k : Int)).toNat 0 = ilF size n (k + 1) := by
  rw [countI_at h1 (by omega) hk]
  unfold ilF
  rw [if_neg (by omega)]
  by_cases h : size + (k : Int) = n - 1
  · rw [if_pos h, if_pos (by omega), h]; omega
  · rw [if_neg h, if_neg (by omega)]; omega
theorem il_end {size n : Int} {k : Nat} (hs : 1 ≤ size) (h1 : 1 ≤ n) (hk : (k : Int) = max 0 (n - size)) : 0 + size * (ilF size n k + (0 + 1)) = colF size n := by
  unfold ilF colF
  by_cases h : size < n
  · rw [if_pos (by omega), Int.zero_add, Int.zero_add]
  · rw [if_neg (by omega), Int.zero_add, Int.zero_add]
    rw [Int.fdiv_eq_ediv_of_nonneg _ (by omega), Int.ediv_eq_zero_of_lt (by omega) (by omega)]
theorem il_turn {size n il k : Int} {pre : List Int} (h1 : 1 ≤ n) (hs : 1 ≤ size) (hI : il = ilF size n pre.length) (hk : k = size + (pre.length : Int)) (hlt : k < n) : il + k.fdiv size * (countI n).getD k.toNat 0 = ilF size n (pre ++ [k]).length := by
  subst hk
  rw [hI, List.length_append, List.length_singleton]
  exact il_step h1 hs hlt
theorem ws_item {prog : Program} {w : World} {A : Around} {E : Value → Shared → Prop} {s : Shared} {value slice : PySem.Expr} {l : Addr} {vs : List Value} {n k : Int} {u : Tok} {Q : Value → Shared → Prop} (hl : IsTup s.heap l vs.toArray) (hi : IntsAre vs (countI n)) (h1 : 1 ≤ n) (h2 : n ≤ 31)
    (h0 : 0 ≤ k) (hk : k < n) (h : ∀ t, 0 ≤ (countI n).getD k.toNat 0 → (countI n).getD k.toNat 0 ≤ 1 → Q (.int ((countI n).getD k.toNat 0) t) s)
    (hs : subscripted slice false (.ref l) (.int k u) = operate [.ref l, .int k u] (getItem (.ref l) (.int k u))) (hg : ∀ r, letTemporaryGo value (.ref l) r = pure ()) :
    wpAny (model prog w) A (subscriptTail value slice (.ref l) (.int k u)) Q E s :=
  item_tuple_ints hl hi h0 (by rw [countI_len h1]; omega) (by omega) (fun t => h t (by rw [countI_at h1 h0 hk]; split <;> decide) (by rw [countI_at h1 h0 hk]; split <;> decide)) hs hg
theorem il_fin {size n x : Int} (hs : 1 ≤ size) (h1 : 1 ≤ n) (hx : x = ilF size n (rangeKs size (n - size).toNat).length) : 0 + size * (x + (0 + 1)) = colF size n := by
  rw [hx, rangeKs_length]
  exact il_end hs h1 (by omega)
end Mine
end PartI0
section PartI1
open PySem PySem.W PyProof.Rows
open Builtin Builtin.Str
namespace Mine
set_option maxRecDepth 100000
local macro_rules | `(tactic| k_room) => `(tactic| ktr_room)
set_option maxHeartbeats 8000000 in
theorem indent_c (w : World) (n size : Int) (o : Addr) (ts : Tok) : C1n w 1 109 (fun news => LeadIn w n o news ∧ 1 ≤ n ∧ n ≤ 31 ∧ 1 ≤ size ∧ size ≤ 16) [.ref o, .int size ts] (fun t => .int (colF size n) t) := by
  unfold C1n
  w_top off
  k_with_none
  k_with "my call builtin:len" => (k_here; (with_reducible show wpAny _ _ (call (Value.builtin "len") [Value.ref _]) _ _ _); k_dflt (refine' ws_lenT ?k3 ?k4 ?h1 ?h2 ?_; (case k3 => exact News.isTup (by k_asm) (by k_mem)); (case k4 => assumption); (case h1 => assumption); (case h2 => assumption)))
  k_with "my subscriptTail" => (k_here; (with_reducible show wpAny _ _ (subscriptTail _ _ (Value.ref _) (Value.int _ _)) _ _ _); k_dflt (refine' ws_item ?k3 ?k4 ?h1 ?h2 ?h0 ?hk ?_ ?k6 ?k7; (case k3 => exact News.isTup (by k_asm) (by k_mem)); (case k4 => assumption); (case h1 => assumption); (case h2 => assumption); (case h0 => omega); (case hk => omega); (case k6 => with_unfolding_all rfl); (case k7 => intro _; with_unfolding_all rfl)); intro _ _ _)
  k_fill
  intros
  rename_i hpre _ _ hret
  obtain ⟨⟨d, c, p, ws, k₁, k₂, k₃, k₄, k₅, t₁, t₂, t₃, t₄, m1, m2, m3, m4, hI⟩, hd1, hd2, hd3, hd4⟩ := hpre
  rename News _ _ _ _ => N9
  have N8 := news_front N9 m1 m2 m3 m4
  clear m1 m2 m3 m4 N9
  refine wpAny_call ?_
  k_dflt cell_enter
  k_with "state" => first | exact il_start _ _ | exact il_turn (by assumption) (by assumption) (by assumption) (by assumption) (by omega)
  iterate 35 (first | walk1 | (dsimp only; walk1))
  k_state (fun pre il => il = ilF size n pre.length) "il"
  k_steps
  all_goals (refine cb_retI hret ?e1 ?e2 ?e3; (case e2 => k_asm); (case e3 => (refine' cb_drop ?cbN ?cbS; (case cbN => assumption); (case cbS => kcj_all))); (case e1 => exact il_fin (by assumption) (by assumption) (by assumption)))
end Mine
end PartI1
section PartS1
open PySem PySem.W PyProof.Rows
open Builtin Builtin.Str
namespace Mine
set_option maxRecDepth 100000
def stopF (n g : Int) : Int := if colF 16 n ≤ g then colF 16 n else if colF 8 n ≤ g then colF 8 n else if colF 4 n ≤ g then colF 4 n else if colF 2 n ≤ g then colF 2 n else if colF 1 n ≤ g then colF 1 n else 0
local macro_rules | `(tactic| k_room) => `(tactic| ktr_room)
set_option maxHeartbeats 8000000 in
theorem stop_c (w : World) (n g : Int) (o : Addr) (tg : Tok) : C1n w 2 172 (fun news => LeadIn w n o news ∧ 1 ≤ n ∧ n ≤ 31) [.ref o, .int g tg] (fun t => .int (stopF n g) t) := by
  unfold C1n
  w_top off
  k_with_none
  k_with "my call ref" => (k_here; (with_reducible show wpAny _ _ (call (Value.ref 109) _) _ _ _); k_dflt (refine' indent_c _ _ _ _ _ _ _ _ _ _ _ _ _ _ _ _ _ _ _ _ _ _ _ _ _ _ ?k1 ?k2 ?k3 ?k4 ?k5 ?kK ?kp ?kd ?ku ?_); (case k1 => k_dflt k_asm); (case k2 => k_dflt k_asm); (case k3 => k_dflt k_asm); (case k4 => k_dflt k_asm); (case k5 => k_dflt k_asm); (case kK => first | exact rfl | assumption); (case kp => k_dflt (refine ⟨LeadIn.mono (by assumption) ?_, by assumption, by assumption, by decide, by decide⟩; kcj_all)); (case kd => ktr_room); (case ku => ktr_units); intro t9 h9 tk9 F9 N9; (try dsimp only); (try k_fold))
  k_with "my pyIter ref" => (k_here; (rename Fr _ _ _ _ => lF'); (rename News _ _ _ _ => lN'); (with_unfolding_all refine iter_listUnr (by rfl) lF' lN' (by k_mem) (by rfl) (by rfl) ?_); clear lF' lN'; intro i' l1; (try k_lt l1))
  k_with "my UnrEnd" => ((rename Fr _ _ _ _ => lF'); (rename News _ _ _ _ => lN'); (with_unfolding_all refine unr_0 lF' lN' (by first | assumption | exact allLt_of (by assumption)) ?_); refine ⟨by k_mem, ?_⟩; clear lF' lN')
  k_fill
  intros
  rename_i hpre _ _ hret
  obtain ⟨hL, hd1, hd2⟩ := hpre
  rename News _ _ _ _ => N9
  obtain ⟨d, c, p, ws, k₁, k₂, k₃, k₄, k₅, t₁, t₂, t₃, t₄, m1, m2, m3, m4, hI⟩ := id hL
  have N8 := news_front N9 m1 m2 m3 m4
  clear m1 m2 m3 m4 N9 hI
  refine wpAny_call ?_
  k_dflt cell_enter
  k_steps
  all_goals (refine cb_retI hret ?e1 ?e2 ?e3; (case e2 => k_asm); (case e3 => (refine' cb_drop ?cbN ?cbS; (case cbN => assumption); (case cbS => kcj_all))); (case e1 => (unfold stopF; first
    | (rw [if_pos (by omega)])
    | (rw [if_neg (by omega), if_pos (by omega)])
    | (rw [if_neg (by omega), if_neg (by omega), if_pos (by omega)])
    | (rw [if_neg (by omega), if_neg (by omega), if_neg (by omega), if_pos (by omega)])
    | (rw [if_neg (by omega), if_neg (by omega), if_neg (by omega), if_neg (by omega), if_pos (by omega)])
    | (rw [if_neg (by omega), if_neg (by omega), if_neg (by omega), if_neg (by omega), if_neg (by omega)]))))
end Mine
end PartS1
section PartPU
open PySem PySem.W PyProof.Rows
namespace Mine
set_option maxRecDepth 100000
def allB (n : Nat) (f : Nat → Bool) : Bool := Nat.rec true (fun k b => f k && b) n
theorem allB_at {f : Nat → Bool} : ∀ {n : Nat}, allB n f = true → ∀ k, k < n → f k = true
  | 0, _, k, h => absurd h (by omega)
  | n + 1, h, k, hk => by
    have h' : (f n && allB n f) = true := h
    rw [Bool.and_eq_true] at h'
    by_cases e : k = n
    · rw [e]; exact h'.1
    · exact allB_at h'.2 k (by omega)
theorem stop_part0 : allB 31 (fun i => allB 31 fun j => decide (stopF (min ((i : Int) + 1) ((j : Int) + 1)) (max ((i : Int) + 1) ((j : Int) + 1)) = part ((i : Int) + 1) ((j : Int) + 1))) = true := by decide +kernel
theorem host_len0 : allB 31 (fun i => decide ((hostS ((i : Int) + 1)).length ≤ 40)) = true := by decide +kernel
end Mine
end PartPU
section PartD0
open PySem PySem.W PyProof.Rows
open Builtin Builtin.Str
namespace Mine
set_option maxRecDepth 100000
def hostTbl : List (List Nat) := [[108, 111, 99, 97, 108, 46, 108, 111, 99, 97, 108, 46, 108, 111, 99, 97, 108, 46, 108, 111, 99, 97, 108, 46, 108, 111, 99, 97, 108], [108, 111, 99, 97, 108, 46, 108, 111, 99, 97, 108, 46, 108, 111, 99, 97, 108, 46, 108, 111, 99, 97, 108], [120, 108, 111, 99, 97, 108, 46, 108, 111, 99, 97, 108, 46, 108, 111, 99, 97, 108, 46, 108, 111, 99, 97, 108, 46, 108, 111, 99, 97, 108], [108, 111, 99, 97, 108, 46, 108, 111, 99, 97, 108, 46, 108, 111, 99, 97, 108], [108, 111, 99, 97, 108, 46, 120, 108, 111, 99, 97, 108, 46, 108, 111, 99, 97, 108, 46, 108, 111, 99, 97, 108, 46, 108, 111, 99, 97, 108], [120, 108, 111, 99, 97, 108, 46, 108, 111, 99, 97, 108, 46, 108, 111, 99, 97, 108, 46, 108, 111, 99, 97, 108], [120, 108, 111, 99, 97, 108, 46, 120, 108, 111, 99, 97, 108, 46, 108, 111, 99, 97, 108, 46, 108, 111, 99, 97, 108, 46, 108, 111, 99, 97, 108], [108, 111, 99, 97, 108, 46, 108, 111, 99, 97, 108], [108, 111, 99, 97, 108, 46, 108, 111, 99, 97, 108, 46, 120, 108, 111, 99, 97, 108, 46, 108, 111, 99, 97, 108, 46, 108, 111, 99, 97, 108], [108, 111, 99, 97, 108, 46, 120, 108, 111, 99, 97, 108, 46, 108, 111, 99, 97, 108, 46, 108, 111, 99, 97, 108], [120, 108, 111, 99, 97, 108, 46, 108, 111, 99, 97, 108, 46, 120, 108, 111, 99, 97, 108, 46, 108, 111, 99, 97, 108, 46, 108, 111, 99, 97, 108], [120, 108, 111, 99, 97, 108, 46, 108, 111, 99, 97, 108, 46, 108, 111, 99, 97, 108], [108, 111, 99, 97, 108, 46, 120, 108, 111, 99, 97, 108, 46, 120, 108, 111, 99, 97, 108, 46, 108, 111, 99, 97, 108, 46, 108, 111, 99, 97, 108], [120, 108, 111, 99, 97, 108, 46, 120, 108, 111, 99, 97, 108, 46, 108, 111, 99, 97, 108, 46, 108, 111, 99, 97, 108], [120, 108, 111, 99, 97, 108, 46, 120, 108, 111, 99, 97, 108, 46, 120, 108, 111, 99, 97, 108, 46, 108, 111, 99, 97, 108, 46, 108, 111, 99, 97, 108], [108, 111, 99, 97, 108], [108, 111, 99, 97, 108, 46, 108, 111, 99, 97, 108, 46, 108, 111, 99, 97, 108, 46, 120, 108, 111, 99, 97, 108, 46, 108, 111, 99, 97, 108], [108, 111, 99, 97, 108, 46, 108, 111, 99, 97, 108, 46, 120, 108, 111, 99, 97, 108, 46, 108, 111, 99, 97, 108], [120, 108, 111, 99, 97, 108, 46, 108, 111, 99, 97, 108, 46, 108, 111, 99, 97, 108, 46, 120, 108, 111, 99, 97, 108, 46, 108, 111, 99, 97, 108], [108, 111, 99, 97, 108, 46, 120, 108, 111, 99, 97, 108, 46, 108, 111, 99, 97, 108], [108, 111, 99, 97, 108, 46, 120, 108, 111, 99, 97, 108, 46, 108, 111, 99, 97, 108, 46, 120, 108, 111, 99, 97, 108, 46, 108, 111, 99, 97, 108], [120, 108, 111, 99, 97, 108, 46, 108, 111, 99, 97, 108, 46, 120, 108, 111, 99, 97, 108, 46, 108, 111, 99, 97, 108], [120, 108, 111, 99, 97, 108, 46, 120, 108, 111, 99, 97, 108, 46, 108, 111, 99, 97, 108, 46, 120, 108, 111, 99, 97, 108, 46, 108, 111, 99, 97, 108], [120, 108, 111, 99, 97, 108, 46, 108, 111, 99, 97, 108], [108, 111, 99, 97, 108, 46, 108, 111, 99, 97, 108, 46, 120, 108, 111, 99, 97, 108, 46, 120, 108, 111, 99, 97, 108, 46, 108, 111, 99, 97, 108], [108, 111, 99, 97, 108, 46, 120, 108, 111, 99, 97, 108, 46, 120, 108, 111, 99, 97, 108, 46, 108, 111, 99, 97, 108], [120, 108, 111, 99, 97, 108, 46, 108, 111, 99, 97, 108, 46, 120, 108, 111, 99, 97, 108, 46, 120, 108, 111, 99, 97, 108, 46, 108, 111, 99, 97, 108], [120, 108, 111, 99, 97, 108, 46, 120, 108, 111, 99, 97, 108, 46, 108, 111, 99, 97, 108], [108, 111, 99, 97, 108, 46, 120, 108, 111, 99, 97, 108, 46, 120, 108, 111, 99, 97, 108, 46, 120, 108, 111, 99, 97, 108, 46, 108, 111, 99, 97, 108], [120, 108, 111, 99, 97, 108, 46, 120, 108, 111, 99, 97, 108, 46, 120, 108, 111, 99, 97, 108, 46, 108, 111, 99, 97, 108], [120, 108, 111, 99, 97, 108, 46, 120, 108, 111, 99, 97, 108, 46, 120, 108, 111, 99, 97, 108, 46, 120, 108, 111, 99, 97, 108, 46, 108, 111, 99, 97, 108]]
def hostL (n : Int) : List Nat := hostTbl.getD (n - 1).toNat []
def parTbl : List Int := [2, 4, 2, 8, 6, 4, 6, 16, 10, 12, 10, 8, 14, 12, 14, 16, 18, 20, 18, 24, 22, 20, 22, 16, 26, 28, 26, 24, 30, 28, 30]
def par (n : Int) : Int := parTbl.getD (n - 1).toNat 16
theorem host_tbl0 : allB 31 (fun i => (hostS ((i : Int) + 1)).cps.toList == hostL ((i : Int) + 1)) = true := by decide +kernel
theorem int_of {P : Int → Prop} (h : ∀ k : Nat, k < 31 → P ((k : Int) + 1)) : ∀ n : Int, 1 ≤ n → n ≤ 31 → P n := by
  intro n h1 h2
  have := h (n - 1).toNat (by omega)
  rwa [show (((n - 1).toNat : Nat) : Int) + 1 = n by omega] at this
theorem host_tbl : ∀ n : Int, 1 ≤ n → n ≤ 31 → (hostS n).cps.toList = hostL n :=
  int_of fun k hk => eq_of_beq (allB_at host_tbl0 k hk)
def alpha : List Nat := [46, 97, 99, 108, 111, 119, 120]
theorem host_alpha0 : allB 31 (fun i => (hostL ((i : Int) + 1)).all (fun c => alpha.contains c)) = true := by decide +kernel
theorem host_len1 : allB 31 (fun i => decide ((hostL ((i : Int) + 1)).length ≤ 40 ∧ 1 ≤ (hostL ((i : Int) + 1)).length)) = true := by decide +kernel
def Alpha (x : PySem.Str) : Prop := ∀ c, c ∈ x.cps.toList → c ∈ alpha
theorem host_alpha : ∀ n : Int, 1 ≤ n → n ≤ 31 → Alpha (hostS n) :=
  int_of fun k hk c hc => by
    rw [host_tbl _ (by omega) (by omega)] at hc
    have := List.all_eq_true.mp (allB_at host_alpha0 k hk) c hc
    simpa using this
theorem host_len : ∀ n : Int, 1 ≤ n → n ≤ 31 → (hostS n).length ≤ 40 ∧ 1 ≤ (hostS n).length :=
  int_of fun k hk => by
    have h := of_decide_eq_true (allB_at host_len1 k hk)
    rw [← host_tbl _ (by omega) (by omega)] at h
    exact h
def upC (c : Nat) : Nat := if c = 46 then 46 else c - 32
theorem up_c : ∀ c, c ∈ alpha → Unicode.upperOf c = [upC c] := by decide +kernel
def dnC (c : Nat) : Nat := if c = 46 then 46 else c + 32
theorem dn_up : ∀ c, c ∈ alpha → dnC (upC c) = c := by decide +kernel
theorem lo_up_c : ∀ c, c ∈ alpha → Unicode.lowerOf (upC c) = [dnC (upC c)] ∧ (upC c == 0x3A3) = false := by decide +kernel
theorem lo_c : ∀ c, c ∈ alpha → Unicode.lowerOf c = [c] ∧ (c == 0x3A3) = false := by decide +kernel
theorem upper_alpha {x : PySem.Str} (h : Alpha x) : Txt.upper x = ⟨x.cps.map upC⟩ := by
  unfold Txt.upper
  rw [placed_single x _ upC fun i c hc => up_c c (h c (List.mem_of_getElem? hc))]
theorem lowerAt_of {s : Array Nat} {i c d : Nat} (hi : s.toList[i]? = some c) (h : Unicode.lowerOf c = [d]) (hs : (c == 0x3A3) = false) : Unicode.lowerAt s i = [d] := by
  unfold Unicode.lowerAt
  rw [Array.getElem?_toList] at hi
  rw [hi]
  simp only [hs, Bool.false_and]
  exact h
theorem lower_alpha {x : PySem.Str} (h : Alpha x) : Txt.lower x = x := by
  unfold Txt.lower
  rw [placed_single x _ _root_.id fun i c hc => lowerAt_of hc (lo_c c (h c (List.mem_of_getElem? hc))).1 (lo_c c (h c (List.mem_of_getElem? hc))).2]
  simp
theorem lower_upper {x : PySem.Str} (h : Alpha x) : Txt.lower (Txt.upper x) = x := by
  rw [upper_alpha h]
  unfold Txt.lower
  rw [placed_single (⟨x.cps.map upC⟩ : PySem.Str) _ dnC ?_]
  · refine PySem.Str.ext' ?_
    show Array.map dnC (Array.map upC x.cps) = x.cps
    rw [Array.map_map]
    refine (Array.map_congr_left (g := _root_.id) fun c hc => dn_up c (h c (by simpa using hc))).trans (Array.map_id _)
  · intro i d hd
    have hd' := hd
    rw [Array.toList_map, List.getElem?_map] at hd'
    cases hc : x.cps.toList[i]? with
    | none => rw [hc] at hd'; cases hd'
    | some c =>
      rw [hc] at hd'
      have hm := lo_up_c c (h c (List.mem_of_getElem? hc))
      have e1 : upC c = d := Option.some.inj hd'
      rw [← e1] at hd ⊢
      exact lowerAt_of hd hm.1 hm.2
theorem alpha_app {x y : PySem.Str} (hx : Alpha x) (hy : Alpha y) : Alpha (x ++ y) := by
  intro c hc
  rw [PySem.Str.cps_append, Array.toList_append] at hc
  rcases List.mem_append.mp hc with h | h
  · exact hx c h
  · exact hy c h
theorem alpha_dot : Alpha (Str.ofString ".") := by unfold Alpha; decide +kernel
theorem alpha_w : Alpha (Str.ofString "w.") := by unfold Alpha; decide +kernel
theorem alpha_dig : ∀ c, c ∈ alpha → Sre.isDigit c = false := by decide +kernel
theorem alpha_nodig {x : PySem.Str} (h : Alpha x) (p : Nat) : Sre.isDigit (x.cps.getD p 0) = false := by
  by_cases hp : p < x.cps.size
  · have e : x.cps.getD p 0 = x.cps[p] := by simp [Array.getD, hp]
    rw [e]
    exact alpha_dig _ (h _ (by simp))
  · simp only [Array.getD, hp, dif_neg, not_false_eq_true]
    decide
end Mine
end PartD0
section PartD1
open PySem PySem.W PyProof.Rows
open Builtin Builtin.Str
namespace Mine
set_option maxRecDepth 100000
theorem ends_list (x y : PySem.Str) : Txt.endswith x y = (decide (y.cps.toList.length ≤ x.cps.toList.length) && (x.cps.toList.drop (x.cps.toList.length - y.cps.toList.length) == y.cps.toList)) := by
  unfold Txt.endswith subAt PySem.Str.length
  rw [Nat.zero_add, Array.length_toList, Array.length_toList]
  by_cases h : y.cps.size ≤ x.cps.size
  · rw [decide_eq_true h, Bool.true_and, Bool.true_and, Bool.eq_iff_iff, beq_iff_eq, beq_iff_eq, ← Array.toList_inj, Array.toList_extract]
    rw [show x.cps.size - y.cps.size + y.cps.size = x.cps.size by omega]
    simp only [List.extract]
    rw [List.take_of_length_le (by simp)]
  · rw [decide_eq_false h]; rfl
def meetsL (r y : List Nat) : Bool := decide (r.length + 1 ≤ y.length + 2) && ((119 :: 46 :: y).drop (y.length + 2 - (r.length + 1)) == 46 :: r)
theorem meets_list {r y : PySem.Str} : Txt.endswith (Str.ofString "w." ++ y) (Str.ofString "." ++ r) = meetsL r.cps.toList y.cps.toList := by
  rw [ends_list]
  unfold meetsL
  have e1 : (Str.ofString "w." ++ y).cps.toList = 119 :: 46 :: y.cps.toList := by
    rw [PySem.Str.cps_append, Array.toList_append]; rfl
  have e2 : (Str.ofString "." ++ r).cps.toList = 46 :: r.cps.toList := by
    rw [PySem.Str.cps_append, Array.toList_append]; rfl
  rw [e1, e2]
  rfl
def reOk (r : PySem.Str) : Bool :=
  !(r == Str.ofString "") && !(Txt.item r 0 == Str.ofString ".") && !(Txt.item r (-1) == Str.ofString ".") &&
    (!decide (0 ≤ Txt.find r (Str.ofString ".")) || decide (0 ≤ Txt.find (tailS r) (Str.ofString ".")) || (tailS r == Str.ofString "local"))
theorem re_ok1 : allB 16 (fun i => reOk (hostS ((i : Int) + 1))) = true := by decide +kernel
theorem re_ok2 : allB 15 (fun i => reOk (hostS (((i + 16 : Nat) : Int) + 1))) = true := by decide +kernel
theorem re_ok : ∀ n : Int, 1 ≤ n → n ≤ 31 → reOk (hostS n) = true :=
  int_of fun k hk => by
    by_cases h : k < 16
    · exact allB_at re_ok1 k h
    · have := allB_at re_ok2 (k - 16) (by omega)
      rwa [show k - 16 + 16 = k by omega] at this
theorem re_next1 : allB 15 (fun i => (reachF (hostS ((i : Int) + 1))).cps.toList == 46 :: hostL (par ((i : Int) + 1))) = true := by decide +kernel
theorem re_next2 : allB 15 (fun i => (reachF (hostS (((i + 16 : Nat) : Int) + 1))).cps.toList == 46 :: hostL (par (((i + 16 : Nat) : Int) + 1))) = true := by decide +kernel
theorem par_in0 : allB 31 (fun i => decide (1 ≤ par ((i : Int) + 1) ∧ par ((i : Int) + 1) ≤ 31)) = true := by decide +kernel
theorem par_in : ∀ n : Int, 1 ≤ n → n ≤ 31 → 1 ≤ par n ∧ par n ≤ 31 :=
  int_of fun k hk => of_decide_eq_true (allB_at par_in0 k hk)
theorem str_of_list {x y : PySem.Str} (h : x.cps.toList = y.cps.toList) : x = y := PySem.Str.ext' (Array.toList_inj.mp h)
theorem re_next : ∀ n : Int, 1 ≤ n → n ≤ 31 → n ≠ 16 → reachF (hostS n) = Str.ofString "." ++ hostS (par n) := by
  intro n h1 h2 h3
  obtain ⟨hp1, hp2⟩ := par_in n h1 h2
  refine str_of_list ?_
  rw [PySem.Str.cps_append, Array.toList_append, host_tbl _ hp1 hp2]
  show _ = 46 :: hostL (par n)
  by_cases h : n < 16
  · have := eq_of_beq (allB_at re_next1 (n - 1).toNat (by omega))
    rwa [show (((n - 1).toNat : Nat) : Int) + 1 = n by omega] at this
  · have := eq_of_beq (allB_at re_next2 (n - 17).toNat (by omega))
    rwa [show ((((n - 17).toNat + 16 : Nat)) : Int) + 1 = n by omega] at this
def meetsN (r y : Int) : Bool := meetsL (hostL r) (hostL y)
theorem meets_n {r y : Int} (h1 : 1 ≤ r) (h2 : r ≤ 31) (h3 : 1 ≤ y) (h4 : y ≤ 31) : Txt.endswith (Str.ofString "w." ++ hostS y) (Str.ofString "." ++ hostS r) = meetsN r y := by
  rw [meets_list, host_tbl r h1 h2, host_tbl y h3 h4]; rfl
/-- the ladder comes to the place z within k rungs -/
def domN : Nat → Int → Int → Int → Bool
  | 0, _, _, _ => false
  | k + 1, r, y, z => if meetsN r y then r == z else (r != 16 && domN k (par r) y z)
theorem dom_pairs0 : allB 31 (fun i => allB 31 fun j => domN 5 ((i : Int) + 1) ((j : Int) + 1) (part ((i : Int) + 1) ((j : Int) + 1))) = true := by decide +kernel
theorem dom_pairs {a b : Int} (h1 : 1 ≤ a) (h2 : a ≤ 31) (h3 : 1 ≤ b) (h4 : b ≤ 31) : domN 5 a b (part a b) = true := by
  have := allB_at (allB_at dom_pairs0 (a - 1).toNat (by omega)) (b - 1).toNat (by omega)
  rwa [show (((a - 1).toNat : Nat) : Int) + 1 = a by omega, show (((b - 1).toNat : Nat) : Int) + 1 = b by omega] at this
end Mine
end PartD1
section PartD2p
open PySem PySem.W PyProof.Rows
open Builtin Builtin.Str
namespace Mine
set_option maxRecDepth 100000
def RungI (b z : Int) (j : Nat) (rung : PySem.Str) : Prop := ∃ r : Int, 1 ≤ r ∧ r ≤ 31 ∧ rung = hostS r ∧ domN (5 - j) r b z = true
theorem rung_start {a b : Int} (h1 : 1 ≤ a) (h2 : a ≤ 31) (h3 : 1 ≤ b) (h4 : b ≤ 31) : RungI b (part a b) 0 (hostS a) := ⟨a, h1, h2, rfl, dom_pairs h1 h2 h3 h4⟩
theorem starts_dot (x : PySem.Str) : Txt.startswith (Str.ofString "." ++ x) (Str.ofString ".") = true := by
  have e2 : (Str.ofString "." ++ x).cps.toList = 46 :: x.cps.toList := by
    rw [PySem.Str.cps_append, Array.toList_append]; rfl
  have e1 : (Str.ofString "." ++ x).cps.size = x.cps.size + 1 := by
    rw [← Array.length_toList, e2]; simp
  unfold Txt.startswith subAt PySem.Str.length
  rw [Bool.and_eq_true]
  constructor
  · rw [e1]
    exact decide_eq_true (by show 0 + 1 ≤ x.cps.size + 1; omega)
  · rw [beq_iff_eq, ← Array.toList_inj, Array.toList_extract, e2]
    rfl
theorem slice_dot0 : allB 31 (fun i => (Txt.slice (Str.ofString "." ++ hostS ((i : Int) + 1)) (some 1) none).cps.toList == hostL ((i : Int) + 1)) = true := by decide +kernel
theorem slice_dot {p : Int} (h1 : 1 ≤ p) (h2 : p ≤ 31) : Txt.slice (Str.ofString "." ++ hostS p) (some 1) none = hostS p := by
  refine str_of_list ?_
  rw [host_tbl p h1 h2]
  have := eq_of_beq (allB_at slice_dot0 (p - 1).toNat (by omega))
  rwa [show (((p - 1).toNat : Nat) : Int) + 1 = p by omega] at this
theorem dom_five {b z : Int} {j : Nat} {r : Int} (h : domN (5 - j) r b z = true) : j < 5 ∧ (if meetsN r b then r == z else (r != 16 && domN (5 - (j + 1)) (par r) b z)) = true := by
  have hj : j < 5 := by
    by_cases hj : j < 5
    · exact hj
    · rw [show 5 - j = 0 by omega] at h; cases h
  rw [show 5 - j = (5 - (j + 1)) + 1 by omega, domN] at h
  exact ⟨hj, h⟩
theorem rung_found {b z : Int} {j : Nat} {rung : PySem.Str} (h : RungI b z j rung) (h3 : 1 ≤ b) (h4 : b ≤ 31) (hm : Txt.endswith (Str.ofString "w." ++ hostS b) (Str.ofString "." ++ rung) = true) : rung = hostS z := by
  obtain ⟨r, h1, h2, rfl, hd⟩ := h
  rw [meets_n h1 h2 h3 h4] at hm
  have := (dom_five hd).2
  rw [if_pos hm] at this
  rw [eq_of_beq this]
theorem rung_next {b z : Int} {j : Nat} {rung : PySem.Str} (h : RungI b z j rung) (h3 : 1 ≤ b) (h4 : b ≤ 31) (hm : Txt.endswith (Str.ofString "w." ++ hostS b) (Str.ofString "." ++ rung) = false) :
    RungI b z (j + 1) (Txt.slice (reachF rung) (some 1) none) ∧ Txt.startswith (reachF rung) (Str.ofString ".") = true ∧ (reachF rung).length ≤ 60 ∧ (Txt.slice (reachF rung) (some 1) none).length ≤ 40 := by
  obtain ⟨r, h1, h2, rfl, hd⟩ := h
  rw [meets_n h1 h2 h3 h4] at hm
  have := (dom_five hd).2
  rw [if_neg (by rw [hm]; decide), Bool.and_eq_true] at this
  obtain ⟨p1, p2⟩ := par_in r h1 h2
  have hr : r ≠ 16 := by simpa using this.1
  rw [re_next r h1 h2 hr, slice_dot p1 p2]
  refine ⟨⟨par r, p1, p2, rfl, this.2⟩, ?_, ?_, (host_len _ p1 p2).1⟩
  · exact starts_dot _
  · have := (host_len _ p1 p2).1
    rw [str_len_append, show (Str.ofString ".").length = 1 from rfl]
    omega
theorem rung_len {b z : Int} {j : Nat} {rung : PySem.Str} (h : RungI b z j rung) : rung.length ≤ 40 := by
  obtain ⟨r, h1, h2, rfl, hd⟩ := h
  exact (host_len r h1 h2).1
theorem fits_short {n : Nat} (h : n ≤ 100) : tooLong n = false := by
  unfold tooLong
  rw [sizeLine_eq]
  exact decide_eq_false (by omega)
theorem up_fits {b : Int} (h3 : 1 ≤ b) (h4 : b ≤ 31) : tooLong (Txt.upper (Str.ofString "w." ++ hostS b)).length = false := by
  rw [upper_alpha (alpha_app alpha_w (host_alpha b h3 h4))]
  refine fits_short ?_
  have := (host_len b h3 h4).1
  show (Array.map upC (Str.ofString "w." ++ hostS b).cps).size ≤ 100
  rw [Array.size_map]
  have e : (Str.ofString "w." ++ hostS b).cps.size = 2 + (hostS b).length := str_len_append _ _
  omega
theorem ud_pre {b z : Int} {j : Nat} {rung : PySem.Str} (h : RungI b z j rung) (h3 : 1 ≤ b) (h4 : b ≤ 31) :
    (Txt.lower (Txt.upper (Str.ofString "w." ++ hostS b)) = Str.ofString "w." ++ hostS b ∧ Txt.lower (Str.ofString "." ++ rung) = Str.ofString "." ++ rung ∧ tooLong (Txt.lower (Txt.upper (Str.ofString "w." ++ hostS b))).length = false ∧ tooLong (Txt.lower (Str.ofString "." ++ rung)).length = false ∧
      (∀ p, Sre.isDigit ((Str.ofString "w." ++ hostS b).cps.getD p 0) = false) ∧ (∀ p, Sre.isDigit ((Str.ofString "." ++ rung).cps.getD p 0) = false) ∧ (Str.ofString "w." ++ hostS b).cps.size < 2 ^ 60 ∧ (Str.ofString "." ++ rung).cps.size < 2 ^ 60 ∧ Txt.startswith (Str.ofString "." ++ rung) (Str.ofString ".") = true) := by
  obtain ⟨r, h1, h2, rfl, hd⟩ := h
  have ab := alpha_app alpha_w (host_alpha b h3 h4)
  have ar := alpha_app alpha_dot (host_alpha r h1 h2)
  have lb := (host_len b h3 h4).1
  have lr := (host_len r h1 h2).1
  have e1 : (Str.ofString "w." ++ hostS b).length = 2 + (hostS b).length := str_len_append _ _
  have e2 : (Str.ofString "." ++ hostS r).length = 1 + (hostS r).length := str_len_append _ _
  refine ⟨lower_upper ab, lower_alpha ar, ?_, ?_, alpha_nodig ab, alpha_nodig ar, ?_, ?_, ?_⟩
  · rw [lower_upper ab]; exact fits_short (by omega)
  · rw [lower_alpha ar]; exact fits_short (by omega)
  · show (Str.ofString "w." ++ hostS b).length < 2 ^ 60; omega
  · show (Str.ofString "." ++ hostS r).length < 2 ^ 60; omega
  · exact starts_dot _
theorem re_pre {b z : Int} {j : Nat} {rung : PySem.Str} (h : RungI b z j rung) :
    ((∀ p, Sre.isDigit (rung.cps.getD p 0) = false) ∧ rung.cps.size < 2 ^ 60 ∧ (rung == Str.ofString "") = false ∧ (Txt.item rung 0 == Str.ofString ".") = false ∧ (Txt.item rung (-1) == Str.ofString ".") = false ∧ 1 ≤ rung.length ∧ rung.length ≤ 60 ∧ (0 ≤ Txt.find rung (Str.ofString ".") → 0 ≤ Txt.find (tailS rung) (Str.ofString ".") ∨ (tailS rung == Str.ofString "local") = true)) := by
  obtain ⟨r, h1, h2, rfl, hd⟩ := h
  have lr := host_len r h1 h2
  have ho := re_ok r h1 h2
  unfold reOk at ho
  simp only [Bool.and_eq_true, Bool.or_eq_true, Bool.not_eq_true', decide_eq_true_eq, decide_eq_false_iff_not] at ho
  obtain ⟨⟨⟨a1, a2⟩, a3⟩, a4⟩ := ho
  refine ⟨alpha_nodig (host_alpha r h1 h2), ?_, a1, a2, a3, lr.2, by omega, ?_⟩
  · show (hostS r).length < 2 ^ 60; omega
  · intro hf
    rcases a4 with (h | h) | h
    · exact absurd hf h
    · exact .inl h
    · exact .inr h
theorem rung_next' {b z : Int} {j : Nat} {rung : PySem.Str} (h : RungI b z j rung) (h3 : 1 ≤ b) (h4 : b ≤ 31) (hm : Txt.endswith (Str.ofString "w." ++ hostS b) (Str.ofString "." ++ rung) = false) :
    ∃ r, Txt.slice (reachF rung) (some 1) none = r ∧ RungI b z (j + 1) r ∧ r.length ≤ 40 :=
  have x := rung_next h h3 h4 hm
  ⟨_, rfl, x.1, x.2.2.2⟩
theorem rung_starts {b z : Int} {j : Nat} {rung : PySem.Str} (h : RungI b z j rung) (h3 : 1 ≤ b) (h4 : b ≤ 31) (hm : Txt.endswith (Str.ofString "w." ++ hostS b) (Str.ofString "." ++ rung) = false) (hs : Txt.startswith (reachF rung) (Str.ofString ".") = false) : False := by
  rw [(rung_next h h3 h4 hm).2.1] at hs
  cases hs
theorem rung_five {b z : Int} {j : Nat} {rung : PySem.Str} (h : RungI b z j rung) : j < 5 := by
  obtain ⟨r, h1, h2, rfl, hd⟩ := h
  exact (dom_five hd).1
section
variable {prog : Program} {w : World} {A : Around} {E : Value → Shared → Prop} {s : Shared} {env : Env} {h₀ : Heap} {x : PySem.Str} {body : List Stmt} {Q : Flow → Shared → Prop} {I : Addr} {news : List (Addr × Obj)} {a : Int} {n : Nat}
theorem rest_range (S : Nat → (PySem.Str → Option Value) → Prop)
    (step : ∀ i m, i < n → S i m → ∀ (t : Tok) h tk, Fr h₀ env.locals h (fun y => if y = x then some (.int (a + (i : Int)) t) else m y) → News h₀ env.locals h ((I, itR (a + ((i + 1 : Nat) : Int)) ((n : Int) - ((i + 1 : Nat) : Int))) :: news) →
      wpAny (model prog w) A (execs body env) (UnrPost h₀ env.locals { s with heap := h, toks := tk } I (itR (a + ((i + 1 : Nat) : Int)) ((n : Int) - ((i + 1 : Nat) : Int))) (fun m' n' => n' = news ∧ S (i + 1) m') Q) E { s with heap := h, toks := tk })
    (done : ∀ m, S n m → ∀ h tk, Fr h₀ env.locals h m → News h₀ env.locals h news → Q .next { s with heap := h, toks := tk }) :
    ∀ (k i : Nat) (m : PySem.Str → Option Value), i + k = n → S i m → RangeRest prog w A E h₀ env x body Q s I a n k i m news := by
  intro k
  induction k with
  | zero =>
    intro i m e hS h tk F N
    exact done m (by rw [← e]; exact hS) h tk F N
  | succ k ih =>
    intro i m e hS
    refine RangeRest.succ fun t h tk F N => ?_
    refine wpAny_mono (step i m (by omega) hS t h tk F N) (fun f s₂ p => ?_) fun _ _ x => x
    have fin : ∀ it, UnrEnd h₀ env.locals { s with heap := h, toks := tk } I it (fun m' n' => n' = news ∧ S (i + 1) m') s₂ → UnrEnd h₀ env.locals { s with heap := h, toks := tk } I it (RangeRest prog w A E h₀ env x body Q s I a n k (i + 1)) s₂ := by
      rintro it ⟨h', tk, m', news', e', F', N', ho, hn, hS'⟩
      subst hn
      exact ⟨h', tk, m', _, e', F', N', ho, ih (i + 1) m' (by omega) hS'⟩
    cases f with
    | ret v => exact p
    | brk => exact p
    | next => exact fin _ p
    | cont => exact fin _ p
end
/-- the frame between the turns of _law_domain's loop -/
def DS (b z : Int) (m₀ : PySem.Str → Option Value) (i : Nat) (m : PySem.Str → Option Value) : Prop :=
  ∃ rung t, m (Str.ofString "rung") = some (.str rung t) ∧ RungI b z i rung ∧ rung.length ≤ 40 ∧ ∀ y, y ≠ Str.ofString "rung" → y ≠ Str.ofString "above" → y ≠ Str.ofString "turn" → m y = m₀ y
theorem ds_lam {b z : Int} {m₀ m : PySem.Str → Option Value} {i : Nat} (h : DS b z m₀ i m) : ∃ rung t c d, RungI b z i rung ∧ rung.length ≤ 40 ∧ m = fun y => if y = Str.ofString "rung" then some (.str rung t) else if y = Str.ofString "above" then c else if y = Str.ofString "turn" then d else m₀ y := by
  obtain ⟨rung, t, h1, h2, h3, h4⟩ := h
  refine ⟨rung, t, m (Str.ofString "above"), m (Str.ofString "turn"), h2, h3, funext fun y => ?_⟩
  by_cases e1 : y = Str.ofString "rung"
  · rw [if_pos e1, e1, h1]
  · rw [if_neg e1]
    by_cases e2 : y = Str.ofString "above"
    · rw [if_pos e2, e2]
    · rw [if_neg e2]
      by_cases e3 : y = Str.ofString "turn"
      · rw [if_pos e3, e3]
      · rw [if_neg e3, h4 y e1 e2 e3]
theorem dom_iter {prog : Program} {w : World} {A : Around} {E : Value → Shared → Prop} {s : Shared} {env : Env} {h₀ : Heap} {x : PySem.Str} {body : List Stmt} {Q : Flow → Shared → Prop} {b z : Int} {r : Addr} {t₀ u₀ v₀ : Tok} {m₀ : PySem.Str → Option Value} {news : List (Addr × Obj)} {host : PySem.Str} {th : Tok}
    (hh : A.handled = none) (hr : IsRange s.heap r 0 5 1 t₀ u₀ v₀) (F : Fr h₀ env.locals s.heap m₀) (N : News h₀ env.locals s.heap news) (hm : m₀ (Str.ofString "rung") = some (.str host th)) (hR : RungI b z 0 host) (hl : host.length ≤ 40)
    (step : ∀ I : Addr, (∀ p ∈ news, p.1 < I) → ∀ (i : Nat) rung t₁ c d, i < 5 → RungI b z i rung → rung.length ≤ 40 → ∀ (u : Tok) h tk, Fr h₀ env.locals h (fun y => if y = x then some (.int (0 + (i : Int)) u) else if y = Str.ofString "rung" then some (.str rung t₁) else if y = Str.ofString "above" then c else if y = Str.ofString "turn" then d else m₀ y) → News h₀ env.locals h ((I, itR (0 + ((i + 1 : Nat) : Int)) (((5 : Nat) : Int) - ((i + 1 : Nat) : Int))) :: news) →
      wpAny (model prog w) A (execs body env) (UnrPost h₀ env.locals { s with heap := h, toks := tk } I (itR (0 + ((i + 1 : Nat) : Int)) (((5 : Nat) : Int) - ((i + 1 : Nat) : Int))) (fun m' n' => n' = news ∧ DS b z m₀ (i + 1) m') Q) E { s with heap := h, toks := tk }) :
    wpAny (model prog w) A (pyIter (.ref r)) (fun it s₂ => LoopAtV prog w A h₀ env x body Q E it s₂) E s := by
  refine iter_rangeUnr (n := 5) hh hr (by decide) (by decide) F N fun I hI => ?_
  refine rest_range (DS b z m₀) ?_ ?_ 5 0 _ rfl ⟨host, th, hm, hR, hl, fun _ _ _ _ => rfl⟩
  · intro i m hi hS u h tk F' N'
    obtain ⟨rung, t, c, d, h1, h2, rfl⟩ := ds_lam hS
    exact step I hI i rung t c d hi h1 h2 u h tk F' N'
  · intro m hS
    obtain ⟨rung, t, c, d, h1, h2, rfl⟩ := ds_lam hS
    exact absurd (rung_five h1) (by decide)
theorem ds_next {b z : Int} {m₀ m : PySem.Str → Option Value} {i : Nat} {rung : PySem.Str} {t : Tok} (h : RungI b z i rung) (h3 : 1 ≤ b) (h4 : b ≤ 31) (hm : Txt.endswith (Str.ofString "w." ++ hostS b) (Str.ofString "." ++ rung) = false)
    (e : m (Str.ofString "rung") = some (.str (Txt.slice (reachF rung) (some 1) none) t)) (hf : ∀ y, y ≠ Str.ofString "rung" → y ≠ Str.ofString "above" → y ≠ Str.ofString "turn" → m y = m₀ y) : DS b z m₀ (i + 1) m :=
  have x := rung_next h h3 h4 hm
  ⟨_, t, e, x.1, x.2.2.2, hf⟩
end Mine
end PartD2p
section PartD2
open PySem PySem.W PyProof.Rows
open Builtin Builtin.Str
namespace Mine
set_option maxRecDepth 100000
local macro_rules | `(tactic| k_room) => `(tactic| ktr_room)
set_option maxHeartbeats 8000000 in
theorem dom_c (w : World) (a b : Int) (tx ty : Tok) : C1 w 3 165 (1 ≤ a ∧ a ≤ 31 ∧ 1 ≤ b ∧ b ≤ 31) [.str (hostS a) tx, .str (hostS b) ty] (fun t => .str (hostS (part a b)) t) := by
  unfold C1
  w_top off
  k_with_none
  k_with "my call ref" => (k_here; (with_reducible show wpAny _ _ (call (Value.ref 64) _) _ _ _); k_dflt (refine' udm_c _ _ _ _ _ _ _ _ _ _ _ _ _ _ _ _ _ _ _ _ _ _ _ _ _ _ _ _ ?k1 ?k2 ?k3 ?k4 ?k5 ?kK ?kp ?kd ?ku ?_); (case k1 => k_dflt k_asm); (case k2 => k_dflt k_asm); (case k3 => k_dflt k_asm); (case k4 => k_dflt k_asm); (case k5 => k_dflt k_asm); (case kK => first | exact rfl | assumption); (case kp => exact ud_pre (by assumption) (by assumption) (by assumption)); (case kd => ktr_room); (case ku => ktr_units); intro t9 h9 tk9 F9 N9; (try dsimp only); (try k_fold))
  k_with "my call ref" => (k_here; (with_reducible show wpAny _ _ (call (Value.ref 71) _) _ _ _); k_dflt (refine' reach_c _ _ _ _ _ _ _ _ _ _ _ _ _ _ _ _ _ _ _ _ _ _ _ _ ?k1 ?k2 ?k3 ?k4 ?k5 ?kK ?kp ?kd ?ku ?_); (case k1 => k_dflt k_asm); (case k2 => k_dflt k_asm); (case k3 => k_dflt k_asm); (case k4 => k_dflt k_asm); (case k5 => k_dflt k_asm); (case kK => first | exact rfl | assumption); (case kp => exact re_pre (by assumption)); (case kd => ktr_room); (case ku => ktr_units); intro t9 h9 tk9 F9 N9; (try dsimp only); (try k_fold))
  k_with "my call builtin:str.upper" => (k_here; (with_reducible show wpAny _ _ (call (Value.builtin "str.upper") [Value.str _ _]) _ _ _); (refine KXw.upper rfl (up_fits (by assumption) (by assumption)) ?_); intro _ _)
  k_with "my pyIter ref" => (k_here; (rename Fr _ _ _ _ => lF'); (rename News _ _ _ _ => lN'); (with_unfolding_all refine dom_iter (by rfl) (by assumption) lF' lN' (by rfl) (by assumption) (by assumption) ?_); clear lF' lN'; intro i' l1; (try k_lt l1); intro j9 r9 t9 c9 d9 hj9 hr9 hl9 u9 h9 tk9 F' N')
  k_with "my UnrEnd" => ((rename Fr _ _ _ _ => lF'); (rename News _ _ _ _ => lN'); (with_unfolding_all refine unr_same lF' lN' (by first | assumption | exact allLt_of (by assumption)) (ds_next (by assumption) (by assumption) (by assumption) (by assumption) (by rfl) ?_)); intro y h1 h2 h3; dsimp only; simp only [if_neg h1, if_neg h2, if_neg h3])
  k_with "my subscriptTail Name Slice str ref" => (k_here; (rename Fr _ _ _ _ => F'); (rename News _ _ _ _ => N'); (have hz9 := (rung_next (by assumption) (by assumption) (by assumption) (by assumption)).2.2.1); (refine slice_strN_sn F' N' ?_ (hsz := by size_fits)); clear F' N' hz9; intro h' t' k' F' N')
  k_fill
  intros
  rename_i hpre _ _ hret
  obtain ⟨hd1, hd2, hd3, hd4⟩ := hpre
  refine wpAny_call ?_
  k_dflt cell_enter
  have hb40 := (host_len b hd3 hd4).1
  have ha40 := (host_len a hd1 hd2).1
  have hst := rung_start hd1 hd2 hd3 hd4
  k_steps
  all_goals first
    | (refine cb_retS hret ?e1 ?e2 ?e3; (case e2 => k_asm); (case e3 => (refine' cb_drop ?cbN ?cbS; (case cbN => assumption); (case cbS => kcj_all))); (case e1 => exact rung_found (by assumption) hd3 hd4 (by assumption)))
    | exact (rung_starts (by assumption) hd3 hd4 (by assumption) (by assumption)).elim
end Mine
end PartD2
section PartO1
open PySem PySem.W PyProof.Rows
open Builtin Builtin.Str
namespace Mine
set_option maxRecDepth 100000
def ogF (arm : Int) : Int := ([0, 1, 1, 2, 2, 0] : List Int).getD (arm.fmod 6).toNat 0
def omF (arm : Int) : Int := ([1, 0, 2, 1, 0, 2] : List Int).getD (arm.fmod 6).toNat 0
def olF (arm : Int) : Int := ([2, 2, 0, 0, 1, 1] : List Int).getD (arm.fmod 6).toNat 0
theorem split6 {P : Int → Prop} {a : Int} (h0 : a.fmod 6 = 0 → P 0) (h1 : a.fmod 6 = 1 → P 1) (h2 : a.fmod 6 = 2 → P 2) (h3 : a.fmod 6 = 3 → P 3) (h4 : a.fmod 6 = 4 → P 4) (h5 : a.fmod 6 = 5 → P 5) : P (a.fmod 6) := by
  have e : a.fmod 6 = 0 ∨ a.fmod 6 = 1 ∨ a.fmod 6 = 2 ∨ a.fmod 6 = 3 ∨ a.fmod 6 = 4 ∨ a.fmod 6 = 5 := by
    rw [Int.fmod_eq_emod_of_nonneg _ (by decide)]; omega
  rcases e with e | e | e | e | e | e
  · rw [e]; exact h0 e
  · rw [e]; exact h1 e
  · rw [e]; exact h2 e
  · rw [e]; exact h3 e
  · rw [e]; exact h4 e
  · rw [e]; exact h5 e
/-- the tuple of three that _law_order tells -/
def OrdP (arm : Int) (news : List (Addr × Obj)) (v : Value) (nx : List (Addr × Obj)) : Prop :=
  ∃ (p : Addr) (g m l : Int) (t₁ t₂ t₃ : Tok), v = .ref p ∧ nx = (p, tupO #[.int g t₁, .int m t₂, .int l t₃]) :: news ∧ g = ogF arm ∧ m = omF arm ∧ l = olF arm ∧ (∀ q ∈ news, q.1 < p)
section
variable {h₀ h : Heap} {L : Addr} {a₀ a₁ a₂ a₃ a₄ a₅ a₆ : Addr × Obj} {news : List (Addr × Obj)}
theorem opick1 (N : News h₀ L h (a₀ :: a₁ :: a₂ :: a₃ :: a₄ :: a₅ :: a₆ :: news)) : News h₀ L h (a₁ :: news) := fun p hp => N p (by simp only [List.mem_cons] at hp ⊢; rcases hp with h | h <;> simp [h])
theorem opick2 (N : News h₀ L h (a₀ :: a₁ :: a₂ :: a₃ :: a₄ :: a₅ :: a₆ :: news)) : News h₀ L h (a₂ :: news) := fun p hp => N p (by simp only [List.mem_cons] at hp ⊢; rcases hp with h | h <;> simp [h])
theorem opick3 (N : News h₀ L h (a₀ :: a₁ :: a₂ :: a₃ :: a₄ :: a₅ :: a₆ :: news)) : News h₀ L h (a₃ :: news) := fun p hp => N p (by simp only [List.mem_cons] at hp ⊢; rcases hp with h | h <;> simp [h])
theorem opick4 (N : News h₀ L h (a₀ :: a₁ :: a₂ :: a₃ :: a₄ :: a₅ :: a₆ :: news)) : News h₀ L h (a₄ :: news) := fun p hp => N p (by simp only [List.mem_cons] at hp ⊢; rcases hp with h | h <;> simp [h])
theorem opick5 (N : News h₀ L h (a₀ :: a₁ :: a₂ :: a₃ :: a₄ :: a₅ :: a₆ :: news)) : News h₀ L h (a₅ :: news) := fun p hp => N p (by simp only [List.mem_cons] at hp ⊢; rcases hp with h | h <;> simp [h])
theorem opick6 (N : News h₀ L h (a₀ :: a₁ :: a₂ :: a₃ :: a₄ :: a₅ :: a₆ :: news)) : News h₀ L h (a₆ :: news) := fun p hp => N p (by simp only [List.mem_cons] at hp ⊢; rcases hp with h | h <;> simp [h])
end
theorem of_allLt {d : Addr} : ∀ {l : List (Addr × Obj)}, AllLt d l → ∀ p ∈ l, p.1 < d
  | [], _, _, h => nomatch h
  | _ :: _, x, p, h => by
    rcases List.mem_cons.mp h with rfl | h
    · exact x.1
    · exact of_allLt x.2 p h
local macro_rules | `(tactic| k_room) => `(tactic| ktr_room)
set_option maxHeartbeats 8000000 in
theorem order_c (w : World) (arm : Int) (ta : Tok) : CW w 1 179 (fun _ => True) [.int arm ta] (OrdP arm) := by
  unfold CW
  w_top off
  k_with_none
  k_with "my last subscriptTail" => (k_here; (with_reducible show wpAny _ _ (subscriptTail _ _ (Value.ref _) (Value.int (Int.fmod _ 6) _)) _ _ _); (refine split6 (P := fun k => wpAny _ _ (subscriptTail _ _ (Value.ref _) (Value.int k _)) _ _ _) ?_ ?_ ?_ ?_ ?_ ?_) <;> (intro h6; dsimp only))
  k_fill
  intros
  rename_i hpre _ _ hret
  refine wpAny_call ?_
  k_dflt cell_enter
  k_steps
  all_goals (rename Fr _ _ _ _ => kF9; rename News _ _ _ _ => kN9)
  all_goals first
    | (refine hret _ _ _ _ ?_ kF9 (opick6 kN9); (refine ⟨_, _, _, _, _, _, _, rfl, rfl, ?_, ?_, ?_, fun q hq => ?_⟩))
    | (refine hret _ _ _ _ ?_ kF9 (opick5 kN9); (refine ⟨_, _, _, _, _, _, _, rfl, rfl, ?_, ?_, ?_, fun q hq => ?_⟩))
    | (refine hret _ _ _ _ ?_ kF9 (opick4 kN9); (refine ⟨_, _, _, _, _, _, _, rfl, rfl, ?_, ?_, ?_, fun q hq => ?_⟩))
    | (refine hret _ _ _ _ ?_ kF9 (opick3 kN9); (refine ⟨_, _, _, _, _, _, _, rfl, rfl, ?_, ?_, ?_, fun q hq => ?_⟩))
    | (refine hret _ _ _ _ ?_ kF9 (opick2 kN9); (refine ⟨_, _, _, _, _, _, _, rfl, rfl, ?_, ?_, ?_, fun q hq => ?_⟩))
    | (refine hret _ _ _ _ ?_ kF9 (opick1 kN9); (refine ⟨_, _, _, _, _, _, _, rfl, rfl, ?_, ?_, ?_, fun q hq => ?_⟩))
  all_goals first
    | (unfold ogF; rw [‹Int.fmod arm 6 = _›]; rfl)
    | (unfold omF; rw [‹Int.fmod arm 6 = _›]; rfl)
    | (unfold olF; rw [‹Int.fmod arm 6 = _›]; rfl)
    | exact (by assumption : ∀ p ∈ _, p.1 < _) q hq
    | exact of_allLt (by assumption) q hq
    | exact of_allLt (And.right (by assumption)) q hq
    | exact of_allLt (And.right (And.right (by assumption))) q hq
    | exact of_allLt (And.right (And.right (And.right (by assumption)))) q hq
    | exact of_allLt (And.right (And.right (And.right (And.right (by assumption))))) q hq
    | exact of_allLt (And.right (And.right (And.right (And.right (And.right (by assumption)))))) q hq
    | exact of_allLt (And.right (And.right (And.right (And.right (And.right (And.right (by assumption))))))) q hq
end Mine
end PartO1
section PartF0
open PySem PySem.W PyProof.Rows
namespace Mine
set_option maxRecDepth 100000
/-- n / 32, as the model has it -/
def q (n : Int) : UInt64 := Float64.ofFrac (decide (n < 0) != decide ((32 : Int) < 0)) n.natAbs (32 : Int).natAbs
abbrev fONE : UInt64 := 0x3ff0000000000000
abbrev fTWO : UInt64 := 0x4000000000000000
abbrev fFOUR : UInt64 := 0x4010000000000000
abbrev fSIX : UInt64 := 0x4018000000000000
abbrev fHALF : UInt64 := 0x3fe0000000000000
theorem pair_of {P : Int → Int → Prop} {n : Nat} (h : ∀ i j : Nat, i < n → j < n → P ((i : Int) + 1) ((j : Int) + 1)) : ∀ x y : Int, 1 ≤ x → x ≤ (n : Int) → 1 ≤ y → y ≤ (n : Int) → P x y := by
  intro x y h1 h2 h3 h4
  have := h (x - 1).toNat (y - 1).toNat (by omega) (by omega)
  rwa [show (((x - 1).toNat : Nat) : Int) + 1 = x by omega, show (((y - 1).toNat : Nat) : Int) + 1 = y by omega] at this
theorem cmp_q0 : allB 31 (fun i => allB 31 fun j => Float64.cmp (q ((i : Int) + 1)) (q ((j : Int) + 1)) == some (compare i j)) = true := by decide +kernel
theorem sub_q0 : allB 31 (fun i => allB (i + 1) fun j => Float64.sub (q ((i : Int) + 1)) (q ((j : Int) + 1)) == q ((i : Int) - j)) = true := by decide +kernel
theorem add_q0 : allB 31 (fun i => allB (i + 1) fun j => Float64.add (q ((i : Int) + 1)) (q ((j : Int) + 1)) == q ((i : Int) + j + 2)) = true := by decide +kernel
theorem nz_q0 : allB 62 (fun i => !Float64.isZero (q ((i : Int) + 1))) = true := by decide +kernel
end Mine
end PartF0
section PartF1
open PySem PySem.W PyProof.Rows
namespace Mine
set_option maxRecDepth 100000
def force {α : Type} (n : Nat) (f : Nat → α) : α := Nat.casesOn (motive := fun _ => α) n (f 0) (fun k => f (k + 1))
theorem force_eq {α : Type} (n : Nat) (f : Nat → α) : force n f = f n := by cases n <;> rfl
def frc {α : Type} (x : UInt64) (f : UInt64 → α) : α := force x.toNat fun n => f (UInt64.ofNat n)
theorem frc_eq {α : Type} (x : UInt64) (f : UInt64 → α) : frc x f = f x := by unfold frc; rw [force_eq]; simp
def lF (u : Int) : UInt64 := Float64.div (q u) fTWO
def shareF (hi lo : Int) : UInt64 := if (Float64.cmp (lF (hi + lo)) fHALF == some .lt || Float64.cmp (lF (hi + lo)) fHALF == some .eq) = true then Float64.div (q (hi - lo)) (q (hi + lo)) else Float64.div (q (hi - lo)) (Float64.sub (Float64.sub fTWO (q hi)) (q lo))
def mnF (u : Int) : UInt64 := if (Float64.cmp (Float64.sub fONE (lF u)) (lF u) == some .lt) = true then Float64.sub fONE (lF u) else lF u
def spF (hi lo : Int) : UInt64 := Float64.mul (Float64.mul (shareF hi lo) (mnF (hi + lo))) (Float64.ofInt 64)
def boF (u : Int) : UInt64 := Float64.mul (lF u) (Float64.ofInt 64)
def rndOk (x : UInt64) (n : Int) : Bool := Float64.isFinite x && Flt.toInt Float64.nearestOf x == n
def spS (hi lo : Int) : Bool := frc (lF (hi + lo)) fun l => frc (Float64.sub fONE l) fun l' => frc (if (Float64.cmp l' l == some .lt) = true then l' else l) fun mn =>
  frc (if (Float64.cmp l fHALF == some .lt || Float64.cmp l fHALF == some .eq) = true then Float64.div (q (hi - lo)) (q (hi + lo)) else Float64.div (q (hi - lo)) (Float64.sub (Float64.sub fTWO (q hi)) (q lo))) fun s =>
  frc (Float64.mul s mn) fun t => frc (Float64.mul t (Float64.ofInt 64)) fun x => rndOk x (hi - lo)
theorem spS_eq (hi lo : Int) : spS hi lo = rndOk (spF hi lo) (hi - lo) := by
  unfold spS
  simp only [frc_eq]
  rfl
theorem sp_q0 : allB 31 (fun i => allB i fun j => spS ((i : Int) + 1) ((j : Int) + 1)) = true := by decide +kernel
theorem bo_q0 : allB 63 (fun i => rndOk (boF (i : Int)) (i : Int)) = true := by decide +kernel
theorem nz_s0 : allB 31 (fun i => allB 31 fun j => !Float64.isZero (Float64.sub (Float64.sub fTWO (q ((i : Int) + 1))) (q ((j : Int) + 1)))) = true := by decide +kernel
def frac (p r : Int) : UInt64 := Float64.div (q p) (q r)
theorem frac_self0 : allB 30 (fun i => frac ((i : Int) + 1) ((i : Int) + 1) == fONE) = true := by decide +kernel
def hueOf (h : UInt64) : UInt64 := (Float64.divmod (Float64.div h fSIX) fONE).2
def kk (h : UInt64) (sp : Int) : UInt64 := Float64.mul (Float64.mul (hueOf h) (Float64.ofInt 6)) (Float64.ofInt sp)
def kkS (h : UInt64) (sp : Int) (n : Int) : Bool := frc h fun h => frc (Float64.div h fSIX) fun h => frc (Float64.divmod h fONE).2 fun h => frc (Float64.mul h (Float64.ofInt 6)) fun h => frc (Float64.mul h (Float64.ofInt sp)) fun x => rndOk x n
theorem kkS_eq (h : UInt64) (sp n : Int) : kkS h sp n = rndOk (kk h sp) n := by
  unfold kkS
  simp only [frc_eq]
  rfl
def fracS (p r : Int) (f : UInt64 → Bool) : Bool := frc (q p) fun a => frc (q r) fun b => frc (Float64.div a b) f
theorem fracS_eq (p r : Int) (f : UInt64 → Bool) : fracS p r f = f (frac p r) := by unfold fracS; simp only [frc_eq]; rfl
theorem k0 : allB 30 (fun r => allB (r + 2) fun p => fracS (p : Int) ((r : Int) + 1) fun u => kkS (Float64.sub fONE u) ((r : Int) + 1) ((r : Int) + 1 - p)) = true := by decide +kernel
theorem k1 : allB 30 (fun r => allB (r + 2) fun p => fracS (p : Int) ((r : Int) + 1) fun u => kkS (Float64.sub u fONE) ((r : Int) + 1) (if p = r + 1 then 0 else 5 * ((r : Int) + 1) + p)) = true := by decide +kernel
theorem k2 : allB 30 (fun r => allB (r + 2) fun p => fracS (p : Int) ((r : Int) + 1) fun u => kkS (Float64.sub (Float64.add fTWO u) fONE) ((r : Int) + 1) ((r : Int) + 1 + p)) = true := by decide +kernel
theorem k3 : allB 30 (fun r => allB (r + 2) fun p => fracS (p : Int) ((r : Int) + 1) fun u => kkS (Float64.sub (Float64.add fTWO fONE) u) ((r : Int) + 1) (3 * ((r : Int) + 1) - p)) = true := by decide +kernel
theorem k4 : allB 30 (fun r => allB (r + 2) fun p => fracS (p : Int) ((r : Int) + 1) fun u => kkS (Float64.sub (Float64.add fFOUR u) fONE) ((r : Int) + 1) (3 * ((r : Int) + 1) + p)) = true := by decide +kernel
theorem k5 : allB 30 (fun r => allB (r + 2) fun p => fracS (p : Int) ((r : Int) + 1) fun u => kkS (Float64.sub (Float64.add fFOUR fONE) u) ((r : Int) + 1) (5 * ((r : Int) + 1) - p)) = true := by decide +kernel
end Mine
end PartF1
section PartF2
open PySem PySem.W PyProof.Rows PySem.Flt
namespace Mine
set_option maxRecDepth 100000
theorem cmp_q {x y : Int} (h1 : 1 ≤ x) (h2 : x ≤ 31) (h3 : 1 ≤ y) (h4 : y ≤ 31) : Float64.cmp (q x) (q y) = some (compare x y) := by
  refine pair_of (n := 31) (P := fun x y => Float64.cmp (q x) (q y) = some (compare x y)) (fun i j hi hj => ?_) x y h1 h2 h3 h4
  rw [eq_of_beq (allB_at (allB_at cmp_q0 i hi) j hj)]
  congr 1
  rw [Nat.compare_eq_ite_lt, Int.compare_eq_ite_lt]
  split <;> split <;> (try split) <;> (try split) <;> first | rfl | omega
theorem lt_q {x y : Int} (h1 : 1 ≤ x) (h2 : x ≤ 31) (h3 : 1 ≤ y) (h4 : y ≤ 31) : (Float64.cmp (q x) (q y) == some .lt) = decide (x < y) := by
  rw [cmp_q h1 h2 h3 h4, Int.compare_eq_ite_lt]
  by_cases h : x < y
  · rw [if_pos h, decide_eq_true h]; rfl
  · rw [if_neg h, decide_eq_false h]
    split <;> rfl
theorem eq_q {x y : Int} (h1 : 1 ≤ x) (h2 : x ≤ 31) (h3 : 1 ≤ y) (h4 : y ≤ 31) : (Float64.cmp (q x) (q y) == some .eq) = decide (x = y) := by
  rw [cmp_q h1 h2 h3 h4, Int.compare_eq_ite_lt]
  by_cases h : x < y
  · rw [if_pos h, decide_eq_false (by omega)]; rfl
  · rw [if_neg h]
    by_cases h' : y < x
    · rw [if_pos h', decide_eq_false (by omega)]; rfl
    · rw [if_neg h', decide_eq_true (by omega)]; rfl
theorem sub_q {x y : Int} (h1 : 1 ≤ y) (h2 : y ≤ x) (h3 : x ≤ 31) : Float64.sub (q x) (q y) = q (x - y) := by
  have h := eq_of_beq (allB_at (allB_at sub_q0 (x - 1).toNat (by omega)) (y - 1).toNat (by omega))
  rwa [show (((x - 1).toNat : Nat) : Int) + 1 = x by omega, show (((y - 1).toNat : Nat) : Int) + 1 = y by omega, show (((x - 1).toNat : Nat) : Int) - ((y - 1).toNat : Nat) = x - y by omega] at h
theorem add_q {x y : Int} (h1 : 1 ≤ y) (h2 : y ≤ x) (h3 : x ≤ 31) : Float64.add (q x) (q y) = q (x + y) := by
  have h := eq_of_beq (allB_at (allB_at add_q0 (x - 1).toNat (by omega)) (y - 1).toNat (by omega))
  rwa [show (((x - 1).toNat : Nat) : Int) + 1 = x by omega, show (((y - 1).toNat : Nat) : Int) + 1 = y by omega, show (((x - 1).toNat : Nat) : Int) + ((y - 1).toNat : Nat) + 2 = x + y by omega] at h
theorem nz_q {x : Int} (h1 : 1 ≤ x) (h2 : x ≤ 62) : Float64.isZero (q x) = false := by
  have h := allB_at nz_q0 (x - 1).toNat (by omega)
  rw [show (((x - 1).toNat : Nat) : Int) + 1 = x by omega] at h
  simpa using h
theorem nz_s {x y : Int} (h1 : 1 ≤ x) (h2 : x ≤ 31) (h3 : 1 ≤ y) (h4 : y ≤ 31) : Float64.isZero (Float64.sub (Float64.sub fTWO (q x)) (q y)) = false := by
  have h := allB_at (allB_at nz_s0 (x - 1).toNat (by omega)) (y - 1).toNat (by omega)
  rw [show (((x - 1).toNat : Nat) : Int) + 1 = x by omega, show (((y - 1).toNat : Nat) : Int) + 1 = y by omega] at h
  simpa using h
theorem bo_q {u : Int} (h1 : 0 ≤ u) (h2 : u ≤ 62) : rndOk (boF u) u = true := by
  have h := allB_at bo_q0 u.toNat (by omega)
  rwa [show ((u.toNat : Nat) : Int) = u by omega] at h
theorem sp_q {x y : Int} (h1 : 1 ≤ y) (h2 : y < x) (h3 : x ≤ 31) : rndOk (spF x y) (x - y) = true := by
  have h := allB_at (allB_at sp_q0 (x - 1).toNat (by omega)) (y - 1).toNat (by omega)
  rw [spS_eq] at h
  rwa [show (((x - 1).toNat : Nat) : Int) + 1 = x by omega, show (((y - 1).toNat : Nat) : Int) + 1 = y by omega] at h
theorem frac_self {r : Int} (h1 : 1 ≤ r) (h2 : r ≤ 30) : frac r r = fONE := by
  have h := eq_of_beq (allB_at frac_self0 (r - 1).toNat (by omega))
  rwa [show (((r - 1).toNat : Nat) : Int) + 1 = r by omega] at h
def max3 (a b c : Int) : Int := if a < b then (if b < c then c else b) else (if a < c then c else a)
def min3 (a b c : Int) : Int := if b < a then (if c < b then c else b) else (if c < a then c else a)
/-- what h is ahead of the cut by one -/
def h0F (a b c hi lo : Int) : UInt64 :=
  if a = hi then Float64.sub (frac (hi - c) (hi - lo)) (frac (hi - b) (hi - lo))
  else if b = hi then Float64.sub (Float64.add fTWO (frac (hi - a) (hi - lo))) (frac (hi - c) (hi - lo))
  else Float64.sub (Float64.add fFOUR (frac (hi - b) (hi - lo))) (frac (hi - a) (hi - lo))
def hueF (a b c hi lo : Int) : UInt64 := hueOf (h0F a b c hi lo)
def kF (a b c hi lo : Int) : Int :=
  if a = hi then (if c ≤ b then b - c else 6 * (hi - lo) + b - c)
  else if b = hi then 2 * (hi - lo) + c - a
  else 4 * (hi - lo) + a - b
def kU (a b c hi lo : Int) : UInt64 := Float64.mul (Float64.mul (hueF a b c hi lo) (Float64.ofInt 6)) (Float64.ofInt (hi - lo))
theorem fam {f : UInt64 → UInt64} {g : Nat → Nat → Int} (h : allB 30 (fun r => allB (r + 2) fun p => fracS (p : Int) ((r : Int) + 1) fun u => kkS (f u) ((r : Int) + 1) (g p r)) = true) {p sp : Int} (h1 : 0 ≤ p) (h2 : p ≤ sp) (h3 : 1 ≤ sp) (h4 : sp ≤ 30) :
    rndOk (kk (f (frac p sp)) sp) (g p.toNat (sp - 1).toNat) = true := by
  have x := allB_at (allB_at h (sp - 1).toNat (by omega)) p.toNat (by omega)
  rw [fracS_eq, kkS_eq] at x
  rwa [show ((p.toNat : Nat) : Int) = p by omega, show (((sp - 1).toNat : Nat) : Int) + 1 = sp by omega] at x
theorem k_q {a b c hi lo : Int} (h1 : 1 ≤ lo) (h2 : lo < hi) (h3 : hi ≤ 31) (ha : lo ≤ a) (ha' : a ≤ hi) (hb : lo ≤ b) (hb' : b ≤ hi) (hc : lo ≤ c) (hc' : c ≤ hi) (hhi : a = hi ∨ b = hi ∨ c = hi) (hlo : a = lo ∨ b = lo ∨ c = lo) :
    rndOk (kU a b c hi lo) (kF a b c hi lo) = true := by
  have e1 := frac_self (r := hi - lo) (by omega) (by omega)
  unfold kU hueF h0F kF
  by_cases c1 : a = hi
  · rw [if_pos c1, if_pos c1]
    by_cases c2 : c = lo
    · subst c2
      rw [e1, if_pos hb]
      have x := fam k0 (p := hi - b) (sp := hi - c) (by omega) (by omega) (by omega) (by omega)
      have e : ((((hi - c) - 1).toNat : Nat) : Int) + 1 - (((hi - b).toNat : Nat) : Int) = b - c := by omega
      rw [e] at x
      exact x
    · have c3 : b = lo := by omega
      subst c3
      rw [e1, if_neg (by omega)]
      have x := fam k1 (p := hi - c) (sp := hi - b) (by omega) (by omega) (by omega) (by omega)
      rw [if_neg (by omega)] at x
      have e : 5 * (((((hi - b) - 1).toNat : Nat) : Int) + 1) + (((hi - c).toNat : Nat) : Int) = 6 * (hi - b) + b - c := by omega
      rw [e] at x
      exact x
  · rw [if_neg c1, if_neg c1]
    by_cases c2 : b = hi
    · rw [if_pos c2, if_pos c2]
      by_cases c3 : c = lo
      · subst c3
        rw [e1]
        have x := fam k2 (p := hi - a) (sp := hi - c) (by omega) (by omega) (by omega) (by omega)
        have e : ((((hi - c) - 1).toNat : Nat) : Int) + 1 + (((hi - a).toNat : Nat) : Int) = 2 * (hi - c) + c - a := by omega
        rw [e] at x
        exact x
      · have c4 : a = lo := by omega
        subst c4
        rw [e1]
        have x := fam k3 (p := hi - c) (sp := hi - a) (by omega) (by omega) (by omega) (by omega)
        have e : 3 * (((((hi - a) - 1).toNat : Nat) : Int) + 1) - (((hi - c).toNat : Nat) : Int) = 2 * (hi - a) + c - a := by omega
        rw [e] at x
        exact x
    · rw [if_neg c2, if_neg c2]
      by_cases c3 : a = lo
      · subst c3
        rw [e1]
        have x := fam k4 (p := hi - b) (sp := hi - a) (by omega) (by omega) (by omega) (by omega)
        have e : 3 * (((((hi - a) - 1).toNat : Nat) : Int) + 1) + (((hi - b).toNat : Nat) : Int) = 4 * (hi - a) + a - b := by omega
        rw [e] at x
        exact x
      · have c4 : b = lo := by omega
        subst c4
        rw [e1]
        have x := fam k5 (p := hi - a) (sp := hi - b) (by omega) (by omega) (by omega) (by omega)
        have e : 5 * (((((hi - b) - 1).toNat : Nat) : Int) + 1) - (((hi - a).toNat : Nat) : Int) = 4 * (hi - b) + a - b := by omega
        rw [e] at x
        exact x
theorem rnd_fin {x : UInt64} {n : Int} (h : rndOk x n = true) : Float64.isFinite x = true ∧ Flt.toInt Float64.nearestOf x = n := by
  unfold rndOk at h
  rw [Bool.and_eq_true] at h
  exact ⟨h.1, eq_of_beq h.2⟩
end Mine
end PartF2
section PartF3
open PySem PySem.W PyProof.Rows PySem.Flt
namespace Mine
set_option maxRecDepth 100000
section
variable {prog : Program} {w : World} {A : Around} {E : Value → Shared → Prop} {s : Shared} {h₀ : Heap} {L : Addr} {m : PySem.Str → Option Value} {news : List (Addr × Obj)} {Q : Value → Shared → Prop}
theorem ltV_q {x y : Int} {t u : Tok} (h1 : 1 ≤ x) (h2 : x ≤ 31) (h3 : 1 ≤ y) (h4 : y ≤ 31) : ltV (.float (q x) t) (.float (q y) u) = decide (x < y) := lt_q h1 h2 h3 h4
theorem three_old {vs : Array Value} (hsz : (s.heap.push { cls := .type "tuple", data := .seq vs }).objs.size = s.heap.objs.size + 1) {h' : Heap}
    (hk : ∀ b o, b ∉ [(s.heap.push { cls := .type "tuple", data := .seq vs }).objs.size] → ((s.heap.push { cls := .type "tuple", data := .seq vs }).push { cls := .type "tuple_iterator", data := .fields #[.ref s.heap.objs.size, .int 0 0] }).get? b = some o → h'.get? b = some o) :
    ∀ c o, s.heap.get? c = some o → h'.get? c = some o := fun c o e => by
  refine hk c o (fun hm => ?_) (Heap.get?_push_of_some _ (Heap.get?_push_of_some _ e))
  rcases List.mem_cons.mp hm with e1 | hm
  · have := Heap.lt_size e; rw [e1, hsz] at this; exact Nat.lt_irrefl _ (Nat.lt_of_succ_lt this)
  · cases hm
theorem max3_q {a b c : Int} {t u x : Tok} (hh : A.handled = none) (F : Fr h₀ L s.heap m) (N : News h₀ L s.heap news) (a1 : 1 ≤ a) (a2 : a ≤ 31) (b1 : 1 ≤ b) (b2 : b ≤ 31) (c1 : 1 ≤ c) (c2 : c ≤ 31)
    (h : ∀ h' tk v, Fr h₀ L h' m → News h₀ L h' news → Q (.float (q (max3 a b c)) v) { s with heap := h', toks := tk }) :
    wpAny (model prog w) A (call (.builtin "max") [.float (q a) t, .float (q b) u, .float (q c) x]) Q E s := by
  have hT : (s.heap.push { cls := .type "tuple", data := .seq #[.float (q a) t, .float (q b) u, .float (q c) x] }).IsTuple s.heap.objs.size #[.float (q a) t, .float (q b) u, .float (q c) x] := ⟨_, Heap.get?_push_size _ rfl, rfl, 0, rfl⟩
  refine call_max_three (wpAny_pyIter_tuple hT ?_)
  have hsz : (s.heap.push { cls := .type "tuple", data := .seq #[.float (q a) t, .float (q b) u, .float (q c) x] }).objs.size = s.heap.objs.size + 1 := Heap.size_push ..
  refine ⟨_, [_, s.heap.objs.size], [_], _, _, _, _, rfl, Walks.tuple (A := A.in1) hh _ s.heap.objs.size (by rw [hsz]; exact Nat.ne_of_lt (Nat.lt_succ_self _)) #[.float (q a) t, .float (q b) u, .float (q c) x],
    ⟨⟨_, Heap.get?_push_size _ rfl, rfl, rfl⟩, hT.push _⟩, fun d hd => ?_, by simp, cmpOf_gt #[.float (q a) t, .float (q b) u, .float (q c) x] (by intro v hv; simp at hv; rcases hv with rfl | rfl | rfl <;> constructor), fun v h' tk hP hk => ?_⟩
  · show d < ((s.heap.push _).push _).objs.size
    rw [Heap.size_push, hsz]
    rcases List.mem_cons.mp hd with rfl | hd
    · rw [hsz]; exact Nat.lt_succ_self _
    · rcases List.mem_cons.mp hd with rfl | hd
      · exact Nat.lt_succ_of_lt (Nat.lt_succ_self _)
      · cases hd
  · have hold := three_old hsz hk
    have hv : ∃ tk, v = .float (q (max3 a b c)) tk := by
      unfold max3
      by_cases x1 : a < b
      · by_cases x2 : b < c
        · exact ⟨x, by simp [argBest, ltV_q, a1, a2, b1, b2, c1, c2, x1, x2] at hP; simp [← hP, x1, x2]⟩
        · exact ⟨u, by simp [argBest, ltV_q, a1, a2, b1, b2, c1, c2, x1, x2] at hP; simp [← hP, x1, x2]⟩
      · by_cases x2 : a < c
        · exact ⟨x, by simp [argBest, ltV_q, a1, a2, b1, b2, c1, c2, x1, x2] at hP; simp [← hP, x1, x2]⟩
        · exact ⟨t, by simp [argBest, ltV_q, a1, a2, b1, b2, c1, c2, x1, x2] at hP; simp [← hP, x1, x2]⟩
    obtain ⟨tv, rfl⟩ := hv
    exact h h' tk tv (F.grownK hold) (N.grown hold)
theorem min3_q {a b c : Int} {t u x : Tok} (hh : A.handled = none) (F : Fr h₀ L s.heap m) (N : News h₀ L s.heap news) (a1 : 1 ≤ a) (a2 : a ≤ 31) (b1 : 1 ≤ b) (b2 : b ≤ 31) (c1 : 1 ≤ c) (c2 : c ≤ 31)
    (h : ∀ h' tk v, Fr h₀ L h' m → News h₀ L h' news → Q (.float (q (min3 a b c)) v) { s with heap := h', toks := tk }) :
    wpAny (model prog w) A (call (.builtin "min") [.float (q a) t, .float (q b) u, .float (q c) x]) Q E s := by
  have hT : (s.heap.push { cls := .type "tuple", data := .seq #[.float (q a) t, .float (q b) u, .float (q c) x] }).IsTuple s.heap.objs.size #[.float (q a) t, .float (q b) u, .float (q c) x] := ⟨_, Heap.get?_push_size _ rfl, rfl, 0, rfl⟩
  refine call_min_three (wpAny_pyIter_tuple hT ?_)
  have hsz : (s.heap.push { cls := .type "tuple", data := .seq #[.float (q a) t, .float (q b) u, .float (q c) x] }).objs.size = s.heap.objs.size + 1 := Heap.size_push ..
  refine ⟨_, [_, s.heap.objs.size], [_], _, _, _, _, rfl, Walks.tuple (A := A.in1) hh _ s.heap.objs.size (by rw [hsz]; exact Nat.ne_of_lt (Nat.lt_succ_self _)) #[.float (q a) t, .float (q b) u, .float (q c) x],
    ⟨⟨_, Heap.get?_push_size _ rfl, rfl, rfl⟩, hT.push _⟩, fun d hd => ?_, by simp, cmpOf_lt #[.float (q a) t, .float (q b) u, .float (q c) x] (by intro v hv; simp at hv; rcases hv with rfl | rfl | rfl <;> constructor), fun v h' tk hP hk => ?_⟩
  · show d < ((s.heap.push _).push _).objs.size
    rw [Heap.size_push, hsz]
    rcases List.mem_cons.mp hd with rfl | hd
    · rw [hsz]; exact Nat.lt_succ_self _
    · rcases List.mem_cons.mp hd with rfl | hd
      · exact Nat.lt_succ_of_lt (Nat.lt_succ_self _)
      · cases hd
  · have hold := three_old hsz hk
    have hv : ∃ tk, v = .float (q (min3 a b c)) tk := by
      unfold min3
      by_cases x1 : b < a
      · by_cases x2 : c < b
        · exact ⟨x, by simp [argBest, ltV_q, a1, a2, b1, b2, c1, c2, x1, x2] at hP; simp [← hP, x1, x2]⟩
        · exact ⟨u, by simp [argBest, ltV_q, a1, a2, b1, b2, c1, c2, x1, x2] at hP; simp [← hP, x1, x2]⟩
      · by_cases x2 : c < a
        · exact ⟨x, by simp [argBest, ltV_q, a1, a2, b1, b2, c1, c2, x1, x2] at hP; simp [← hP, x1, x2]⟩
        · exact ⟨t, by simp [argBest, ltV_q, a1, a2, b1, b2, c1, c2, x1, x2] at hP; simp [← hP, x1, x2]⟩
    obtain ⟨tv, rfl⟩ := hv
    exact h h' tk tv (F.grownK hold) (N.grown hold)
theorem max3_e {a b c hi : Int} {t u x : Tok} (hh : A.handled = none) (F : Fr h₀ L s.heap m) (N : News h₀ L s.heap news) (e : max3 a b c = hi) (a1 : 1 ≤ a) (a2 : a ≤ 31) (b1 : 1 ≤ b) (b2 : b ≤ 31) (c1 : 1 ≤ c) (c2 : c ≤ 31)
    (h : ∀ h' tk v, Fr h₀ L h' m → News h₀ L h' news → Q (.float (q hi) v) { s with heap := h', toks := tk }) :
    wpAny (model prog w) A (call (.builtin "max") [.float (q a) t, .float (q b) u, .float (q c) x]) Q E s := by
  subst e
  exact max3_q hh F N a1 a2 b1 b2 c1 c2 h
theorem min3_e {a b c lo : Int} {t u x : Tok} (hh : A.handled = none) (F : Fr h₀ L s.heap m) (N : News h₀ L s.heap news) (e : min3 a b c = lo) (a1 : 1 ≤ a) (a2 : a ≤ 31) (b1 : 1 ≤ b) (b2 : b ≤ 31) (c1 : 1 ≤ c) (c2 : c ≤ 31)
    (h : ∀ h' tk v, Fr h₀ L h' m → News h₀ L h' news → Q (.float (q lo) v) { s with heap := h', toks := tk }) :
    wpAny (model prog w) A (call (.builtin "min") [.float (q a) t, .float (q b) u, .float (q c) x]) Q E s := by
  subst e
  exact min3_q hh F N a1 a2 b1 b2 c1 c2 h
theorem add_qq {x y : Int} {t u : Tok} (h1 : 1 ≤ y) (h2 : y ≤ x) (h3 : x ≤ 31) (h : Q (.float (q (x + y)) s.toks) { s with toks := s.toks + 1 }) : wpAny (model prog w) A (binaryOp .Add (.float (q x) t) (.float (q y) u)) Q E s :=
  add_float (by rw [add_q h1 h2 h3]; exact h)
theorem sub_qq {x y : Int} {t u : Tok} (h1 : 1 ≤ y) (h2 : y ≤ x) (h3 : x ≤ 31) (h : Q (.float (q (x - y)) s.toks) { s with toks := s.toks + 1 }) : wpAny (model prog w) A (binaryOp .Sub (.float (q x) t) (.float (q y) u)) Q E s :=
  sub_float (by rw [sub_q h1 h2 h3]; exact h)
theorem div_by {x y : UInt64} {t u : Tok} (hA : A.handled = none) (hz : Float64.isZero y = false) (h : Q (.float (Float64.div x y) s.toks) { s with toks := s.toks + 1 }) : wpAny (model prog w) A (binaryOp .Div (.float x t) (.float y u)) Q E s :=
  truediv_float_or hA (fun c => by rw [hz] at c; cases c) fun _ => h
theorem eq_qq {x y : Int} {t u : Tok} (h1 : 1 ≤ x) (h2 : x ≤ 31) (h3 : 1 ≤ y) (h4 : y ≤ 31) (h : Q (.bool (decide (x = y))) s) : wpAny (model prog w) A (compareOp .Eq (.float (q x) t) (.float (q y) u)) Q E s :=
  AutoFloatOps.eq_0 (by rw [eq_q h1 h2 h3 h4]; exact h)
theorem div_32 {a : Int} {t u : Tok} (hA : A.handled = none) (hb : a.natAbs < 100) (h : Q (.float (q a) s.toks) { s with toks := s.toks + 1 }) : wpAny (model prog w) A (binaryOp .Div (.int a t) (.int 32 u)) Q E s :=
  div_ii_fits hA (Nat.lt_trans hb (by decide)) (fun c => absurd c (by decide)) fun _ _ => h
theorem round_to {x : UInt64} {n : Int} {t : Tok} (hA : A.handled = none) (hr : rndOk x n = true) (h : Q (.int n s.toks) { s with toks := s.toks + 1 }) : wpAny (model prog w) A (call (.builtin "round") [.float x t]) Q E s := by
  obtain ⟨h1, h2⟩ := rnd_fin hr
  refine call_round_float hA (fun c => ?_) (fun c => ?_) fun _ => by rw [h2]; exact h
  · rw [not_nan_of_finite h1] at c; cases c
  · rw [not_inf_of_finite h1] at c; cases c
end
end Mine
end PartF3
section PartH1
open PySem PySem.W PyProof.Rows PySem.Flt
open Builtin Builtin.Str
namespace Mine
set_option maxRecDepth 100000
def HlsP (a b c hi lo : Int) (news : List (Addr × Obj)) (v : Value) (nx : List (Addr × Obj)) : Prop :=
  ∃ (p : Addr) (t₁ t₂ t₃ : Tok), v = .ref p ∧ nx = (p, tupO #[.float (hueF a b c hi lo) t₁, .float (lF (hi + lo)) t₂, .float (shareF hi lo) t₃]) :: news ∧ (∀ q ∈ news, q.1 < p)
theorem mm_facts {a b c hi lo : Int} (e1 : max3 a b c = hi) (e2 : min3 a b c = lo) (a1 : 1 ≤ a) (a2 : a ≤ 31) (b1 : 1 ≤ b) (b2 : b ≤ 31) (c1 : 1 ≤ c) (c2 : c ≤ 31) :
    1 ≤ lo ∧ hi ≤ 31 ∧ a ≤ hi ∧ b ≤ hi ∧ c ≤ hi ∧ lo ≤ a ∧ lo ≤ b ∧ lo ≤ c ∧ (a = hi ∨ b = hi ∨ c = hi) ∧ (a = lo ∨ b = lo ∨ c = lo) := by
  unfold max3 at e1
  unfold min3 at e2
  split at e1 <;> split at e1 <;> split at e2 <;> split at e2 <;> (refine ⟨?_, ?_, ?_, ?_, ?_, ?_, ?_, ?_, ?_, ?_⟩ <;> omega)
theorem hls_end {a b c hi lo : Int} {p : Addr} {x y z : UInt64} {t₁ t₂ t₃ : Tok} {news : List (Addr × Obj)} (hx : x = hueF a b c hi lo) (hy : y = lF (hi + lo)) (hz : z = shareF hi lo) (hl : ∀ q ∈ news, q.1 < p) :
    HlsP a b c hi lo news (.ref p) ((p, tupO #[.float x t₁, .float y t₂, .float z t₃]) :: news) := by
  subst hx; subst hy; subst hz
  exact ⟨p, t₁, t₂, t₃, rfl, rfl, hl⟩
theorem hue_1 {a b c hi lo : Int} (h : a = hi) : hueOf (Float64.sub (frac (hi - c) (hi - lo)) (frac (hi - b) (hi - lo))) = hueF a b c hi lo := by
  unfold hueF h0F; rw [if_pos h]
theorem hue_2 {a b c hi lo : Int} (h : a ≠ hi) (h' : b = hi) : hueOf (Float64.sub (Float64.add fTWO (frac (hi - a) (hi - lo))) (frac (hi - c) (hi - lo))) = hueF a b c hi lo := by
  unfold hueF h0F; rw [if_neg h, if_pos h']
theorem hue_3 {a b c hi lo : Int} (h : a ≠ hi) (h' : b ≠ hi) : hueOf (Float64.sub (Float64.add fFOUR (frac (hi - b) (hi - lo))) (frac (hi - a) (hi - lo))) = hueF a b c hi lo := by
  unfold hueF h0F; rw [if_neg h, if_neg h']
theorem share_1 {hi lo : Int} (h : (Float64.cmp (lF (hi + lo)) fHALF == some .lt || Float64.cmp (lF (hi + lo)) fHALF == some .eq) = true) : Float64.div (q (hi - lo)) (q (hi + lo)) = shareF hi lo := by
  unfold shareF; rw [if_pos h]
theorem share_2 {hi lo : Int} (h : (Float64.cmp (lF (hi + lo)) fHALF == some .lt || Float64.cmp (lF (hi + lo)) fHALF == some .eq) = false) : Float64.div (q (hi - lo)) (Float64.sub (Float64.sub fTWO (q hi)) (q lo)) = shareF hi lo := by
  unfold shareF; rw [if_neg (by rw [h]; decide)]
local macro_rules | `(tactic| k_room) => `(tactic| ktr_room)
set_option maxHeartbeats 8000000 in
theorem hls_c (w : World) (a b c hi lo : Int) (ta tb tc : Tok) : CW w 1 78 (fun _ => max3 a b c = hi ∧ min3 a b c = lo ∧ 1 ≤ a ∧ a ≤ 31 ∧ 1 ≤ b ∧ b ≤ 31 ∧ 1 ≤ c ∧ c ≤ 31 ∧ lo < hi) [.float (q a) ta, .float (q b) tb, .float (q c) tc] (HlsP a b c hi lo) := by
  unfold CW
  w_top off
  k_with_none
  k_with "my call builtin:max" => (k_here; (with_reducible show wpAny _ _ (call _ [Value.float (q _) _, Value.float (q _) _, Value.float (q _) _]) _ _ _); (rename News _ _ _ _ => N'); (rename Fr _ _ _ _ => F'); with_unfolding_all (refine max3_e (by rfl) F' N' (by assumption) (by assumption) (by assumption) (by assumption) (by assumption) (by assumption) (by assumption) ?_); clear F' N'; intro _ _ _ F' N')
  k_with "my call builtin:min" => (k_here; (with_reducible show wpAny _ _ (call _ [Value.float (q _) _, Value.float (q _) _, Value.float (q _) _]) _ _ _); (rename News _ _ _ _ => N'); (rename Fr _ _ _ _ => F'); with_unfolding_all (refine min3_e (by rfl) F' N' (by assumption) (by assumption) (by assumption) (by assumption) (by assumption) (by assumption) (by assumption) ?_); clear F' N'; intro _ _ _ F' N')
  k_with "my binaryOp Add float float" => ((with_reducible show wpAny _ _ (binaryOp _ (Value.float (q _) _) (Value.float (q _) _)) _ _ _); (refine add_qq (by omega) (by omega) (by omega) ?_); try dsimp only)
  k_with "my binaryOp Sub float float" => ((with_reducible show wpAny _ _ (binaryOp _ (Value.float (q _) _) (Value.float (q _) _)) _ _ _); (refine sub_qq (by omega) (by omega) (by omega) ?_); try dsimp only)
  k_with "my binaryOp Div float float" => ((with_reducible show wpAny _ _ (binaryOp _ (Value.float _ _) (Value.float (q _) _)) _ _ _); with_plain (refine div_by rfl (nz_q (by omega) (by omega)) ?_); try dsimp only)
  k_with "my binaryOp Div float float" => ((with_reducible show wpAny _ _ (binaryOp _ (Value.float _ _) (Value.float (Float64.sub (Float64.sub _ (q _)) (q _)) _)) _ _ _); with_plain (refine div_by rfl (nz_s (by omega) (by omega) (by omega) (by omega)) ?_); try dsimp only)
  k_with "my compareOp Eq float float" => ((with_reducible show wpAny _ _ (compareOp _ (Value.float (q _) _) (Value.float (q _) _)) _ _ _); (refine eq_qq (by omega) (by omega) (by omega) (by omega) ?_); try dsimp only)
  k_fill
  intros
  rename_i hpre _ _ hret
  obtain ⟨e1, e2, a1, a2, b1, b2, c1, c2, hlt⟩ := hpre
  obtain ⟨lo1, hi1, ah, bh, ch, la, lb, lc, hhi, hlo⟩ := mm_facts e1 e2 a1 a2 b1 b2 c1 c2
  refine wpAny_call ?_
  k_dflt cell_enter
  k_steps
  all_goals (rename Fr _ _ _ _ => kF9; rename News _ _ _ _ => kN9; refine hret _ _ _ _ (hls_end ?_ rfl ?_ (by assumption)) kF9 kN9)
  all_goals first
    | exact hue_1 (by assumption)
    | exact hue_2 (by assumption) (by assumption)
    | exact hue_3 (by assumption) (by assumption)
    | exact share_1 (by assumption)
    | exact share_2 (by assumption)
def Hls0P (n : Int) (news : List (Addr × Obj)) (v : Value) (nx : List (Addr × Obj)) : Prop :=
  ∃ (p : Addr) (t₁ t₂ t₃ : Tok), v = .ref p ∧ nx = (p, tupO #[.float 0 t₁, .float (lF (n + n)) t₂, .float 0 t₃]) :: news ∧ (∀ q ∈ news, q.1 < p)
theorem hls0_end {n : Int} {p : Addr} {y : UInt64} {t₁ t₂ t₃ : Tok} {news : List (Addr × Obj)} (hy : y = lF (n + n)) (hl : ∀ q ∈ news, q.1 < p) :
    Hls0P n news (.ref p) ((p, tupO #[.float 0 t₁, .float y t₂, .float 0 t₃]) :: news) := by
  subst hy
  exact ⟨p, t₁, t₂, t₃, rfl, rfl, hl⟩
theorem eq_same {prog : Program} {w : World} {A : Around} {E : Value → Shared → Prop} {s : Shared} {Q : Value → Shared → Prop} {x : Int} {t u : Tok} (h1 : 1 ≤ x) (h2 : x ≤ 31) (h : Q (.bool true) s) : wpAny (model prog w) A (compareOp .Eq (.float (q x) t) (.float (q x) u)) Q E s :=
  eq_qq h1 h2 h1 h2 (by rw [decide_eq_true rfl]; exact h)
theorem mm_same (n : Int) : max3 n n n = n ∧ min3 n n n = n := by unfold max3 min3; simp
set_option maxHeartbeats 8000000 in
theorem hls0_c (w : World) (n : Int) (ta tb tc : Tok) : CW w 1 78 (fun _ => 1 ≤ n ∧ n ≤ 31) [.float (q n) ta, .float (q n) tb, .float (q n) tc] (Hls0P n) := by
  unfold CW
  w_top off
  k_with_none
  k_with "my call builtin:max" => (k_here; (with_reducible show wpAny _ _ (call _ [Value.float (q _) _, Value.float (q _) _, Value.float (q _) _]) _ _ _); (rename News _ _ _ _ => N'); (rename Fr _ _ _ _ => F'); with_unfolding_all (refine max3_e (by rfl) F' N' (by assumption) (by assumption) (by assumption) (by assumption) (by assumption) (by assumption) (by assumption) ?_); clear F' N'; intro _ _ _ F' N')
  k_with "my call builtin:min" => (k_here; (with_reducible show wpAny _ _ (call _ [Value.float (q _) _, Value.float (q _) _, Value.float (q _) _]) _ _ _); (rename News _ _ _ _ => N'); (rename Fr _ _ _ _ => F'); with_unfolding_all (refine min3_e (by rfl) F' N' (by assumption) (by assumption) (by assumption) (by assumption) (by assumption) (by assumption) (by assumption) ?_); clear F' N'; intro _ _ _ F' N')
  k_with "my binaryOp Add float float" => ((with_reducible show wpAny _ _ (binaryOp _ (Value.float (q _) _) (Value.float (q _) _)) _ _ _); (refine add_qq (by omega) (by omega) (by omega) ?_); try dsimp only)
  k_with "my binaryOp Sub float float" => ((with_reducible show wpAny _ _ (binaryOp _ (Value.float (q _) _) (Value.float (q _) _)) _ _ _); (refine sub_qq (by omega) (by omega) (by omega) ?_); try dsimp only)
  k_with "my binaryOp Div float float" => ((with_reducible show wpAny _ _ (binaryOp _ (Value.float _ _) (Value.float (q _) _)) _ _ _); with_plain (refine div_by rfl (nz_q (by omega) (by omega)) ?_); try dsimp only)
  k_with "my binaryOp Div float float" => ((with_reducible show wpAny _ _ (binaryOp _ (Value.float _ _) (Value.float (Float64.sub (Float64.sub _ (q _)) (q _)) _)) _ _ _); with_plain (refine div_by rfl (nz_s (by omega) (by omega) (by omega) (by omega)) ?_); try dsimp only)
  k_with "my compareOp Eq float float" => ((with_reducible show wpAny _ _ (compareOp _ (Value.float (q _) _) (Value.float (q _) _)) _ _ _); (refine eq_qq (by omega) (by omega) (by omega) (by omega) ?_); try dsimp only)
  k_with "my compareOp Eq float float" => (refine eq_same (by assumption) (by assumption) ?_)
  k_fill
  intros
  rename_i hpre _ _ hret
  obtain ⟨a1, a2⟩ := hpre
  obtain ⟨e1, e2⟩ := mm_same n
  refine wpAny_call ?_
  k_dflt cell_enter
  k_steps
  all_goals (rename Fr _ _ _ _ => kF9; rename News _ _ _ _ => kN9; refine hret _ _ _ _ (hls0_end rfl (by assumption)) kF9 kN9)
end Mine
end PartH1
section PartZ1
open PySem PySem.W PyProof.Rows
namespace Mine
set_option maxRecDepth 100000
/-! A loop over zip(t, l), t a tuple, l a list at least as long: the library has two lists alone. -/
section
variable {prog : Program} {w : World} {A : Around} {E : Value → Shared → Prop} {s : Shared}
theorem nextOf_tup {it t : Addr} {i : Nat} {items : Array Value} {x : Value} {Q : Value → Shared → Prop} (hit : s.heap.IsTupleIter it t i) (ht : s.heap.IsTuple t items) (hx : items[i]? = some x)
    (hQ : ∀ h', h'.IsTupleIter it t (i + 1) → Heap.SameBut it s.heap h' → Q x { s with heap := h' }) :
    wpAny (model prog w) A (Builtin.SmallTypes.nextOf (.ref it)) Q E s := by
  obtain ⟨o, ho, hc, hd⟩ := id hit
  obtain ⟨ol, hol, _, nl, hdl⟩ := ht
  unfold Builtin.SmallTypes.nextOf
  refine wpAny_bind (wpAny_callSpecial?_slot (name := Str.ofString "__next__") hit.typeIs F.slot_tuple_iterator_next
    (wpAny_call_entry F.slot_tuple_iterator_next hit.typeIs F.entry_tuple_iterator_next ?_ (F.args_tuple_iterator_next_1 _)))
  show wpAny _ _ (field (.ref it) 0 >>= _) _ _ s
  refine wpAny_bind (wpAny_field ho hd (x := .ref t) rfl ?_)
  show wpAny _ _ (if (Value.ref t == Value.none) = true then _ else _) _ _ s
  rw [if_neg (show ¬ ((Value.ref t == Value.none) = true) from Bool.false_ne_true)]
  show wpAny _ _ (field (.ref it) 1 >>= _) _ _ s
  refine wpAny_bind (wpAny_field ho hd (x := .int i 0) rfl ?_)
  show wpAny _ _ (seqItems? (.ref t) >>= _) _ _ s
  refine wpAny_bind (wpAny_seqItems hol hdl ?_)
  simp only [Int.toNat_natCast, hx]
  refine wpAny_bind (wpAny_setField ho hd (by simp) (wpAny_pure ⟨x, rfl, wpAny_pure (hQ _ ?_ (Heap.SameBut.update ..))⟩))
  exact ⟨_, Heap.get?_update_self _ ho (Obj.isFreed_of_fields (Obj.data_mapFields hd _)), (Obj.cls_mapFields ..).trans hc, by
    rw [Obj.data_mapFields hd]; simp [rawInt]⟩
theorem nextOf_tup_end {it t : Addr} {i : Nat} {items : Array Value} {Q : Value → Shared → Prop} (hh : A.handled = none) (hit : s.heap.IsTupleIter it t i) (ht : s.heap.IsTuple t items) (hx : items[i]? = none)
    (hE : ∀ h' e, Heap.ExtBut it s.heap h' → (∃ o, h'.get? e = some o ∧ o.cls = .type "StopIteration") → E (.ref e) { s with heap := h' }) :
    wpAny (model prog w) A (Builtin.SmallTypes.nextOf (.ref it)) Q E s := by
  obtain ⟨o, ho, hc, hd⟩ := id hit
  obtain ⟨ol, hol, _, nl, hdl⟩ := ht
  unfold Builtin.SmallTypes.nextOf
  refine wpAny_bind (wpAny_callSpecial?_slot (name := Str.ofString "__next__") hit.typeIs F.slot_tuple_iterator_next
    (wpAny_call_entry F.slot_tuple_iterator_next hit.typeIs F.entry_tuple_iterator_next ?_ (F.args_tuple_iterator_next_1 _)))
  show wpAny _ _ (field (.ref it) 0 >>= _) _ _ s
  refine wpAny_bind (wpAny_field ho hd (x := .ref t) rfl ?_)
  show wpAny _ _ (if (Value.ref t == Value.none) = true then _ else _) _ _ s
  rw [if_neg (show ¬ ((Value.ref t == Value.none) = true) from Bool.false_ne_true)]
  show wpAny _ _ (field (.ref it) 1 >>= _) _ _ s
  refine wpAny_bind (wpAny_field ho hd (x := .int i 0) rfl ?_)
  show wpAny _ _ (seqItems? (.ref t) >>= _) _ _ s
  refine wpAny_bind (wpAny_seqItems hol hdl ?_)
  simp only [Int.toNat_natCast, hx]
  refine wpAny_bind (wpAny_rule (wpAny_bind (wpAny_setField ho hd (by simp) ?_)))
  show wpAny _ _ (newExc (.type "StopIteration") [] >>= _) _ _ _
  refine wpAny_bind ?_
  simp only [newExc, newTuple]
  refine wpAny_bind (wpAny_newObj_type ?_ (by size_fits))
  refine wpAny_bind (m := firstArgMember _ _) (wpAny_of_eq (a := Value.none) (by first | rfl | (simp only [firstArgMember]; rfl)) ?_)
  refine wpAny_newObj_type ?_ (by size_fits)
  simp only [raiseNew]
  refine wpAny_bind (wpAny_handled ?_)
  first | rw [show A.in1.handled = none from hh] | rw [hh]
  refine wpAny_bind (wpAny_pure (wpAny_throw ?_))
  exact hE _ _ (((Heap.SameBut.update ..).extBut.push _).push _) ⟨_, Heap.get?_push_size _ rfl, rfl⟩
/-- where the zip's objects stand -/
def ZSt (z TI TO i1 i2 l1 l2 : Addr) (xs ys : Array Value) (f : Value) (k : Nat) (h : Heap) : Prop :=
  IsZip h z TI TO f ∧ IsPair h TI (.ref i1) (.ref i2) ∧ (∃ a b, IsPair h TO a b) ∧ h.IsTupleIter i1 l1 k ∧ h.IsListIter i2 l2 k ∧ h.IsTuple l1 xs ∧ h.IsList l2 ys
theorem zsome {z TI TO i1 i2 l1 l2 : Addr} {k : Nat} {xs ys : Array Value} {x y : Value} {Q : Value → Shared → Prop} (D : ZipApart z TI TO i1 i2 l1 l2) (hS : ZSt z TI TO i1 i2 l1 l2 xs ys .none k s.heap) (hx : xs[k]? = some x) (hy : ys[k]? = some y)
    (hQ : ∀ h', ZSt z TI TO i1 i2 l1 l2 xs ys (rawInt s.heap.objs.size) (k + 1) h' → IsPair h' s.heap.objs.size x y → (∀ c o, c ≠ z → c ≠ TO → c ≠ i1 → c ≠ i2 → s.heap.get? c = some o → h'.get? c = some o) → Q (.ref s.heap.objs.size) { s with heap := h' }) :
    wpAny (model prog w) A (Builtin.«zip.__next__» ⟨[.ref z], []⟩) (fun fin s' => ∃ v, fin = .done (.ret v) ∧ Q v s') E s := by
  obtain ⟨hz, hTI, ⟨a, b, hTO⟩, h1, h2, hl1, hl2⟩ := hS
  show wpAny _ _ (field (.ref z) 2 >>= _) _ _ _
  refine wpAny_bind (wpAny_field hz rfl (x := .bool false) rfl ?_)
  show wpAny _ _ (field (.ref z) 3 >>= _) _ _ _
  refine wpAny_bind (wpAny_field hz rfl (x := .ref TI) rfl ?_)
  refine wpAny_bind (wpAny_seqItems hTI rfl ?_)
  show wpAny _ _ (Builtin.SmallTypes.ownedTupleIsFree (.ref z) >>= _) _ _ _
  refine wpAny_bind ?_
  unfold Builtin.SmallTypes.ownedTupleIsFree
  refine wpAny_bind (wpAny_field hz rfl (x := .none) rfl (wpAny_pure ?_))
  simp only [if_true]
  refine wpAny_bind (wpAny_rule ?_)
  refine wpAny_bind (wpAny_field hz rfl (x := .ref TO) rfl ?_)
  refine wpAny_bind (wpAny_setField_rec hz (by simp) fun g1 z1 s1 => ?_)
  refine wpAny_bind ?_
  simp only [List.zipIdx_cons, List.zipIdx_nil, List.forIn_cons, List.forIn_nil]
  refine wpAny_bind (wpAny_bind (wpAny_onRaise ?_))
  show wpAny _ _ (Builtin.SmallTypes.nextOf (.ref i1) >>= _) _ _ _
  refine wpAny_bind (nextOf_tup (h1.extBut s1.extBut D.i1z) (hl1.extBut s1.extBut D.l1z) hx fun g2 u1 s2 => wpAny_pure ?_)
  have o2 : IsPair g2 TO a b := s2.extBut _ _ D.TOi1 (s1.extBut _ _ D.TOz hTO)
  refine wpAny_bind (wpAny_seqItems o2 rfl ?_)
  refine wpAny_bind (wpAny_updateSeq_pair o2 fun g3 o3 s3 => ?_)
  replace o3 : IsPair g3 TO x b := o3
  refine wpAny_bind (wpAny_letGo (wpAny_pure ?_))
  refine wpAny_bind (wpAny_bind (wpAny_onRaise ?_))
  show wpAny _ _ (Builtin.SmallTypes.nextOf (.ref i2) >>= _) _ _ _
  refine wpAny_bind (wpAny_nextOf_list_item (((h2.extBut s1.extBut D.i2z).extBut s2.extBut D.i12.symm).extBut s3.extBut D.TOi2.symm)
    (((hl2.extBut s1.extBut D.l2z).extBut s2.extBut D.l2i1).extBut s3.extBut D.l2TO) hy fun g4 u2 s4 => wpAny_pure ?_)
  have o4 : IsPair g4 TO x b := s4.extBut _ _ D.TOi2 o3
  refine wpAny_bind (wpAny_seqItems o4 rfl ?_)
  refine wpAny_bind (wpAny_updateSeq_pair o4 fun g5 o5 s5 => ?_)
  replace o5 : IsPair g5 TO x y := o5
  refine wpAny_bind (wpAny_letGo (wpAny_pure (wpAny_pure ?_)))
  refine wpAny_bind (wpAny_seqItems o5 rfl ?_)
  refine wpAny_bind (wpAny_newTuple ?_)
  have sz : g5.objs.size = s.heap.objs.size := by rw [s5.1, s4.1, s3.1, s2.1, s1.1]
  have keep : ∀ c o, c ≠ z → c ≠ TO → c ≠ i1 → c ≠ i2 → s.heap.get? c = some o → g5.get? c = some o := fun c o c1 c2 c3 c4 e =>
    s5.extBut _ _ c2 (s4.extBut _ _ c4 (s3.extBut _ _ c2 (s2.extBut _ _ c3 (s1.extBut _ _ c1 e))))
  replace z1 : IsZip g1 z TI TO .ellipsis := z1
  have z5 : IsZip g5 z TI TO .ellipsis := s5.extBut _ _ D.TOz.symm (s4.extBut _ _ D.i2z.symm (s3.extBut _ _ D.TOz.symm (s2.extBut _ _ D.i1z.symm z1)))
  have u1' : g5.IsTupleIter i1 l1 (k + 1) := ((u1.extBut s3.extBut D.TOi1.symm).extBut s4.extBut D.i12).extBut s5.extBut D.TOi1.symm
  have u2' : g5.IsListIter i2 l2 (k + 1) := u2.extBut s5.extBut D.TOi2.symm
  have zlt : z < g5.objs.size := Heap.lt_size z5
  show wpAny _ _ (Builtin.SmallTypes.ownedTupleHandOut (.ref z) (.ref g5.objs.size) >>= _) _ _ _
  refine wpAny_bind ?_
  unfold Builtin.SmallTypes.ownedTupleHandOut
  have z6 : IsZip (g5.push { cls := .type "tuple", data := .seq #[x, y] }) z TI TO .ellipsis := Heap.get?_push_of_some _ z5
  refine wpAny_bind (wpAny_setField_rec z6 (by simp) fun g7 z7 s7 => ?_)
  replace z7 : IsZip g7 z TI TO (rawInt g5.objs.size) := z7
  refine wpAny_setField_rec z7 (by simp) fun g8 z8 s8 => ?_
  replace z8 : IsZip g8 z TI TO (rawInt g5.objs.size) := z8
  have up : ∀ c o, c ≠ z → g5.get? c = some o → g8.get? c = some o := fun c o c1 e => s8.extBut _ _ c1 (s7.extBut _ _ c1 (Heap.get?_push_of_some _ e))
  have t8 : IsPair g8 g5.objs.size x y := s8.extBut _ _ (Nat.ne_of_gt zlt) (s7.extBut _ _ (Nat.ne_of_gt zlt) (Heap.get?_push_size _ rfl))
  rw [sz] at z8 t8
  refine wpAny_pure ⟨_, rfl, ?_⟩
  show Q (.ref g5.objs.size) _
  rw [sz]
  refine hQ g8 ⟨z8, up _ _ D.TIz (keep _ _ D.TIz D.TITO D.TIi1 D.TIi2 hTI), ⟨_, _, up _ _ D.TOz o5⟩, u1'.at fun o e => up _ o D.i1z e, u2'.at fun o e => up _ o D.i2z e, ?_, ?_⟩ t8 fun c o c1 c2 c3 c4 e => up c o c1 (keep c o c1 c2 c3 c4 e)
  · obtain ⟨o, ho, r⟩ := hl1
    exact ⟨o, up _ _ D.l1z (keep _ _ D.l1z D.l1TO D.l1i1 D.l1i2 ho), r⟩
  · exact hl2.at fun o e => up _ o D.l2z (keep _ o D.l2z D.l2TO D.l2i1 D.l2i2 e)
theorem znone {z TI TO i1 i2 l1 l2 : Addr} {k : Nat} {xs ys : Array Value} {Q : Fin → Shared → Prop} (hh : A.handled = none) (D : ZipApart z TI TO i1 i2 l1 l2) (hS : ZSt z TI TO i1 i2 l1 l2 xs ys .none k s.heap) (hx : xs[k]? = none)
    (hE : ∀ h' e, (∀ c o, c ≠ z → c ≠ TO → c ≠ i1 → c ≠ i2 → s.heap.get? c = some o → h'.get? c = some o) → (∃ o, h'.get? e = some o ∧ o.cls = .type "StopIteration") → E (.ref e) { s with heap := h' }) :
    wpAny (model prog w) A (Builtin.«zip.__next__» ⟨[.ref z], []⟩) Q E s := by
  obtain ⟨hz, hTI, ⟨a, b, hTO⟩, h1, h2, hl1, hl2⟩ := hS
  show wpAny _ _ (field (.ref z) 2 >>= _) _ _ _
  refine wpAny_bind (wpAny_field hz rfl (x := .bool false) rfl ?_)
  show wpAny _ _ (field (.ref z) 3 >>= _) _ _ _
  refine wpAny_bind (wpAny_field hz rfl (x := .ref TI) rfl ?_)
  refine wpAny_bind (wpAny_seqItems hTI rfl ?_)
  show wpAny _ _ (Builtin.SmallTypes.ownedTupleIsFree (.ref z) >>= _) _ _ _
  refine wpAny_bind ?_
  unfold Builtin.SmallTypes.ownedTupleIsFree
  refine wpAny_bind (wpAny_field hz rfl (x := .none) rfl (wpAny_pure ?_))
  simp only [if_true]
  refine wpAny_bind (wpAny_rule ?_)
  refine wpAny_bind (wpAny_field hz rfl (x := .ref TO) rfl ?_)
  refine wpAny_bind (wpAny_setField_rec hz (by simp) fun g1 z1 s1 => ?_)
  replace z1 : IsZip g1 z TI TO .ellipsis := z1
  refine wpAny_bind ?_
  simp only [List.zipIdx_cons, List.zipIdx_nil, List.forIn_cons, List.forIn_nil]
  refine wpAny_bind (wpAny_bind (wpAny_onRaise ?_))
  show wpAny _ _ (Builtin.SmallTypes.nextOf (.ref i1) >>= _) _ _ _
  refine wpAny_bind (nextOf_tup_end hh (h1.extBut s1.extBut D.i1z) (hl1.extBut s1.extBut D.l1z) hx fun g2 e s2 he => ?_)
  obtain ⟨oe, hoe, hce⟩ := he
  have z2 : IsZip g2 z TI TO .ellipsis := s2 _ _ D.i1z.symm z1
  have hez : e ≠ z := fun x => by subst x; rw [z2] at hoe; cases hoe; simp at hce
  refine wpAny_setField_rec z2 (by simp) fun g3 _ s3 => hE g3 e (fun c o c1 _ c3 _ x => s3.extBut _ _ c1 (s2 _ _ c3 (s1.extBut _ _ c1 x))) ⟨oe, s3.extBut _ _ hez hoe, hce⟩
end
end Mine
end PartZ1
section PartZ2
open PySem PySem.W PyProof.Rows
namespace Mine
set_option maxRecDepth 100000
abbrev zp1 (h : Heap) (l1 : Addr) : Heap := h.push { cls := .type "tuple_iterator", data := .fields #[.ref l1, .int 0 0] }
abbrev zp2 (h : Heap) (l1 l2 : Addr) : Heap := (zp1 h l1).push { cls := .type "list_iterator", data := .fields #[.ref l2, .int 0 0] }
abbrev zp3 (h : Heap) (l1 l2 : Addr) : Heap := (zp2 h l1 l2).push { cls := .type "tuple", data := .seq #[.ref h.objs.size, .ref (zp1 h l1).objs.size] }
abbrev zp4 (h : Heap) (l1 l2 : Addr) : Heap := (zp3 h l1 l2).push { cls := .type "tuple", data := .seq #[.none, .none] }
abbrev zp5 (h : Heap) (l1 l2 : Addr) : Heap := (zp4 h l1 l2).push { cls := .type "zip", data := .fields #[.none, .bool false, .bool false, .ref (zp2 h l1 l2).objs.size, .ref (zp3 h l1 l2).objs.size] }
theorem meets_zp (l1 l2 : Addr) (xs ys : Array Value) :
    Meets (Builtin.«zip.__new__» ⟨[.type "zip", .ref l1, .ref l2], []⟩) (fun _ R s => s.heap.IsTuple l1 xs ∧ s.heap.IsList l2 ys ∧
      R (.ok (.ret (.ref (zp4 s.heap l1 l2).objs.size))) { s with heap := zp5 s.heap l1 l2 }) :=
  .of_wp fun prog w A R s h => by
    obtain ⟨hp, g, d, tk, os⟩ := s; obtain ⟨hl1, hl2, h⟩ := h
    have hsub := sub_zip
    have hL1 : Heap.IsTuple (Shared.heap ⟨hp, g, d, tk, os⟩) l1 xs := hl1
    have hL2 : Heap.IsList (Shared.heap ⟨hp.push { cls := .type "tuple_iterator", data := .fields #[.ref l1, .int 0 0] }, g, d, tk, os⟩) l2 ys := Heap.IsList.push hl2 _
    wp_walk using wpAny_pyIter_tuple hL1, wpAny_pyIter_list hL2
    exact ⟨_, rfl, h⟩
section
variable {prog : Program} {w : World} {A : Around} {E : Value → Shared → Prop} {s : Shared}
theorem call_zp {l1 l2 : Addr} {xs ys : Array Value} {Q : Value → Shared → Prop} (hl1 : s.heap.IsTuple l1 xs) (hl2 : s.heap.IsList l2 ys)
    (h : ∀ h', ZSt (s.heap.objs.size + 4) (s.heap.objs.size + 2) (s.heap.objs.size + 3) s.heap.objs.size (s.heap.objs.size + 1) l1 l2 xs ys .none 0 h' →
      (∀ c o, s.heap.get? c = some o → h'.get? c = some o) → Q (.ref (s.heap.objs.size + 4)) { s with heap := h' }) :
    wpAny (model prog w) A (call (.type "zip") [.ref l1, .ref l2]) Q E s := by
  refine callType_new F.called_zip (by decide) (F.typeCall_zip_2 _ _) (F.newCall_zip_2 _ _) (fun obj => F.args_object_init_3 obj _ _) F.entry_zip_new
    (meets_zp l1 l2 xs ys) ⟨hl1, hl2, ?_⟩
  have y1 : (zp1 s.heap l1).objs.size = s.heap.objs.size + 1 := Heap.size_push ..
  have y2 : (zp2 s.heap l1 l2).objs.size = s.heap.objs.size + 2 := by rw [Heap.size_push, y1]
  have y3 : (zp3 s.heap l1 l2).objs.size = s.heap.objs.size + 3 := by rw [Heap.size_push, y2]
  have y4 : (zp4 s.heap l1 l2).objs.size = s.heap.objs.size + 4 := by rw [Heap.size_push, y3]
  have up4 : ∀ c o, (zp4 s.heap l1 l2).get? c = some o → (zp5 s.heap l1 l2).get? c = some o := fun c o e => Heap.get?_push_of_some _ e
  have up3 : ∀ c o, (zp3 s.heap l1 l2).get? c = some o → (zp5 s.heap l1 l2).get? c = some o := fun c o e => up4 c o (Heap.get?_push_of_some _ e)
  have up2 : ∀ c o, (zp2 s.heap l1 l2).get? c = some o → (zp5 s.heap l1 l2).get? c = some o := fun c o e => up3 c o (Heap.get?_push_of_some _ e)
  have up1 : ∀ c o, (zp1 s.heap l1).get? c = some o → (zp5 s.heap l1 l2).get? c = some o := fun c o e => up2 c o (Heap.get?_push_of_some _ e)
  have up0 : ∀ c o, s.heap.get? c = some o → (zp5 s.heap l1 l2).get? c = some o := fun c o e => up1 c o (Heap.get?_push_of_some _ e)
  have p5 : (zp5 s.heap l1 l2).get? (zp4 s.heap l1 l2).objs.size = some _ := Heap.get?_push_size _ rfl
  have p4 : (zp5 s.heap l1 l2).get? (zp3 s.heap l1 l2).objs.size = some _ := up4 _ _ (Heap.get?_push_size _ rfl)
  have p3 : (zp5 s.heap l1 l2).get? (zp2 s.heap l1 l2).objs.size = some _ := up3 _ _ (Heap.get?_push_size _ rfl)
  have p2 : (zp5 s.heap l1 l2).get? (zp1 s.heap l1).objs.size = some _ := up2 _ _ (Heap.get?_push_size _ rfl)
  have p1 : (zp5 s.heap l1 l2).get? s.heap.objs.size = some _ := up1 _ _ (Heap.get?_push_size _ rfl)
  show _ ∧ _
  rw [y2, y3, y4] at p5
  rw [y1, y2] at p3
  rw [y3] at p4
  rw [y1] at p2
  rw [y4]
  refine ⟨⟨_, p5, rfl⟩, h _ ⟨p5, p3, ⟨_, _, p4⟩, ⟨_, p1, rfl, rfl⟩, ⟨_, p2, rfl, rfl⟩, ?_, hl2.at fun o e => up0 _ o e⟩ up0⟩
  obtain ⟨o, ho, r⟩ := hl1
  exact ⟨o, up0 _ _ ho, r⟩
theorem WalksT.zp (hh : A.handled = none) (z TI TO i1 i2 l1 l2 : Addr) (D : ZipApart z TI TO i1 i2 l1 l2) (xs ys : Array Value) (hle : xs.size ≤ ys.size) :
    WalksT prog w A z [z, TI, TO, i1, i2, l1, l2] [z, TO, i1, i2] xs.size
      (fun i vals => ∃ x y, xs[i]? = some x ∧ ys[i]? = some y ∧ vals = #[x, y])
      (fun i h => ZSt z TI TO i1 i2 l1 l2 xs ys .none i h)
      (fun i T h => ZSt z TI TO i1 i2 l1 l2 xs ys (rawInt T) (i + 1) h ∧ T ≠ z ∧ T ≠ TO ∧ T ≠ i1 ∧ T ≠ i2) where
  sub := fun c hc => by simp at hc ⊢; rcases hc with rfl | rfl | rfl | rfl <;> simp
  frame := fun i h h' hst hk => by
    obtain ⟨hz, hTI, ⟨a, b, hTO⟩, h1, h2, hl1, hl2⟩ := hst
    refine ⟨hk z (by simp) _ hz, hk TI (by simp) _ hTI, ⟨a, b, hk TO (by simp) _ hTO⟩, h1.at fun o e => hk i1 (by simp) o e, h2.at fun o e => hk i2 (by simp) o e, ?_, hl2.at fun o e => hk l2 (by simp) o e⟩
    obtain ⟨o, ho, r⟩ := hl1
    exact ⟨o, hk l1 (by simp) o ho, r⟩
  item := fun i s Q E hi hst hQ => by
    have hix : i < xs.size := hi
    have hiy : i < ys.size := Nat.lt_of_lt_of_le hi hle
    have hT : s.TypeIs (.ref z) "zip" := ⟨_, hst.1, rfl⟩
    unfold pyNext
    refine wpAny_bind (wpAny_attempt (wpAny_callSpecial?_slot (name := Str.ofString "__next__") hT F.slot_zip_next (wpAny_call_entry F.slot_zip_next hT F.entry_zip_next
      (zsome D hst (Array.getElem?_eq_getElem hix) (Array.getElem?_eq_getElem hiy) fun h' a1 a5 hk => wpAny_pure ?_) (F.args_zip_next_1 _))))
    have lt : ∀ {c o}, s.heap.get? c = some o → s.heap.objs.size ≠ c := fun e => Nat.ne_of_gt (Heap.lt_size e)
    obtain ⟨hz, hTI, ⟨a, b, hTO⟩, h1, h2, hl1, hl2⟩ := hst
    exact hQ s.heap.objs.size #[xs[i], ys[i]] h' s.toks ⟨_, _, Array.getElem?_eq_getElem hix, Array.getElem?_eq_getElem hiy, rfl⟩ (Nat.le_refl _) ⟨_, a5, rfl, _, rfl⟩
      ⟨a1, lt hz, lt hTO, (by obtain ⟨_, e, _⟩ := h1; exact lt e), (by obtain ⟨_, e, _⟩ := h2; exact lt e)⟩
      fun c o hc e => hk c o (fun x => hc (by simp [x])) (fun x => hc (by simp [x])) (fun x => hc (by simp [x])) (fun x => hc (by simp [x])) e
  go := fun elts k pos i T s Q E hm hQ => by
    obtain ⟨⟨hz, hTI, ⟨a, b, hTO⟩, h1, h2, hl1, hl2⟩, _⟩ := hm
    refine wpAny_letOwnedTupleGo_zip hz fun h' hz' hs' => hQ h' ⟨hz', hs'.extBut _ _ D.TIz hTI, ⟨a, b, hs'.extBut _ _ D.TOz hTO⟩, h1.extBut hs'.extBut D.i1z, h2.extBut hs'.extBut D.i2z,
      hl1.extBut hs'.extBut D.l1z, hl2.extBut hs'.extBut D.l2z⟩ fun c o hc e => hs'.extBut _ _ (fun x => hc (by simp [x])) e
  apart := fun i T h hm hT => by
    obtain ⟨_, t1, t2, t3, t4⟩ := hm
    simp at hT
    rcases hT with rfl | rfl | rfl | rfl
    · exact t1 rfl
    · exact t2 rfl
    · exact t3 rfl
    · exact t4 rfl
  done := fun s Q E hst hQ => by
    have hT : s.TypeIs (.ref z) "zip" := ⟨_, hst.1, rfl⟩
    unfold pyNext
    refine wpAny_bind (wpAny_attempt (wpAny_callSpecial?_slot (name := Str.ofString "__next__") hT F.slot_zip_next
      (wpAny_call_entry F.slot_zip_next hT F.entry_zip_next (znone hh D hst (Array.getElem?_eq_none (Nat.le_refl _)) fun h' e hk he => ?_) (F.args_zip_next_1 _))))
    obtain ⟨o, ho, hc⟩ := he
    refine wpAny_bind (wpAny_isInstance (T := "StopIteration") (b := true) ⟨o, ho, hc⟩ isSubtype_stop ?_)
    exact wpAny_pure (hQ h' s.toks fun c o hc e => hk c o (fun x => hc (by simp [x])) (fun x => hc (by simp [x])) (fun x => hc (by simp [x])) (fun x => hc (by simp [x])) e)
  self := fun i s Q E hst hQ => wpAny_pyIter_zip hst.1 hQ
end
section
variable {prog : Program} {w : World} {A : Around} {E : Value → Shared → Prop} {s : Shared} {env : Env} {h₀ : Heap} {body : List Stmt} {Q : Flow → Shared → Prop}
theorem zobj {h : Heap} {z TI TO : Addr} {f : Value} (hz : IsZip h z TI TO f) : ∃ o : Obj, h.get? z = some o ∧ o.cls = .type "zip" := ⟨_, hz, rfl⟩
theorem pobj {h : Heap} {T : Addr} {a b : Value} (hz : IsPair h T a b) : ∃ o : Obj, h.get? T = some o ∧ o.cls = .type "tuple" := ⟨_, hz, rfl⟩
theorem zp_turns {elts : List PySem.Expr} {k : Nat} {pos : Pos} {l1 l2 : Addr} {xs ys : List Value} {n1 n2 : Nat} {m₀ : PySem.Str → Option Value} {news : List (Addr × Obj)}
    (hh : A.handled = none) (F : Fr h₀ env.locals s.heap m₀) (N : News h₀ env.locals s.heap news) (hm1 : (l1, ({ cls := .type "tuple", data := .seq xs.toArray n1 } : Obj)) ∈ news) (hm2 : (l2, ({ cls := .type "list", data := .seq ys.toArray n2 } : Obj)) ∈ news) (hle : xs.length ≤ ys.length)
    (rest₀ : ∀ I : Addr, (∀ p ∈ news, p.1 < I) → ItemsRest prog w A E h₀ env (.Tuple elts k pos) body Q s [(I + 4, "zip"), (I + 2, "tuple"), (I + 3, "tuple"), (I, "tuple_iterator"), (I + 1, "list_iterator")] [(l1, { cls := .type "tuple", data := .seq xs.toArray n1 }), (l2, { cls := .type "list", data := .seq ys.toArray n2 })] (zipItems xs ys) m₀ news) :
    wpAny (model prog w) A (call (.type "zip") [.ref l1, .ref l2]) (fun xv s₁ => wpAny (model prog w) A (pyIter xv) (fun it s₂ => TurnsAt prog w A h₀ env (.Tuple elts k pos) body Q E it s₂) E s₁) E s := by
  have a1 := N _ hm1
  have a2 := N _ hm2
  have hl1 : s.heap.IsTuple l1 xs.toArray := ⟨_, a1.1, rfl, n1, rfl⟩
  have hl2 : s.heap.IsList l2 ys.toArray := ⟨_, a2.1, rfl, n2, rfl⟩
  have b1 : l1 < s.heap.objs.size := Heap.lt_size a1.1
  have b2 : l2 < s.heap.objs.size := Heap.lt_size a2.1
  have bL : env.locals < s.heap.objs.size := F.ns.lt
  have D : ZipApart (s.heap.objs.size + 4) (s.heap.objs.size + 2) (s.heap.objs.size + 3) s.heap.objs.size (s.heap.objs.size + 1) l1 l2 := ktu_apart _ _ _ b1 b2
  refine call_zp hl1 hl2 fun h' hS hk => ?_
  refine wpAny_pyIter_zip hS.1 ?_
  refine ktu_core (tk0 := s.toks) (keep := [(l1, _), (l2, _)]) (KTurns.ofWalksU (WalksT.zp hh _ _ _ _ _ _ _ D xs.toArray ys.toArray (by simpa using hle)).toU) (by simp [zipItems_length]; omega) ?_ ?_ ?_ ?_ ?_ ?_ ?_ hS (F.keeps hk) (N.grown hk) (And.intro hm1 (And.intro hm2 trivial)) (rest₀ _ fun p hp => Heap.lt_size (N p hp).1)
  · rintro i v h ⟨T, vals, rfl, ⟨x, y, hx, hy, rfl⟩, hT⟩
    exact ⟨_, zipItems_get xs ys i (x := x) (y := y) (by simpa using hx) (by simpa using hy), T, 0, rfl, hT⟩
  · rintro i h ⟨hz, hTI, ⟨a, b, hTO⟩, ⟨o1, ho1, hc1, _⟩, ⟨o2, ho2, hc2, _⟩, _⟩
    obtain ⟨q1, g1, k1⟩ := zobj hz
    obtain ⟨q2, g2, k2⟩ := pobj hTI
    obtain ⟨q3, g3, k3⟩ := pobj hTO
    refine ⟨[(s.heap.objs.size + 4, q1), (s.heap.objs.size + 2, q2), (s.heap.objs.size + 3, q3), (s.heap.objs.size, o1), (s.heap.objs.size + 1, o2)], ⟨⟨rfl, k1⟩, ⟨rfl, k2⟩, ⟨rfl, k3⟩, ⟨rfl, hc1⟩, ⟨rfl, hc2⟩, trivial⟩, ?_⟩
    simp only [List.forall_mem_cons]
    exact ⟨g1, g2, g3, ho1, ho2, List.forall_mem_nil _⟩
  · intro b hb
    have hb' : b = s.heap.objs.size + 4 ∨ b = s.heap.objs.size + 2 ∨ b = s.heap.objs.size + 3 ∨ b = s.heap.objs.size ∨ b = s.heap.objs.size + 1 := by simpa using hb
    refine ⟨?_, ktu_new F ?_⟩
    · rcases hb' with rfl | rfl | rfl | rfl | rfl <;> simp
    · rcases hb' with rfl | rfl | rfl | rfl | rfl
      · exact Nat.le_add_right _ _
      · exact Nat.le_add_right _ _
      · exact Nat.le_add_right _ _
      · exact Nat.le_refl _
      · exact Nat.le_add_right _ _
  · intro b hb
    have hb' : b = s.heap.objs.size + 4 ∨ b = s.heap.objs.size + 3 ∨ b = s.heap.objs.size ∨ b = s.heap.objs.size + 1 := by simpa using hb
    rcases hb' with rfl | rfl | rfl | rfl <;> simp
  · intro b hb
    have hb' : b = s.heap.objs.size + 4 ∨ b = s.heap.objs.size + 2 ∨ b = s.heap.objs.size + 3 ∨ b = s.heap.objs.size ∨ b = s.heap.objs.size + 1 ∨ b = l1 ∨ b = l2 := by simpa using hb
    rcases hb' with rfl | rfl | rfl | rfl | rfl | rfl | rfl
    · exact .inl (by simp)
    · exact .inl (by simp)
    · exact .inl (by simp)
    · exact .inl (by simp)
    · exact .inl (by simp)
    · exact .inr ⟨_, List.mem_cons_self ..⟩
    · exact .inr ⟨_, List.mem_cons_of_mem _ (List.mem_cons_self ..)⟩
  · intro hI'
    have hb' : env.locals = s.heap.objs.size + 4 ∨ env.locals = s.heap.objs.size + 2 ∨ env.locals = s.heap.objs.size + 3 ∨ env.locals = s.heap.objs.size ∨ env.locals = s.heap.objs.size + 1 ∨ env.locals = l1 ∨ env.locals = l2 := by simpa using hI'
    have n1 := a1.2.1
    have n2 := a2.2.1
    rcases hb' with e | e | e | e | e | e | e
    · exact ktu_ne 4 bL e
    · exact ktu_ne 2 bL e
    · exact ktu_ne 3 bL e
    · exact Nat.ne_of_lt bL e
    · exact ktu_ne 1 bL e
    · exact n1 e.symm
    · exact n2 e.symm
  · intro p hp hI'
    have hb' : p.1 = s.heap.objs.size + 4 ∨ p.1 = s.heap.objs.size + 3 ∨ p.1 = s.heap.objs.size ∨ p.1 = s.heap.objs.size + 1 := by simpa using hI'
    have hlp := Heap.lt_size (N p hp).1
    rcases hb' with e | e | e | e
    · exact ktu_ne 4 hlp e
    · exact ktu_ne 3 hlp e
    · exact Nat.ne_of_lt hlp e
    · exact ktu_ne 1 hlp e
end
end Mine
end PartZ2
section PartT1
open PySem PySem.W PyProof.Rows
namespace Mine
set_option maxRecDepth 100000
def armF (a b c hi lo : Int) : Int := (kF a b c hi lo).fdiv (hi - lo)
def restF (a b c hi lo : Int) : Int := (kF a b c hi lo).fmod (hi - lo)
/-- where the three stand: hi, lo and the bounds -/
structure Three (a b c hi lo : Int) : Prop where
  lo1 : 1 ≤ lo
  lt : lo < hi
  hi1 : hi ≤ 31
  la : lo ≤ a
  ah : a ≤ hi
  lb : lo ≤ b
  bh : b ≤ hi
  lc : lo ≤ c
  ch : c ≤ hi
  hhi : a = hi ∨ b = hi ∨ c = hi
  hlo : a = lo ∨ b = lo ∨ c = lo
theorem arm_split {a b c hi lo : Int} (T : Three a b c hi lo) : ∃ A r : Int, armF a b c hi lo = A ∧ restF a b c hi lo = r ∧ 0 ≤ r ∧ r < hi - lo ∧
    ((A = 0 ∧ kF a b c hi lo = r) ∨ (A = 1 ∧ kF a b c hi lo = (hi - lo) + r) ∨ (A = 2 ∧ kF a b c hi lo = 2 * (hi - lo) + r) ∨ (A = 3 ∧ kF a b c hi lo = 3 * (hi - lo) + r) ∨ (A = 4 ∧ kF a b c hi lo = 4 * (hi - lo) + r) ∨ (A = 5 ∧ kF a b c hi lo = 5 * (hi - lo) + r)) := by
  obtain ⟨lo1, lt, hi1, la, ah, lb, bh, lc, ch, hhi, hlo⟩ := T
  have k0 : 0 ≤ kF a b c hi lo := by unfold kF; split; split <;> omega; split <;> omega
  have k6 : kF a b c hi lo < 6 * (hi - lo) := by unfold kF; split; split <;> omega; split <;> omega
  refine ⟨_, _, rfl, rfl, ?_⟩
  unfold armF restF
  rw [Int.fdiv_eq_ediv_of_nonneg _ (by omega), Int.fmod_eq_emod_of_nonneg _ (by omega)]
  generalize kF a b c hi lo = K at *
  have hs : 0 < hi - lo := by omega
  generalize hi - lo = sp at *
  have e := Int.mul_ediv_add_emod K sp
  have r0 := Int.emod_nonneg K (show sp ≠ 0 by omega)
  have r1 := Int.emod_lt_of_pos K hs
  have d0 : 0 ≤ K / sp := Int.ediv_nonneg k0 (by omega)
  have d6 : K / sp < 6 := Int.ediv_lt_of_lt_mul hs k6
  generalize K / sp = A at *
  generalize K % sp = r at *
  refine ⟨r0, r1, ?_⟩
  have : A = 0 ∨ A = 1 ∨ A = 2 ∨ A = 3 ∨ A = 4 ∨ A = 5 := by omega
  rcases this with rfl | rfl | rfl | rfl | rfl | rfl <;> omega
def midF (A r hi lo : Int) : Int := if A.fmod 2 = 1 then hi - r else lo + r
theorem told_ok {a b c hi lo : Int} (T : Three a b c hi lo) :
    ((([0, 0, 0] : List Int).set (ogF (armF a b c hi lo)).toNat hi).set (omF (armF a b c hi lo)).toNat (midF (armF a b c hi lo) (restF a b c hi lo) hi lo)).set (olF (armF a b c hi lo)).toNat lo = [a, b, c] := by
  obtain ⟨A, r, e1, e2, r0, r1, h⟩ := arm_split T
  obtain ⟨lo1, lt, hi1, la, ah, lb, bh, lc, ch, hhi, hlo⟩ := T
  rw [e1, e2]
  clear e1 e2
  rcases h with ⟨rfl, h⟩ | ⟨rfl, h⟩ | ⟨rfl, h⟩ | ⟨rfl, h⟩ | ⟨rfl, h⟩ | ⟨rfl, h⟩
  · show [hi, lo + r, lo] = [a, b, c]
    have : hi = a ∧ lo + r = b ∧ lo = c := by unfold kF at h; split at h; split at h <;> omega; split at h <;> omega
    obtain ⟨x, y, z⟩ := this; first | rw [x, y, z] | rw [z, x, y]
  · show [hi - r, hi, lo] = [a, b, c]
    have : hi - r = a ∧ hi = b ∧ lo = c := by unfold kF at h; split at h; split at h <;> omega; split at h <;> omega
    obtain ⟨x, y, z⟩ := this; first | rw [x, y, z] | rw [z, x, y]
  · show [lo, hi, lo + r] = [a, b, c]
    have : lo = a ∧ hi = b ∧ lo + r = c := by unfold kF at h; split at h; split at h <;> omega; split at h <;> omega
    obtain ⟨x, y, z⟩ := this; first | rw [x, y, z] | rw [z, x, y]
  · show [lo, hi - r, hi] = [a, b, c]
    have : lo = a ∧ hi - r = b ∧ hi = c := by unfold kF at h; split at h; split at h <;> omega; split at h <;> omega
    obtain ⟨x, y, z⟩ := this; first | rw [x, y, z] | rw [z, x, y]
  · show [lo + r, lo, hi] = [a, b, c]
    have : lo + r = a ∧ lo = b ∧ hi = c := by unfold kF at h; split at h; split at h <;> omega; split at h <;> omega
    obtain ⟨x, y, z⟩ := this; first | rw [x, y, z] | rw [z, x, y]
  · show [hi, lo, hi - r] = [a, b, c]
    have : hi = a ∧ lo = b ∧ hi - r = c := by unfold kF at h; split at h; split at h <;> omega; split at h <;> omega
    obtain ⟨x, y, z⟩ := this; first | rw [x, y, z] | rw [z, x, y]
def ReadP (a b c hi lo : Int) (news : List (Addr × Obj)) (v : Value) (nx : List (Addr × Obj)) : Prop :=
  ∃ (p tl : Addr) (u₁ u₂ u₃ t₁ t₂ : Tok), v = .ref p ∧ nx = (p, tupO #[.ref tl, .int (armF a b c hi lo) t₁, .int (restF a b c hi lo) t₂]) :: (tl, W.listOf #[.int a u₁, .int b u₂, .int c u₃] 0) :: news ∧ (∀ q ∈ news, q.1 < tl) ∧ @LT.lt Nat _ tl p
theorem ints_three {ws : List Value} {a b c : Int} (h : IntsAre ws [a, b, c]) : ∃ u₁ u₂ u₃, ws = [.int a u₁, .int b u₂, .int c u₃] := by
  obtain ⟨u₁, r₁, rfl, h₁⟩ := h.cons_inv
  obtain ⟨u₂, r₂, rfl, h₂⟩ := h₁.cons_inv
  obtain ⟨u₃, r₃, rfl, h₃⟩ := h₂.cons_inv
  rw [h₃.nil_inv]
  exact ⟨u₁, u₂, u₃, rfl⟩
theorem read_end {a b c hi lo A r : Int} {p tl : Addr} {ws : List Value} {ns : List Int} {t₁ t₂ : Tok} {news : List (Addr × Obj)} (hI : IntsAre ws ns) (e : ns = [a, b, c]) (hA : A = armF a b c hi lo) (hr : r = restF a b c hi lo) (h1 : ∀ q ∈ news, q.1 < tl) (h2 : @LT.lt Nat _ tl p) :
    ReadP a b c hi lo news (.ref p) ((p, tupO #[.ref tl, .int A t₁, .int r t₂]) :: (tl, W.listOf (List.toArray ws) 0) :: news) := by
  subst e; subst hA; subst hr
  obtain ⟨u₁, u₂, u₃, rfl⟩ := ints_three hI
  exact ⟨p, tl, u₁, u₂, u₃, t₁, t₂, rfl, rfl, h1, h2⟩
theorem told_e {a b c hi lo g m o mid : Int} (T : Three a b c hi lo) (eg : g = ogF (armF a b c hi lo)) (em : m = omF (armF a b c hi lo)) (eo : o = olF (armF a b c hi lo)) (hm : midF (armF a b c hi lo) (restF a b c hi lo) hi lo = mid) :
    ((([0, 0, 0] : List Int).set g.toNat hi).set m.toNat mid).set o.toNat lo = [a, b, c] := by
  subst eg; subst em; subst eo; subst hm
  exact told_ok T
theorem mid_1 {A r hi lo : Int} (h : A.fmod 2 = 1) : midF A r hi lo = hi - r := if_pos h
theorem mid_2 {A r hi lo : Int} (h : A.fmod 2 ≠ 1) : midF A r hi lo = lo + r := if_neg h
theorem rpick {h₀ h : Heap} {L : Addr} {a₀ a₁ a₂ a₃ a₄ a₅ a₆ a₇ : Addr × Obj} {news : List (Addr × Obj)} (N : News h₀ L h (a₀ :: a₁ :: a₂ :: a₃ :: a₄ :: a₅ :: a₆ :: a₇ :: news)) : News h₀ L h (a₀ :: a₃ :: news) := by
  intro p hp
  refine N p ?_
  simp only [List.mem_cons] at hp ⊢
  rcases hp with h | h | h <;> simp [h]
end Mine
end PartT1
section PartL2a
open PySem PySem.W PyProof.Rows PySem.Flt
open Builtin Builtin.Str
namespace Mine
set_option maxRecDepth 100000
section
variable {prog : Program} {w : World} {A : Around} {E : Value → Shared → Prop} {s : Shared} {value slice : PySem.Expr} {l : Addr} {u : Tok} {x y z : Value} {Q : Value → Shared → Prop}
theorem item3_0 (hl : s.heap.IsList l #[x, y, z]) (h : Q x s)
    (hs : subscripted slice false (.ref l) (.int 0 u) = operate [.ref l, .int 0 u] (getItem (.ref l) (.int 0 u))) (hg : ∀ r, letTemporaryGo value (.ref l) r = pure ()) :
    wpAny (model prog w) A (subscriptTail value slice (.ref l) (.int 0 u)) Q E s := item_list hl (by decide) (by decide) rfl h hs hg
theorem item3_1 (hl : s.heap.IsList l #[x, y, z]) (h : Q y s)
    (hs : subscripted slice false (.ref l) (.int 1 u) = operate [.ref l, .int 1 u] (getItem (.ref l) (.int 1 u))) (hg : ∀ r, letTemporaryGo value (.ref l) r = pure ()) :
    wpAny (model prog w) A (subscriptTail value slice (.ref l) (.int 1 u)) Q E s := item_list hl (by decide) (by decide) rfl h hs hg
theorem item3_2 (hl : s.heap.IsList l #[x, y, z]) (h : Q z s)
    (hs : subscripted slice false (.ref l) (.int 2 u) = operate [.ref l, .int 2 u] (getItem (.ref l) (.int 2 u))) (hg : ∀ r, letTemporaryGo value (.ref l) r = pure ()) :
    wpAny (model prog w) A (subscriptTail value slice (.ref l) (.int 2 u)) Q E s := item_list hl (by decide) (by decide) rfl h hs hg
end
theorem og_bounds {a g m l : Int} (hg : g = ogF a) (hm : m = omF a) (hl : l = olF a) : 0 ≤ g ∧ g ≤ 2 ∧ 0 ≤ m ∧ m ≤ 2 ∧ 0 ≤ l ∧ l ≤ 2 := by
  subst hg; subst hm; subst hl
  unfold ogF omF olF
  refine split6 (P := fun k => 0 ≤ ([0, 1, 1, 2, 2, 0] : List Int).getD k.toNat 0 ∧ ([0, 1, 1, 2, 2, 0] : List Int).getD k.toNat 0 ≤ 2 ∧ 0 ≤ ([1, 0, 2, 1, 0, 2] : List Int).getD k.toNat 0 ∧ ([1, 0, 2, 1, 0, 2] : List Int).getD k.toNat 0 ≤ 2 ∧ 0 ≤ ([2, 2, 0, 0, 1, 1] : List Int).getD k.toNat 0 ∧ ([2, 2, 0, 0, 1, 1] : List Int).getD k.toNat 0 ≤ 2) ?_ ?_ ?_ ?_ ?_ ?_ <;> (intro _; decide)
theorem unrw {h₀ : Heap} {L I : Addr} {its news' : List (Addr × Obj)} {rest : (PySem.Str → Option Value) → List (Addr × Obj) → Prop} {s₁ : Shared} {h' : Heap} {tk : Nat} {m' : PySem.Str → Option Value} (F : Fr h₀ L h' m') (N : News h₀ L h' (its ++ news')) (hi : ∀ q ∈ its, I ≤ q.1) (off : AllLt I news') (r : rest m' news') :
    UnrEndW h₀ L s₁ its rest { s₁ with heap := h', toks := tk } :=
  ⟨h', tk, m', news', rfl, F, N, fun p hp q hq => Nat.ne_of_lt (Nat.lt_of_lt_of_le (of_allLt off p hp) (hi q hq)), r⟩
theorem five_ge {I : Nat} {a b c d e : Obj} : ∀ q ∈ [((I + 4 : Nat), a), (I + 2, b), (I + 3, c), (I, d), (I + 1, e)], I ≤ q.1 := by
  intro q hq
  simp only [List.mem_cons, List.not_mem_nil, or_false] at hq
  rcases hq with rfl | rfl | rfl | rfl | rfl
  · exact Nat.le_add_right _ _
  · exact Nat.le_add_right _ _
  · exact Nat.le_add_right _ _
  · exact Nat.le_refl _
  · exact Nat.le_add_right _ _
theorem fd_lo {prog : Program} {w : World} {A : Around} {E : Value → Shared → Prop} {s : Shared} {hi lo : Int} {t u : Tok} {Q : Value → Shared → Prop} (hA : A.handled = none) (h : Q (.int lo s.toks) { s with toks := s.toks + 1 }) : wpAny (model prog w) A (binaryOp .FloorDiv (.int (hi + lo - (hi - lo)) t) (.int 2 u)) Q E s := by
  have e : (hi + lo - (hi - lo)).fdiv 2 = lo := by rw [Int.fdiv_eq_ediv_of_nonneg _ (by decide)]; omega
  refine floordiv_int_or hA (fun c => absurd c (by decide)) fun _ => ?_
  rw [e]; exact h
theorem fd_hi {prog : Program} {w : World} {A : Around} {E : Value → Shared → Prop} {s : Shared} {hi lo : Int} {t u : Tok} {Q : Value → Shared → Prop} (hA : A.handled = none) (h : Q (.int hi s.toks) { s with toks := s.toks + 1 }) : wpAny (model prog w) A (binaryOp .FloorDiv (.int (hi + lo + (hi - lo)) t) (.int 2 u)) Q E s := by
  have e : (hi + lo + (hi - lo)).fdiv 2 = hi := by rw [Int.fdiv_eq_ediv_of_nonneg _ (by decide)]; omega
  refine floordiv_int_or hA (fun c => absurd c (by decide)) fun _ => ?_
  rw [e]; exact h
theorem ints3 (x y z : Int) (t u v : Tok) : IntsAre [.int x t, .int y u, .int z v] [x, y, z] := .cons _ _ (.cons _ _ (.cons _ _ .nil))
end Mine
end PartL2a
section PartL2
open PySem PySem.W PyProof.Rows PySem.Flt
open Builtin Builtin.Str
namespace Mine
set_option maxRecDepth 100000
local macro_rules | `(tactic| k_room) => `(tactic| ktr_room)
set_option maxHeartbeats 8000000 in
theorem read_c (w : World) (a b c hi lo : Int) (l : Addr) : CW w 2 186 (fun news => (∃ t₁ t₂ t₃ n, (l, ({ cls := .type "list", data := .seq #[.int a t₁, .int b t₂, .int c t₃] n } : Obj)) ∈ news) ∧ max3 a b c = hi ∧ min3 a b c = lo ∧ 1 ≤ a ∧ a ≤ 31 ∧ 1 ≤ b ∧ b ≤ 31 ∧ 1 ≤ c ∧ c ≤ 31 ∧ lo < hi) [.ref l] (ReadP a b c hi lo) := by
  unfold CW
  w_top off
  k_with_none
  k_with "my call ref" => (k_here; (with_reducible show wpAny _ _ (call (Value.ref 78) _) _ _ _); k_dflt (refine' hls_c _ _ _ _ _ _ _ _ _ _ _ _ _ _ _ _ _ _ _ _ _ _ _ _ _ _ _ _ _ _ ?k1 ?k2 ?k3 ?k4 ?k5 ?kK ?kp ?kd ?ku ?_); (case k1 => k_dflt k_asm); (case k2 => k_dflt k_asm); (case k3 => k_dflt k_asm); (case k4 => k_dflt k_asm); (case k5 => k_dflt k_asm); (case kK => first | exact rfl | assumption); (case kp => exact ⟨by assumption, by assumption, by assumption, by assumption, by assumption, by assumption, by assumption, by assumption, by assumption⟩); (case kd => ktr_room); (case ku => ktr_units); intro v9 h9 tk9 nx9 P9 F9 N9; k_dflt (obtain ⟨p9, t19, t29, t39, ev9, en9, l9⟩ := P9); (try dsimp only); subst ev9; subst en9; (try k_lt l9); (try k_sweep); (try k_fold))
  k_with "my call ref" => (k_here; (with_reducible show wpAny _ _ (call (Value.ref 179) _) _ _ _); k_dflt (refine' order_c _ _ _ _ _ _ _ _ _ _ _ _ _ _ _ _ _ _ _ _ _ _ _ _ ?k1 ?k2 ?k3 ?k4 ?k5 ?kK ?kp ?kd ?ku ?_); (case k1 => k_dflt k_asm); (case k2 => k_dflt k_asm); (case k3 => k_dflt k_asm); (case k4 => k_dflt k_asm); (case k5 => k_dflt k_asm); (case kK => first | exact rfl | assumption); (case kp => trivial); (case kd => ktr_room); (case ku => ktr_units); intro v9 h9 tk9 nx9 P9 F9 N9; k_dflt (obtain ⟨p9, g9, m9, o9, t19, t29, t39, ev9, en9, eg9, em9, eo9, l9⟩ := P9); (try dsimp only); subst ev9; subst en9; (try k_lt l9); (obtain ⟨z19, z29, z39, z49, z59, z69⟩ := og_bounds eg9 em9 eo9); (try k_sweep); (try k_fold))
  k_with "my subscriptTail Name Constant ref int" => (k_here; (with_reducible show wpAny _ _ (subscriptTail _ _ (Value.ref _) (Value.int 0 _)) _ _ _); k_dflt (refine item3_0 (News.isList (by k_asm) (by k_mem)) ?_ (by with_unfolding_all rfl) (by intro _; with_unfolding_all rfl)))
  k_with "my subscriptTail Name Constant ref int" => (k_here; (with_reducible show wpAny _ _ (subscriptTail _ _ (Value.ref _) (Value.int 1 _)) _ _ _); k_dflt (refine item3_1 (News.isList (by k_asm) (by k_mem)) ?_ (by with_unfolding_all rfl) (by intro _; with_unfolding_all rfl)))
  k_with "my subscriptTail Name Constant ref int" => (k_here; (with_reducible show wpAny _ _ (subscriptTail _ _ (Value.ref _) (Value.int 2 _)) _ _ _); k_dflt (refine item3_2 (News.isList (by k_asm) (by k_mem)) ?_ (by with_unfolding_all rfl) (by intro _; with_unfolding_all rfl)))
  k_with "my binaryOp Div int int" => ((with_reducible show wpAny _ _ (binaryOp _ (Value.int _ _) (Value.int 32 _)) _ _ _); with_plain (refine div_32 rfl (by omega) ?_); try dsimp only)
  k_with "my call builtin:round" => (k_here; (with_reducible show wpAny _ _ (call _ [Value.float _ _]) _ _ _); k_dflt (refine' round_to (by rfl) ?hr ?_; (case hr => first | exact bo_q (by omega) (by omega) | exact sp_q (by omega) (by omega) (by omega) | exact k_q (by assumption) (by assumption) (by assumption) (by assumption) (by assumption) (by assumption) (by assumption) (by assumption) (by assumption) (by assumption) (by assumption))); try dsimp only)
  k_with "my binaryOp FloorDiv int int" => (k_here; first | ((with_reducible show wpAny _ _ (binaryOp _ (Value.int (_ - _) _) (Value.int 2 _)) _ _ _); k_dflt (refine fd_lo (by rfl) ?_)) | ((with_reducible show wpAny _ _ (binaryOp _ (Value.int (_ + _) _) (Value.int 2 _)) _ _ _); k_dflt (refine fd_hi (by rfl) ?_)))
  k_with "my exec For Tuple Call" => (k_here; (rename Fr _ _ _ _ => lF'); (with_unfolding_all refine' For_turns lF' ?_; k_whole))
  k_with "my call type:zip" => (k_here; (with_reducible show wpAny _ _ (call (Value.type _) [Value.ref _, Value.ref _]) (fun xv s₁ => wpAny _ _ (pyIter xv) (fun it s₂ => TurnsAt _ _ _ _ _ _ _ _ _ it s₂) _ s₁) _ _); (rename Fr _ _ _ _ => lF'); (rename News _ _ _ _ => lN'); (with_unfolding_all refine zp_turns (by rfl) lF' lN' (by k_mem) (by k_mem) (Nat.le_of_ble_eq_true rfl) ?_); clear lF' lN'; intro i' l1; (try k_lt l1))
  k_with "my UnrEndW" => ((rename Fr _ _ _ _ => lF'); (rename News _ _ _ _ => lN'); (with_unfolding_all refine unrw lF' lN' five_ge (by first | assumption | exact allLt_of (by assumption)) ?_); refine ⟨by k_subL, ?_⟩; clear lF' lN')
  k_with "my setItem ref int" => (k_here; (with_reducible show wpAny _ _ (setItem (Value.ref _) (Value.int _ _) (Value.int _ _)) _ _ _); k_dflt (refine' ksa_set ?k1 ?k2 ?k3 ?k4 ?k5 ?k6 ?k7 ?_; (case k1 => k_asm); (case k2 => k_asm); (case k3 => k_upd); (case k4 => first | with_reducible assumption | exact ints3 _ _ _ _ _ _); (case k5 => omega); (case k6 => (simp only [List.length_set, List.length_cons, List.length_nil]; omega)); (case k7 => omega); k_whole); intro h' F' N' hi' hl' hs'; (try k_sweep))
  k_fill
  intros
  rename_i hpre _ _ hret
  obtain ⟨⟨t₁, t₂, t₃, n, hl⟩, e1, e2, a1, a2, b1, b2, c1, c2, hlt⟩ := hpre
  obtain ⟨lo1, hi1, ah, bh, ch, la, lb, lc, hhi, hlo⟩ := mm_facts e1 e2 a1 a2 b1 b2 c1 c2
  rename News _ _ _ _ => N9
  have N8 : News _ _ _ ((l, ({ cls := .type "list", data := .seq #[.int a t₁, .int b t₂, .int c t₃] n } : Obj)) :: _) := fun p hp => (List.mem_cons.mp hp).elim (fun e => e ▸ N9 _ hl) (N9 p)
  clear hl N9
  refine wpAny_call ?_
  k_dflt cell_enter
  k_steps
  all_goals first
    | (rename Fr _ _ _ _ => kF9; rename News _ _ _ _ => kN9; refine hret _ _ _ _ (read_end (by assumption) ?_ rfl rfl ?_ ?_) kF9 (rpick kN9))
    | (exfalso; omega)
  all_goals first
    | exact told_e ⟨lo1, hlt, hi1, la, ah, lb, bh, lc, ch, hhi, hlo⟩ (by assumption) (by assumption) (by assumption) (mid_1 (by assumption))
    | exact told_e ⟨lo1, hlt, hi1, la, ah, lb, bh, lc, ch, hhi, hlo⟩ (by assumption) (by assumption) (by assumption) (mid_2 (by assumption))
    | (show @LT.lt Nat _ _ _; omega)
    | exact (by assumption : ∀ p ∈ _, p.1 < _)
    | exact of_allLt (by assumption)
    | exact of_allLt (And.right (by assumption))
    | exact of_allLt (And.right (And.right (by assumption)))
    | exact of_allLt (And.right (And.right (And.right (by assumption))))
    | exact of_allLt (And.right (And.right (And.right (And.right (by assumption)))))
    | exact of_allLt (And.right (And.right (And.right (And.right (And.right (by assumption))))))
    | exact of_allLt (And.right (And.right (And.right (And.right (And.right (And.right (by assumption)))))))
end Mine
end PartL2
section PartL5
open PySem PySem.W PyProof.Rows PySem.Flt
open Builtin Builtin.Str
namespace Mine
set_option maxRecDepth 100000
theorem sp_00 : allB 32 (fun i => rndOk (Float64.mul (Float64.mul 0 (mnF ((i : Int) + i))) (Float64.ofInt 64)) 0) = true := by decide +kernel
theorem sp_0 {n : Int} (h1 : 1 ≤ n) (h2 : n ≤ 31) : rndOk (Float64.mul (Float64.mul 0 (mnF (n + n))) (Float64.ofInt 64)) 0 = true := by
  have h := allB_at sp_00 n.toNat (by omega)
  rwa [show ((n.toNat : Nat) : Int) = n by omega] at h
theorem fd_0a {prog : Program} {w : World} {A : Around} {E : Value → Shared → Prop} {s : Shared} {n : Int} {t u : Tok} {Q : Value → Shared → Prop} (hA : A.handled = none) (h : Q (.int n s.toks) { s with toks := s.toks + 1 }) : wpAny (model prog w) A (binaryOp .FloorDiv (.int (n + n - 0) t) (.int 2 u)) Q E s := by
  have e : (n + n - 0).fdiv 2 = n := by rw [Int.fdiv_eq_ediv_of_nonneg _ (by decide)]; omega
  refine floordiv_int_or hA (fun c => absurd c (by decide)) fun _ => ?_
  rw [e]; exact h
theorem fd_0b {prog : Program} {w : World} {A : Around} {E : Value → Shared → Prop} {s : Shared} {n : Int} {t u : Tok} {Q : Value → Shared → Prop} (hA : A.handled = none) (h : Q (.int n s.toks) { s with toks := s.toks + 1 }) : wpAny (model prog w) A (binaryOp .FloorDiv (.int (n + n + 0) t) (.int 2 u)) Q E s := by
  have e : (n + n + 0).fdiv 2 = n := by rw [Int.fdiv_eq_ediv_of_nonneg _ (by decide)]; omega
  refine floordiv_int_or hA (fun c => absurd c (by decide)) fun _ => ?_
  rw [e]; exact h
def Read0P (n : Int) (news : List (Addr × Obj)) (v : Value) (nx : List (Addr × Obj)) : Prop :=
  ∃ (p tl : Addr) (u₁ u₂ u₃ t₁ t₂ : Tok), v = .ref p ∧ nx = (p, tupO #[.ref tl, .int (-1) t₁, .float 0 t₂]) :: (tl, W.listOf #[.int n u₁, .int n u₂, .int n u₃] 0) :: news ∧ (∀ q ∈ news, q.1 < tl) ∧ @LT.lt Nat _ tl p
theorem read0_end {n : Int} {p tl : Addr} {u₁ u₂ u₃ t₁ t₂ : Tok} {news : List (Addr × Obj)} (h1 : ∀ q ∈ news, q.1 < tl) (h2 : @LT.lt Nat _ tl p) :
    Read0P n news (.ref p) ((p, tupO #[.ref tl, .int (-1) t₁, .float 0 t₂]) :: (tl, W.listOf #[.int n u₁, .int n u₂, .int n u₃] 0) :: news) := ⟨p, tl, u₁, u₂, u₃, t₁, t₂, rfl, rfl, h1, h2⟩
theorem rpick0 {h₀ h : Heap} {L : Addr} {a₀ a₁ a₂ a₃ a₄ : Addr × Obj} {news : List (Addr × Obj)} (N : News h₀ L h (a₀ :: a₁ :: a₂ :: a₃ :: a₄ :: news)) : News h₀ L h (a₀ :: a₁ :: news) := by
  intro p hp
  refine N p ?_
  simp only [List.mem_cons] at hp ⊢
  rcases hp with h | h | h <;> simp [h]
local macro_rules | `(tactic| k_room) => `(tactic| ktr_room)
set_option maxHeartbeats 1500000 in
theorem read0_c (w : World) (n : Int) (l : Addr) : CW w 2 186 (fun news => (∃ t₁ t₂ t₃ k, (l, ({ cls := .type "list", data := .seq #[.int n t₁, .int n t₂, .int n t₃] k } : Obj)) ∈ news) ∧ 1 ≤ n ∧ n ≤ 31) [.ref l] (Read0P n) := by
  unfold CW
  w_top off
  k_with_none
  k_with "my subscriptTail Name Constant ref int" => (k_here; (with_reducible show wpAny _ _ (subscriptTail _ _ (Value.ref _) (Value.int 0 _)) _ _ _); k_dflt (refine item3_0 (News.isList (by k_asm) (by k_mem)) ?_ (by with_unfolding_all rfl) (by intro _; with_unfolding_all rfl)))
  k_with "my subscriptTail Name Constant ref int" => (k_here; (with_reducible show wpAny _ _ (subscriptTail _ _ (Value.ref _) (Value.int 1 _)) _ _ _); k_dflt (refine item3_1 (News.isList (by k_asm) (by k_mem)) ?_ (by with_unfolding_all rfl) (by intro _; with_unfolding_all rfl)))
  k_with "my subscriptTail Name Constant ref int" => (k_here; (with_reducible show wpAny _ _ (subscriptTail _ _ (Value.ref _) (Value.int 2 _)) _ _ _); k_dflt (refine item3_2 (News.isList (by k_asm) (by k_mem)) ?_ (by with_unfolding_all rfl) (by intro _; with_unfolding_all rfl)))
  k_with "my binaryOp Div int int" => ((with_reducible show wpAny _ _ (binaryOp _ (Value.int _ _) (Value.int 32 _)) _ _ _); with_plain (refine div_32 rfl (by omega) ?_); try dsimp only)
  k_with "my call ref" => (k_here; (with_reducible show wpAny _ _ (call (Value.ref 78) _) _ _ _); k_dflt (refine' hls0_c _ _ _ _ _ _ _ _ _ _ _ _ _ _ _ _ _ _ _ _ _ _ _ _ _ _ ?k1 ?k2 ?k3 ?k4 ?k5 ?kK ?kp ?kd ?ku ?_); (case k1 => k_dflt k_asm); (case k2 => k_dflt k_asm); (case k3 => k_dflt k_asm); (case k4 => k_dflt k_asm); (case k5 => k_dflt k_asm); (case kK => first | exact rfl | assumption); (case kp => exact ⟨by assumption, by assumption⟩); (case kd => ktr_room); (case ku => ktr_units); intro v9 h9 tk9 nx9 P9 F9 N9; k_dflt (obtain ⟨p9, t19, t29, t39, ev9, en9, l9⟩ := P9); (try dsimp only); subst ev9; subst en9; (try k_lt l9); (try k_sweep); (try k_fold))
  k_with "my call builtin:round" => (k_here; (with_reducible show wpAny _ _ (call _ [Value.float _ _]) _ _ _); k_dflt (refine' round_to (by rfl) ?hr ?_; (case hr => first | exact bo_q (by omega) (by omega) | exact sp_0 (by omega) (by omega))); try dsimp only)
  k_with "my binaryOp FloorDiv int int" => (k_here; first | ((with_reducible show wpAny _ _ (binaryOp _ (Value.int (_ - 0) _) (Value.int 2 _)) _ _ _); k_dflt (refine fd_0a (by rfl) ?_)) | ((with_reducible show wpAny _ _ (binaryOp _ (Value.int (_ + 0) _) (Value.int 2 _)) _ _ _); k_dflt (refine fd_0b (by rfl) ?_)))
  k_fill
  intros
  rename_i hpre _ _ hret
  obtain ⟨⟨t₁, t₂, t₃, k, hl⟩, a1, a2⟩ := hpre
  rename News _ _ _ _ => N9
  have N8 : News _ _ _ ((l, ({ cls := .type "list", data := .seq #[.int n t₁, .int n t₂, .int n t₃] k } : Obj)) :: _) := fun p hp => (List.mem_cons.mp hp).elim (fun e => e ▸ N9 _ hl) (N9 p)
  clear hl N9
  refine wpAny_call ?_
  k_dflt cell_enter
  k_steps
  all_goals first
    | (rename Fr _ _ _ _ => kF9; rename News _ _ _ _ => kN9; refine hret _ _ _ _ (read0_end ?_ ?_) kF9 (rpick0 kN9))
  all_goals first
    | (show @LT.lt Nat _ _ _; omega)
    | exact (by assumption : ∀ p ∈ _, p.1 < _)
    | exact of_allLt (by assumption)
    | exact of_allLt (And.right (by assumption))
    | exact of_allLt (And.right (And.right (by assumption)))
    | exact of_allLt (And.right (And.right (And.right (by assumption))))
    | exact of_allLt (And.right (And.right (And.right (And.right (by assumption)))))
    | exact of_allLt (And.right (And.right (And.right (And.right (And.right (by assumption))))))
    | exact of_allLt (And.right (And.right (And.right (And.right (And.right (And.right (by assumption)))))))
end Mine
end PartL5
section PartLA
open PySem PySem.W PyProof.Rows
namespace Mine
set_option maxRecDepth 100000
section
variable {prog : Program} {w : World} {A : Around} {E : Value → Shared → Prop} {s : Shared} {h₀ : Heap} {L l : Addr} {m : PySem.Str → Option Value} {news : List (Addr × Obj)} {value slice : PySem.Expr} {vs : List Value} {ns : List Int} {vl vu vk : Value} {lo hi st : Option Int} {Q : Value → Shared → Prop} {ops : List Value}
theorem law_slice (F : Fr h₀ L s.heap m) (N : News h₀ L s.heap news) (hl : s.heap.IsList l vs.toArray) (hi' : IntsAre vs ns) (pl : IsPart vl lo) (pu : IsPart vu hi) (pk : IsPart vk st) (h0 : st ≠ some 0) (hz : vs.toArray.size ≤ sizeLine)
    (h : ∀ D ws ms h', IntsAre ws ms → Fr h₀ L h' m → News h₀ L h' ((D, listOf (List.toArray ws) 0) :: news) → (∀ p ∈ news, p.1 < D) → Q (.ref D) { s with heap := h' })
    (hs : subscripted slice false (.ref l) (.ref s.heap.objs.size) = operate ops (getItem (.ref l) (.ref s.heap.objs.size))) (ht : ∀ r, letTemporaryGo value (.ref l) r = pure ()) :
    wpAny (model prog w) A (subscriptTail value slice (.ref l) (.ref s.heap.objs.size)) Q E { s with heap := s.heap.push { cls := .type "slice", data := .fields #[vl, vu, vk] } } :=
  slice_list3 F N hl pl pu pk h0 (fun h' F' N' => h _ (slicePick vs.toArray lo hi st).toList _ h' (hi'.pick lo hi st) F' (by rw [Array.toArray_toList]; exact N') fun p hp => Nat.lt_succ_of_lt (Heap.lt_size (N p hp).1)) hs ht hz
theorem one_mod {x : Int} {t u : Tok} (h : ∀ n : Int, 1 ≤ n → n ≤ 31 → Q (.int n s.toks) { s with toks := s.toks + 1 }) : wpAny (model prog w) A (binaryOp .Add (.int 1 t) (.int (Int.fmod x 31) u)) Q E s := by
  refine PyProof.Rows.add_int ?_
  have e : Int.fmod x 31 = x % 31 := Int.fmod_eq_emod_of_nonneg _ (by decide)
  exact h _ (by rw [e]; omega) (by rw [e]; omega)
theorem ne_same {x : PySem.Str} {t u : Tok} (h : Q (.bool false) s) : wpAny (model prog w) A (compareOp .NotEq (.str x t) (.str x u)) Q E s := by
  refine PyProof.Rows.ne_str ?_
  have e : (x != x) = false := by simp
  rw [e]; exact h
end
end Mine
end PartLA
section PartLB
open PySem PySem.W PyProof.Rows
namespace Mine
set_option maxRecDepth 100000
theorem lead_end {h₀ : Heap} {L I C D : Addr} {m : PySem.Str → Option Value} {s₁ : Shared} {oI oC oD : Obj} {S : List (Addr × Obj) → Prop} {rest : Value → List (Addr × Obj) → Prop} {y : Value} {h' : Heap} {tk : Nat} {news : List (Addr × Obj)} {p c o d : Addr} {po co oo oD' : Obj}
    (F : Fr h₀ L h' m) (N : News h₀ L h' ((p, po) :: (c, co) :: (o, oo) :: (d, oD') :: (I, oI) :: (C, oC) :: (D, oD) :: news)) (off : LCg.Off3 I C D news)
    (l1 : ∀ q ∈ (I, oI) :: (C, oC) :: (D, oD) :: news, q.1 < d) (l2 : @LT.lt Nat _ d o) (l3 : @LT.lt Nat _ o c) (l4 : @LT.lt Nat _ c p)
    (hS : S ((p, po) :: (c, co) :: (o, oo) :: (d, oD') :: news)) (r : rest y ((p, po) :: (c, co) :: (o, oo) :: (d, oD') :: news)) :
    LCg.CompEnd h₀ L m s₁ I oI C oC D oD S rest y { s₁ with heap := h', toks := tk } := by
  have a1 : @LT.lt Nat _ I d := l1 _ (.head _)
  have a2 : @LT.lt Nat _ C d := l1 _ (.tail _ (.head _))
  have a3 : @LT.lt Nat _ D d := l1 _ (.tail _ (.tail _ (.head _)))
  have of : LCg.Off3 I C D ((p, po) :: (c, co) :: (o, oo) :: (d, oD') :: news) := by
    simp only [LCg.Off3]
    refine ⟨⟨?_, ?_, ?_⟩, ⟨?_, ?_, ?_⟩, ⟨?_, ?_, ?_⟩, ⟨?_, ?_, ?_⟩, off⟩
    all_goals (show @Ne Nat _ _; omega)
  refine LCg.CompEnd.intro F N _ (fun q hq => ?_) of hS r
  simp only [List.mem_cons] at hq ⊢
  rcases hq with h | h | h | h | h | h | h | h <;> simp [h]
theorem num_end {h₀ : Heap} {L I C D : Addr} {m : PySem.Str → Option Value} {s₁ : Shared} {oI oC oD : Obj} {S : List (Addr × Obj) → Prop} {rest : Value → List (Addr × Obj) → Prop} {y : Value} {h' : Heap} {tk : Nat} {news : List (Addr × Obj)} {d : Addr} {od : Obj}
    (F : Fr h₀ L h' m) (N : News h₀ L h' ((d, od) :: (I, oI) :: (C, oC) :: (D, oD) :: news)) (off : LCg.Off3 I C D news)
    (l1 : ∀ q ∈ (I, oI) :: (C, oC) :: (D, oD) :: news, q.1 < d)
    (hS : S ((d, od) :: news)) (r : rest y ((d, od) :: news)) :
    LCg.CompEnd h₀ L m s₁ I oI C oC D oD S rest y { s₁ with heap := h', toks := tk } := by
  have a1 : @LT.lt Nat _ I d := l1 _ (.head _)
  have a2 : @LT.lt Nat _ C d := l1 _ (.tail _ (.head _))
  have a3 : @LT.lt Nat _ D d := l1 _ (.tail _ (.tail _ (.head _)))
  have of : LCg.Off3 I C D ((d, od) :: news) := ⟨⟨Nat.ne_of_gt a1, Nat.ne_of_gt a2, Nat.ne_of_gt a3⟩, off⟩
  refine LCg.CompEnd.intro F N _ (fun q hq => ?_) of hS r
  simp only [List.mem_cons] at hq ⊢
  rcases hq with h | h | h | h | h <;> simp [h]
theorem host_end {h₀ : Heap} {L I C D : Addr} {m : PySem.Str → Option Value} {s₁ : Shared} {oI oC oD : Obj} {S : List (Addr × Obj) → Prop} {rest : Value → List (Addr × Obj) → Prop} {y : Value} {h' : Heap} {tk : Nat} {news : List (Addr × Obj)}
    (F : Fr h₀ L h' m) (N : News h₀ L h' ((I, oI) :: (C, oC) :: (D, oD) :: news)) (off : LCg.Off3 I C D news)
    (hS : S news) (r : rest y news) :
    LCg.CompEnd h₀ L m s₁ I oI C oC D oD S rest y { s₁ with heap := h', toks := tk } := by
  refine LCg.CompEnd.intro F N _ (fun q hq => ?_) off hS r
  simp only [List.mem_cons] at hq ⊢
  rcases hq with h | h | h | h <;> simp [h]
section
variable {prog : Program} {w : World} {A : Around} {E : Value → Shared → Prop} {s : Shared} {value slice : PySem.Expr} {l : Addr} {k : Int} {u : Tok} {x y z : Value} {Q : Value → Shared → Prop}
theorem item3_at0 (hk : k = 0) (hl : s.heap.IsList l #[x, y, z]) (h : Q x s)
    (hs : subscripted slice false (.ref l) (.int k u) = operate [.ref l, .int k u] (getItem (.ref l) (.int k u))) (hg : ∀ r, letTemporaryGo value (.ref l) r = pure ()) :
    wpAny (model prog w) A (subscriptTail value slice (.ref l) (.int k u)) Q E s := by subst hk; exact item3_0 hl h hs hg
theorem item3_at1 (hk : k = 1) (hl : s.heap.IsList l #[x, y, z]) (h : Q y s)
    (hs : subscripted slice false (.ref l) (.int k u) = operate [.ref l, .int k u] (getItem (.ref l) (.int k u))) (hg : ∀ r, letTemporaryGo value (.ref l) r = pure ()) :
    wpAny (model prog w) A (subscriptTail value slice (.ref l) (.int k u)) Q E s := by subst hk; exact item3_1 hl h hs hg
theorem item3_at2 (hk : k = 2) (hl : s.heap.IsList l #[x, y, z]) (h : Q z s)
    (hs : subscripted slice false (.ref l) (.int k u) = operate [.ref l, .int k u] (getItem (.ref l) (.int k u))) (hg : ∀ r, letTemporaryGo value (.ref l) r = pure ()) :
    wpAny (model prog w) A (subscriptTail value slice (.ref l) (.int k u)) Q E s := by subst hk; exact item3_2 hl h hs hg
end
end Mine
end PartLB
section PartLC
open PySem PySem.W PyProof.Rows
namespace Mine
theorem part_in0 : allB 31 (fun i => allB 31 fun j => decide (1 ≤ part ((i : Int) + 1) ((j : Int) + 1)) && decide (part ((i : Int) + 1) ((j : Int) + 1) ≤ 31)) = true := by decide +kernel
theorem part_in {a b : Int} (ha : 1 ≤ a) (ha' : a ≤ 31) (hb : 1 ≤ b) (hb' : b ≤ 31) : 1 ≤ part a b ∧ part a b ≤ 31 := by
  have h := allB_at (allB_at part_in0 (a - 1).toNat (by omega)) (b - 1).toNat (by omega)
  rw [Bool.and_eq_true, decide_eq_true_eq, decide_eq_true_eq, show (((a - 1).toNat : Nat) : Int) + 1 = a by omega, show (((b - 1).toNat : Nat) : Int) + 1 = b by omega] at h
  exact h
theorem stop_part {a b : Int} (ha : 1 ≤ a) (ha' : a ≤ 31) (hb : 1 ≤ b) (hb' : b ≤ 31) : stopF (min a b) (max a b) = part a b := by
  have h := allB_at (allB_at stop_part0 (a - 1).toNat (by omega)) (b - 1).toNat (by omega)
  rw [decide_eq_true_eq, show (((a - 1).toNat : Nat) : Int) + 1 = a by omega, show (((b - 1).toNat : Nat) : Int) + 1 = b by omega] at h
  exact h
end Mine
end PartLC
section PartPL
open PySem PySem.W PyProof.Rows
namespace Mine
def sel {α : Type} (k : Int) (x y z : α) : α := if k = 0 then x else if k = 1 then y else z
theorem sel_0 {α : Type} (x y z : α) : sel 0 x y z = x := rfl
theorem sel_1 {α : Type} (x y z : α) : sel 1 x y z = y := rfl
theorem sel_2 {α : Type} (x y z : α) : sel 2 x y z = z := rfl
theorem partR_left {k : Nat} {a b p st : Int} (ha : a < p) (hb : b < p) : partR (k + 1) a b p st = partR k a b (p - st) (st / 2) := by
  rw [partR, if_pos ⟨by omega, by omega, by simp [ha, hb]⟩, if_pos ha]
theorem partR_right {k : Nat} {a b p st : Int} (ha : p < a) (hb : p < b) : partR (k + 1) a b p st = partR k a b (p + st) (st / 2) := by
  have h1 : ¬ a < p := by omega
  have h2 : ¬ b < p := by omega
  rw [partR, if_pos ⟨by omega, by omega, by simp [h1, h2]⟩, if_neg h1]
theorem partR_stop {k : Nat} {a b p st : Int} (h : (a ≤ p ∧ p ≤ b) ∨ (b ≤ p ∧ p ≤ a)) : partR (k + 1) a b p st = p := by
  rw [partR, if_neg]
  rintro ⟨h1, h2, h3⟩
  have h4 := decide_eq_decide.mp h3
  omega
theorem partR_comm : ∀ (k : Nat) (a b p st : Int), partR k a b p st = partR k b a p st
  | 0, _, _, _, _ => rfl
  | k + 1, a, b, p, st => by
    by_cases h1 : a < p ∧ b < p
    · rw [partR_left h1.1 h1.2, partR_left h1.2 h1.1, partR_comm k]
    · by_cases h2 : p < a ∧ p < b
      · rw [partR_right h2.1 h2.2, partR_right h2.2 h2.1, partR_comm k]
      · rw [partR_stop (by omega), partR_stop (by omega)]
theorem part_comm (a b : Int) : part a b = part b a := partR_comm 5 a b 16 8
theorem partR_mid : ∀ (k : Nat) (lo m hi p st : Int), lo ≤ m → m ≤ hi →
    (m = partR k lo hi p st → partR k lo m p st = partR k lo hi p st ∧ partR k m hi p st = partR k lo hi p st) ∧
    (m < partR k lo hi p st → partR k m hi p st = partR k lo hi p st) ∧ (partR k lo hi p st < m → partR k lo m p st = partR k lo hi p st)
  | 0, _, _, _, _, _, _, _ => ⟨fun _ => ⟨rfl, rfl⟩, fun _ => rfl, fun _ => rfl⟩
  | k + 1, lo, m, hi, p, st, h1, h2 => by
    by_cases h3 : hi < p
    · have ih := partR_mid k lo m hi (p - st) (st / 2) h1 h2
      rw [partR_left (a := lo) (b := hi) (by omega) (by omega), partR_left (a := lo) (b := m) (by omega) (by omega), partR_left (a := m) (b := hi) (by omega) (by omega)]
      exact ih
    · by_cases h4 : p < lo
      · have ih := partR_mid k lo m hi (p + st) (st / 2) h1 h2
        rw [partR_right (a := lo) (b := hi) (by omega) (by omega), partR_right (a := lo) (b := m) (by omega) (by omega), partR_right (a := m) (b := hi) (by omega) (by omega)]
        exact ih
      · rw [partR_stop (a := lo) (b := hi) (by omega)]
        refine ⟨fun e => ?_, fun e => ?_, fun e => ?_⟩
        · exact ⟨partR_stop (by omega), partR_stop (by omega)⟩
        · exact partR_stop (by omega)
        · exact partR_stop (by omega)
theorem part_btw0 : allB 31 (fun i => allB 31 fun j => decide (min ((i : Int) + 1) ((j : Int) + 1) ≤ part ((i : Int) + 1) ((j : Int) + 1)) && decide (part ((i : Int) + 1) ((j : Int) + 1) ≤ max ((i : Int) + 1) ((j : Int) + 1))) = true := by decide +kernel
theorem part_btw {a b : Int} (ha : 1 ≤ a) (h : a ≤ b) (hb' : b ≤ 31) : a ≤ part a b ∧ part a b ≤ b := by
  have h := allB_at (allB_at part_btw0 (a - 1).toNat (by omega)) (b - 1).toNat (by omega)
  rw [Bool.and_eq_true, decide_eq_true_eq, decide_eq_true_eq, show (((a - 1).toNat : Nat) : Int) + 1 = a by omega, show (((b - 1).toNat : Nat) : Int) + 1 = b by omega] at h
  omega
theorem part_eq {n : Int} (h1 : 1 ≤ n) (h2 : n ≤ 31) : part n n = n := by
  have := part_btw h1 (Int.le_refl n) h2
  omega
def Tell (p q r A : Int) : Prop := ∃ hi lo, max3 p q r = hi ∧ min3 p q r = lo ∧ lo < hi ∧ armF p q r hi lo = A ∧ restF p q r hi lo = 0
theorem arm_val {a b c hi lo k : Int} (h : kF a b c hi lo = k * (hi - lo)) (hs : lo < hi) : armF a b c hi lo = k ∧ restF a b c hi lo = 0 := by
  unfold armF restF
  rw [h]
  refine ⟨?_, ?_⟩
  · rw [Int.mul_fdiv_cancel _ (by omega)]
  · rw [Int.mul_fmod_left]
theorem tell_0 {W V : Int} (h : V < W) : Tell W V V 0 := by
  refine ⟨W, V, ?_, ?_, h, arm_val ?_ h⟩
  · unfold max3; split <;> (try split) <;> omega
  · unfold min3; split <;> (try split) <;> omega
  · unfold kF; split <;> (try split) <;> omega
theorem tell_1 {W V : Int} (h : V < W) : Tell W W V 1 := by
  refine ⟨W, V, ?_, ?_, h, arm_val ?_ h⟩
  · unfold max3; split <;> (try split) <;> omega
  · unfold min3; split <;> (try split) <;> omega
  · unfold kF; split <;> (try split) <;> omega
theorem tell_2 {W V : Int} (h : V < W) : Tell V W V 2 := by
  refine ⟨W, V, ?_, ?_, h, arm_val ?_ h⟩
  · unfold max3; split <;> (try split) <;> omega
  · unfold min3; split <;> (try split) <;> omega
  · unfold kF; split <;> (try split) <;> omega
theorem tell_3 {W V : Int} (h : V < W) : Tell V W W 3 := by
  refine ⟨W, V, ?_, ?_, h, arm_val ?_ h⟩
  · unfold max3; split <;> (try split) <;> omega
  · unfold min3; split <;> (try split) <;> omega
  · unfold kF; split <;> (try split) <;> omega
theorem tell_4 {W V : Int} (h : V < W) : Tell V V W 4 := by
  refine ⟨W, V, ?_, ?_, h, arm_val ?_ h⟩
  · unfold max3; split <;> (try split) <;> omega
  · unfold min3; split <;> (try split) <;> omega
  · unfold kF; split <;> (try split) <;> omega
theorem tell_5 {W V : Int} (h : V < W) : Tell W V W 5 := by
  refine ⟨W, V, ?_, ?_, h, arm_val ?_ h⟩
  · unfold max3; split <;> (try split) <;> omega
  · unfold min3; split <;> (try split) <;> omega
  · unfold kF; split <;> (try split) <;> omega
theorem three_inj {x y z a b c : Int} (h : [x, y, z] = [a, b, c]) : x = a ∧ y = b ∧ z = c := by
  injection h with h1 h2
  injection h2 with h2 h3
  injection h3 with h3 _
  exact ⟨h1, h2, h3⟩
/-- what the places tell -/
theorem law_pure {a b c hi lo A : Int} (T : Three a b c hi lo) (eA : armF a b c hi lo = A) :
    sel (olF A) a b c = lo ∧ sel (ogF A) a b c = hi ∧
    (sel (omF A) a b c = part lo hi → part a b = part lo hi ∧ part b c = part lo hi ∧ part c a = part lo hi) ∧
    (sel (omF A) a b c < part lo hi → Tell (part a b) (part b c) (part c a) ((2 * (ogF A + 1).fmod 3 + 3).fmod 6)) ∧
    (part lo hi < sel (omF A) a b c → Tell (part a b) (part b c) (part c a) (2 * (olF A + 1).fmod 3)) := by
  obtain ⟨A', r, e1, e2, r0, r1, h⟩ := arm_split T
  have t := told_ok T
  rw [e1, e2] at t
  obtain ⟨lo1, lt, hi1, -, -, -, -, -, -, -, -⟩ := T
  have key : ∀ M : Int, lo ≤ M → M ≤ hi → (M = part lo hi → part lo M = part lo hi ∧ part M hi = part lo hi) ∧ (M < part lo hi → part M hi = part lo hi ∧ part lo M < part lo hi) ∧ (part lo hi < M → part lo M = part lo hi ∧ part lo hi < part M hi) := by
    intro M h1 h2
    have k := partR_mid 5 lo M hi 16 8 h1 h2
    have b1 := part_btw lo1 h1 (by omega)
    have b2 := part_btw (a := M) (b := hi) (by omega) h2 hi1
    refine ⟨k.1, fun e => ⟨k.2.1 e, by omega⟩, fun e => ⟨k.2.2 e, by omega⟩⟩
  rw [e1] at eA
  subst eA
  rcases h with ⟨rfl, h⟩ | ⟨rfl, h⟩ | ⟨rfl, h⟩ | ⟨rfl, h⟩ | ⟨rfl, h⟩ | ⟨rfl, h⟩
  · have t' : [hi, lo + r, lo] = [a, b, c] := t
    have : hi = a ∧ lo + r = b ∧ lo = c := three_inj t'
    clear h t t'
    obtain ⟨rfl, rfl, rfl⟩ := this
    obtain ⟨k1, k2, k3⟩ := key (lo + r) (by omega) (by omega)
    rw [part_comm hi, part_comm (lo + r) lo]
    refine ⟨rfl, rfl, fun e => ⟨(k1 e).2, (k1 e).1, rfl⟩, fun e => ?_, fun e => ?_⟩
    · rw [(k2 e).1]; exact tell_5 (k2 e).2
    · rw [(k3 e).1]; exact tell_0 (k3 e).2
  · have t' : [hi - r, hi, lo] = [a, b, c] := t
    have : hi - r = a ∧ hi = b ∧ lo = c := three_inj t'
    clear h t t'
    obtain ⟨rfl, rfl, rfl⟩ := this
    obtain ⟨k1, k2, k3⟩ := key (hi - r) (by omega) (by omega)
    rw [part_comm hi lo]
    refine ⟨rfl, rfl, fun e => ⟨(k1 e).2, rfl, (k1 e).1⟩, fun e => ?_, fun e => ?_⟩
    · rw [(k2 e).1]; exact tell_1 (k2 e).2
    · rw [(k3 e).1]; exact tell_0 (k3 e).2
  · have t' : [lo, hi, lo + r] = [a, b, c] := t
    have : lo = a ∧ hi = b ∧ lo + r = c := three_inj t'
    clear h t t'
    obtain ⟨rfl, rfl, rfl⟩ := this
    obtain ⟨k1, k2, k3⟩ := key (lo + r) (by omega) (by omega)
    rw [part_comm hi, part_comm (lo + r) lo]
    refine ⟨rfl, rfl, fun e => ⟨rfl, (k1 e).2, (k1 e).1⟩, fun e => ?_, fun e => ?_⟩
    · rw [(k2 e).1]; exact tell_1 (k2 e).2
    · rw [(k3 e).1]; exact tell_2 (k3 e).2
  · have t' : [lo, hi - r, hi] = [a, b, c] := t
    have : lo = a ∧ hi - r = b ∧ hi = c := three_inj t'
    clear h t t'
    obtain ⟨rfl, rfl, rfl⟩ := this
    obtain ⟨k1, k2, k3⟩ := key (hi - r) (by omega) (by omega)
    rw [part_comm hi lo]
    refine ⟨rfl, rfl, fun e => ⟨(k1 e).1, (k1 e).2, rfl⟩, fun e => ?_, fun e => ?_⟩
    · rw [(k2 e).1]; exact tell_3 (k2 e).2
    · rw [(k3 e).1]; exact tell_2 (k3 e).2
  · have t' : [lo + r, lo, hi] = [a, b, c] := t
    have : lo + r = a ∧ lo = b ∧ hi = c := three_inj t'
    clear h t t'
    obtain ⟨rfl, rfl, rfl⟩ := this
    obtain ⟨k1, k2, k3⟩ := key (lo + r) (by omega) (by omega)
    rw [part_comm hi, part_comm (lo + r) lo]
    refine ⟨rfl, rfl, fun e => ⟨(k1 e).1, rfl, (k1 e).2⟩, fun e => ?_, fun e => ?_⟩
    · rw [(k2 e).1]; exact tell_3 (k2 e).2
    · rw [(k3 e).1]; exact tell_4 (k3 e).2
  · have t' : [hi, lo, hi - r] = [a, b, c] := t
    have : hi = a ∧ lo = b ∧ hi - r = c := three_inj t'
    clear h t t'
    obtain ⟨rfl, rfl, rfl⟩ := this
    obtain ⟨k1, k2, k3⟩ := key (hi - r) (by omega) (by omega)
    rw [part_comm hi lo]
    refine ⟨rfl, rfl, fun e => ⟨rfl, (k1 e).1, (k1 e).2⟩, fun e => ?_, fun e => ?_⟩
    · rw [(k2 e).1]; exact tell_5 (k2 e).2
    · rw [(k3 e).1]; exact tell_4 (k3 e).2
/-- three numbers: all the same, or with a least and a greatest -/
theorem three_or (a b c : Int) (a1 : 1 ≤ a) (a2 : a ≤ 31) (b1 : 1 ≤ b) (b2 : b ≤ 31) (c1 : 1 ≤ c) (c2 : c ≤ 31) : (b = a ∧ c = a) ∨ ∃ hi lo, Three a b c hi lo ∧ max3 a b c = hi ∧ min3 a b c = lo := by
  by_cases h : b = a ∧ c = a
  · exact .inl h
  · refine .inr ⟨max3 a b c, min3 a b c, ?_, rfl, rfl⟩
    unfold max3 min3
    constructor <;> (repeat' split) <;> omega
end Mine
end PartPL
section PartLD
open PySem PySem.W PyProof.Rows
namespace Mine
set_option maxRecDepth 100000
def PickP (a b x y : Int) (s : Shared) (v : Value) (s' : Shared) : Prop := ∃ u tk, v = .int (if a < b then x else y) u ∧ s' = { s with toks := tk }
theorem pick_yes {a b x y : Int} {s : Shared} {u tk : Tok} (h : a < b) : PickP a b x y s (.int x u) { s with toks := tk } := ⟨u, tk, by rw [if_pos h], rfl⟩
theorem pick_no {a b x y : Int} {s : Shared} {u tk : Tok} (h : ¬ a < b) : PickP a b x y s (.int y u) { s with toks := tk } := ⟨u, tk, by rw [if_neg h], rfl⟩
section
variable {prog : Program} {w : World} {A : Around} {E : Value → Shared → Prop} {s : Shared} {h₀ : Heap} {L l : Addr} {m : PySem.Str → Option Value} {news : List (Addr × Obj)} {t : Sem Value} {a b c : Int} {ta tb tc tk u v : Tok} {Q : Value → Shared → Prop} {value slice : PySem.Expr} {X Y Z : Addr}
theorem pick_0 (_F : Fr h₀ L s.heap m) (_hm : m (Str.ofString "numbers") = some (.ref l)) (_hk : m (Str.ofString "k") = some (.int 0 tk)) (_hl : s.heap.IsList l #[.int a ta, .int b tb, .int c tc])
    (h1 : wpAny (model prog w) A t (PickP a b 0 1 s) E s) (h2 : ∀ u tk, Q (.int (if a < b then 0 else 1) u) { s with toks := tk }) : wpAny (model prog w) A t Q E s :=
  wpAny_mono h1 (fun _ _ ⟨u, tk, e1, e2⟩ => by rw [e1, e2]; exact h2 u tk) (fun _ _ h => h)
theorem pick_1 (_F : Fr h₀ L s.heap m) (_hm : m (Str.ofString "numbers") = some (.ref l)) (_hk : m (Str.ofString "k") = some (.int 1 tk)) (_hl : s.heap.IsList l #[.int a ta, .int b tb, .int c tc])
    (h1 : wpAny (model prog w) A t (PickP b c 1 2 s) E s) (h2 : ∀ u tk, Q (.int (if b < c then 1 else 2) u) { s with toks := tk }) : wpAny (model prog w) A t Q E s :=
  wpAny_mono h1 (fun _ _ ⟨u, tk, e1, e2⟩ => by rw [e1, e2]; exact h2 u tk) (fun _ _ h => h)
theorem pick_2 (_F : Fr h₀ L s.heap m) (_hm : m (Str.ofString "numbers") = some (.ref l)) (_hk : m (Str.ofString "k") = some (.int 2 tk)) (_hl : s.heap.IsList l #[.int a ta, .int b tb, .int c tc])
    (h1 : wpAny (model prog w) A t (PickP c a 2 0 s) E s) (h2 : ∀ u tk, Q (.int (if c < a then 2 else 0) u) { s with toks := tk }) : wpAny (model prog w) A t Q E s :=
  wpAny_mono h1 (fun _ _ ⟨u, tk, e1, e2⟩ => by rw [e1, e2]; exact h2 u tk) (fun _ _ h => h)
theorem lead_in {n : Int} {o d p cc : Addr} {ws : List Value} {k₁ k₂ k₃ k₄ k₅ t₁ t₂ t₃ t₄ : Tok} (m3 : (o, instObj 140 d) ∈ news) (m4 : (d, leadD w n p k₁ k₂ k₃ k₄ k₅ t₁ t₂ t₃) ∈ news) (m1 : (p, tupO #[.ref cc, .int 0 t₄]) ∈ news) (m2 : (cc, tupO (List.toArray ws)) ∈ news) (hI : IntsAre ws (countI n)) : LeadIn w n o news :=
  ⟨d, cc, p, ws, k₁, k₂, k₃, k₄, k₅, t₁, t₂, t₃, t₄, m1, m2, m3, m4, hI⟩
theorem lead_min {o X Y : Addr} (hx : LeadIn w a X news) (hy : LeadIn w b Y news) (e : o = if a < b then X else Y) : LeadIn w (min a b) o news := by
  subst e
  by_cases h : a < b
  · rw [if_pos h, Int.min_eq_left (by omega)]; exact hx
  · rw [if_neg h, Int.min_eq_right (by omega)]; exact hy
theorem less_0 (hl : s.heap.IsList l #[.ref X, .ref Y, .ref Z]) (_N : News h₀ L s.heap news) (hx : LeadIn w a X news) (hy : LeadIn w b Y news) (h : ∀ o, LeadIn w (min a b) o news → Q (.ref o) s)
    (hs : ∀ k : Int, subscripted slice false (.ref l) (.int k u) = operate [.ref l, .int k u] (getItem (.ref l) (.int k u))) (hg : ∀ r, letTemporaryGo value (.ref l) r = pure ()) :
    wpAny (model prog w) A (subscriptTail value slice (.ref l) (.int (if a < b then 0 else 1) u)) Q E s := by
  by_cases c : a < b
  · rw [if_pos c]; exact item3_0 hl (h _ (lead_min hx hy (by rw [if_pos c]))) (hs 0) hg
  · rw [if_neg c]; exact item3_1 hl (h _ (lead_min hx hy (by rw [if_neg c]))) (hs 1) hg
theorem less_1 (hl : s.heap.IsList l #[.ref X, .ref Y, .ref Z]) (_N : News h₀ L s.heap news) (hx : LeadIn w a Y news) (hy : LeadIn w b Z news) (h : ∀ o, LeadIn w (min a b) o news → Q (.ref o) s)
    (hs : ∀ k : Int, subscripted slice false (.ref l) (.int k u) = operate [.ref l, .int k u] (getItem (.ref l) (.int k u))) (hg : ∀ r, letTemporaryGo value (.ref l) r = pure ()) :
    wpAny (model prog w) A (subscriptTail value slice (.ref l) (.int (if a < b then 1 else 2) u)) Q E s := by
  by_cases c : a < b
  · rw [if_pos c]; exact item3_1 hl (h _ (lead_min hx hy (by rw [if_pos c]))) (hs 1) hg
  · rw [if_neg c]; exact item3_2 hl (h _ (lead_min hx hy (by rw [if_neg c]))) (hs 2) hg
theorem less_2 (hl : s.heap.IsList l #[.ref X, .ref Y, .ref Z]) (_N : News h₀ L s.heap news) (hx : LeadIn w a Z news) (hy : LeadIn w b X news) (h : ∀ o, LeadIn w (min a b) o news → Q (.ref o) s)
    (hs : ∀ k : Int, subscripted slice false (.ref l) (.int k u) = operate [.ref l, .int k u] (getItem (.ref l) (.int k u))) (hg : ∀ r, letTemporaryGo value (.ref l) r = pure ()) :
    wpAny (model prog w) A (subscriptTail value slice (.ref l) (.int (if a < b then 2 else 0) u)) Q E s := by
  by_cases c : a < b
  · rw [if_pos c]; exact item3_2 hl (h _ (lead_min hx hy (by rw [if_pos c]))) (hs 2) hg
  · rw [if_neg c]; exact item3_0 hl (h _ (lead_min hx hy (by rw [if_neg c]))) (hs 0) hg
theorem max2_i (hh : A.handled = none) (F : Fr h₀ L s.heap m) (N : News h₀ L s.heap news)
    (h : ∀ h' tk v, Fr h₀ L h' m → News h₀ L h' news → Q (.int (max a b) v) { s with heap := h', toks := tk }) :
    wpAny (model prog w) A (call (.builtin "max") [.int a u, .int b v]) Q E s := by
  refine max_two_ints hh fun h' tk hk => ?_
  by_cases c : b > a
  · rw [if_pos c]; have := h h' tk v (F.grownK hk) (N.grown hk); rwa [Int.max_eq_right (by omega)] at this
  · rw [if_neg c]; have := h h' tk u (F.grownK hk) (N.grown hk); rwa [Int.max_eq_left (by omega)] at this
theorem ne_stop (ha : 1 ≤ a) (ha' : a ≤ 31) (hb : 1 ≤ b) (hb' : b ≤ 31) (h : Q (.bool false) s) : wpAny (model prog w) A (compareOp .NotEq (.int (stopF (min a b) (max a b)) u) (.int (part a b) v)) Q E s := by
  rw [stop_part ha ha' hb hb']
  refine PyProof.Rows.ne_int ?_
  have e : (part a b != part a b) = false := by simp
  rw [e]; exact h
/-- an item of a list of three, by a place that is not known -/
theorem item3_int {k : Int} (h0 : 0 ≤ k) (h2 : k ≤ 2) (hl : s.heap.IsList l #[.int a ta, .int b tb, .int c tc]) (h : ∀ t, Q (.int (sel k a b c) t) s)
    (hs : ∀ k : Int, subscripted slice false (.ref l) (.int k u) = operate [.ref l, .int k u] (getItem (.ref l) (.int k u))) (hg : ∀ r, letTemporaryGo value (.ref l) r = pure ()) :
    wpAny (model prog w) A (subscriptTail value slice (.ref l) (.int k u)) Q E s := by
  have : k = 0 ∨ k = 1 ∨ k = 2 := by omega
  rcases this with rfl | rfl | rfl
  · exact item3_0 hl (h ta) (hs 0) hg
  · exact item3_1 hl (h tb) (hs 1) hg
  · exact item3_2 hl (h tc) (hs 2) hg
theorem item3_lead {k : Int} (h0 : 0 ≤ k) (h2 : k ≤ 2) (_N : News h₀ L s.heap news) (hl : s.heap.IsList l #[.ref X, .ref Y, .ref Z]) (hx : LeadIn w a X news) (hy : LeadIn w b Y news) (hz : LeadIn w c Z news)
    (h : ∀ o, LeadIn w (sel k a b c) o news → Q (.ref o) s)
    (hs : ∀ k : Int, subscripted slice false (.ref l) (.int k u) = operate [.ref l, .int k u] (getItem (.ref l) (.int k u))) (hg : ∀ r, letTemporaryGo value (.ref l) r = pure ()) :
    wpAny (model prog w) A (subscriptTail value slice (.ref l) (.int k u)) Q E s := by
  have : k = 0 ∨ k = 1 ∨ k = 2 := by omega
  rcases this with rfl | rfl | rfl
  · exact item3_0 hl (h _ hx) (hs 0) hg
  · exact item3_1 hl (h _ hy) (hs 1) hg
  · exact item3_2 hl (h _ hz) (hs 2) hg
end
end Mine
end PartLD
section PartLE
open PySem PySem.W PyProof.Rows
namespace Mine
set_option maxRecDepth 100000
/-- what the order of a told colour says of three numbers -/
structure Facts (a b c g m l : Int) : Prop where
  g0 : 0 ≤ g
  g2 : g ≤ 2
  m0 : 0 ≤ m
  m2 : m ≤ 2
  l0 : 0 ≤ l
  l2 : l ≤ 2
  l1 : 1 ≤ sel l a b c
  lg : sel l a b c ≤ sel g a b c
  g31 : sel g a b c ≤ 31
  same : sel m a b c = part (sel l a b c) (sel g a b c) → part b c = part a b ∧ part c a = part a b
  below : sel m a b c < part (sel l a b c) (sel g a b c) → Tell (part a b) (part b c) (part c a) ((2 * (g + 1).fmod 3 + 3).fmod 6)
  above : part (sel l a b c) (sel g a b c) < sel m a b c → Tell (part a b) (part b c) (part c a) (2 * (l + 1).fmod 3)
theorem facts_of {a b c hi lo g m l : Int} (T : Three a b c hi lo) (eg : g = ogF (armF a b c hi lo)) (em : m = omF (armF a b c hi lo)) (el : l = olF (armF a b c hi lo)) : Facts a b c g m l := by
  have ob := og_bounds eg em el
  obtain ⟨p1, p2, p3, p4, p5⟩ := law_pure T rfl
  rw [← eg, ← em, ← el] at *
  obtain ⟨lo1, lt, hi1, la, ah, lb, bh, lc, ch, hhi, hlo⟩ := T
  refine ⟨ob.1, ob.2.1, ob.2.2.1, ob.2.2.2.1, ob.2.2.2.2.1, ob.2.2.2.2.2, by omega, by omega, by omega, ?_, ?_, ?_⟩
  · rw [p1, p2]
    intro h
    obtain ⟨h1, h2, h3⟩ := p3 h
    rw [h1, h2, h3]; exact ⟨rfl, rfl⟩
  · rw [p1, p2]; exact p4
  · rw [p1, p2]; exact p5
theorem sel_same {k n : Int} : sel k n n n = n := by unfold sel; split <;> (try split) <;> rfl
theorem facts_same {n g m l : Int} (h1 : 1 ≤ n) (h2 : n ≤ 31) (eg : g = ogF (-1)) (em : m = omF (-1)) (el : l = olF (-1)) : Facts n n n g m l := by
  have ob := og_bounds eg em el
  have e := part_eq h1 h2
  refine ⟨ob.1, ob.2.1, ob.2.2.1, ob.2.2.2.1, ob.2.2.2.2.1, ob.2.2.2.2.2, ?_, ?_, ?_, ?_, ?_, ?_⟩ <;> simp only [sel_same, e]
  · exact h1
  · exact Int.le_refl _
  · exact h2
  · simp
  · intro h; omega
  · intro h; omega
def FactsAll (a b c arm : Int) : Prop := ∀ g m l : Int, g = ogF arm → m = omF arm → l = olF arm → Facts a b c g m l
theorem facts_app {a b c arm g m l : Int} (h : FactsAll a b c arm) (eg : g = ogF arm) (em : m = omF arm) (el : l = olF arm) : Facts a b c g m l := h g m l eg em el
def ReadAny (a b c : Int) (news : List (Addr × Obj)) (v : Value) (nx : List (Addr × Obj)) : Prop :=
  ∃ (p tl : Addr) (arm : Int) (rv : Value) (u₁ u₂ u₃ t₁ : Tok), v = .ref p ∧ nx = (p, tupO #[.ref tl, .int arm t₁, rv]) :: (tl, W.listOf #[.int a u₁, .int b u₂, .int c u₃] 0) :: news ∧ (∀ q ∈ news, q.1 < tl) ∧ @LT.lt Nat _ tl p ∧ FactsAll a b c arm
theorem read_any (w : World) (a b c : Int) (l : Addr) : CW w 2 186 (fun news => (∃ t₁ t₂ t₃ n, (l, ({ cls := .type "list", data := .seq #[.int a t₁, .int b t₂, .int c t₃] n } : Obj)) ∈ news) ∧ 1 ≤ a ∧ a ≤ 31 ∧ 1 ≤ b ∧ b ≤ 31 ∧ 1 ≤ c ∧ c ≤ 31) [.ref l] (ReadAny a b c) := by
  intro x1 x2 x3 x4 x5 x6 x7 x8 x9 x10 x11 x12 x13 x14 x15 x16 x17 x18 x19 x20 x21 y1 y2 y3 y4 y5 y6 hp hd hu hQ
  obtain ⟨hl, a1, a2, b1, b2, c1, c2⟩ := hp
  rcases three_or a b c a1 a2 b1 b2 c1 c2 with ⟨rfl, rfl⟩ | ⟨hi, lo, T, e1, e2⟩
  · refine read0_c w _ l x1 x2 x3 x4 x5 x6 x7 x8 x9 x10 x11 x12 x13 x14 x15 x16 x17 x18 x19 x20 x21 y1 y2 y3 y4 y5 y6 ⟨hl, a1, a2⟩ hd hu ?_
    intro v h' tk' nx hP
    refine hQ v h' tk' nx ?_
    obtain ⟨p, tl, u₁, u₂, u₃, t₁, t₂, e1, e2, h1, h2⟩ := hP
    exact ⟨p, tl, _, _, u₁, u₂, u₃, t₁, e1, e2, h1, h2, fun g m l eg em el => facts_same a1 a2 eg em el⟩
  · refine read_c w a b c hi lo l x1 x2 x3 x4 x5 x6 x7 x8 x9 x10 x11 x12 x13 x14 x15 x16 x17 x18 x19 x20 x21 y1 y2 y3 y4 y5 y6 ⟨hl, e1, e2, a1, a2, b1, b2, c1, c2, T.lt⟩ hd hu ?_
    intro v h' tk' nx hP
    refine hQ v h' tk' nx ?_
    obtain ⟨p, tl, u₁, u₂, u₃, t₁, t₂, e1, e2, h1, h2⟩ := hP
    exact ⟨p, tl, _, _, u₁, u₂, u₃, t₁, e1, e2, h1, h2, fun g m l eg em el => facts_of T eg em el⟩
def TellAny (x y z K : Int) : Prop := (y = x ∧ z = x ∧ K = -1) ∨ Tell x y z K
def Zero (v : Value) : Prop := ∃ t : Tok, v = .int 0 t ∨ v = .float 0 t
def TellP (a b c K : Int) (news : List (Addr × Obj)) (v : Value) (nx : List (Addr × Obj)) : Prop :=
  ∃ (p tl : Addr) (rv : Value) (u₁ u₂ u₃ t₁ : Tok), v = .ref p ∧ nx = (p, tupO #[.ref tl, .int K t₁, rv]) :: (tl, W.listOf #[.int a u₁, .int b u₂, .int c u₃] 0) :: news ∧ (∀ q ∈ news, q.1 < tl) ∧ @LT.lt Nat _ tl p ∧ Zero rv
theorem read_tell (w : World) (a b c K : Int) (l : Addr) : CW w 2 186 (fun news => (∃ t₁ t₂ t₃ n, (l, ({ cls := .type "list", data := .seq #[.int a t₁, .int b t₂, .int c t₃] n } : Obj)) ∈ news) ∧ (1 ≤ a ∧ a ≤ 31) ∧ (1 ≤ b ∧ b ≤ 31) ∧ (1 ≤ c ∧ c ≤ 31) ∧ TellAny a b c K) [.ref l] (TellP a b c K) := by
  intro x1 x2 x3 x4 x5 x6 x7 x8 x9 x10 x11 x12 x13 x14 x15 x16 x17 x18 x19 x20 x21 y1 y2 y3 y4 y5 y6 hp hd hu hQ
  obtain ⟨hl, ⟨a1, a2⟩, ⟨b1, b2⟩, ⟨c1, c2⟩, hT⟩ := hp
  rcases hT with ⟨rfl, rfl, rfl⟩ | ⟨hi, lo, e1, e2, lt, eA, er⟩
  · refine read0_c w _ l x1 x2 x3 x4 x5 x6 x7 x8 x9 x10 x11 x12 x13 x14 x15 x16 x17 x18 x19 x20 x21 y1 y2 y3 y4 y5 y6 ⟨hl, a1, a2⟩ hd hu ?_
    intro v h' tk' nx hP
    refine hQ v h' tk' nx ?_
    obtain ⟨p, tl, u₁, u₂, u₃, t₁, t₂, e1, e2, h1, h2⟩ := hP
    exact ⟨p, tl, _, u₁, u₂, u₃, t₁, e1, e2, h1, h2, t₂, .inr rfl⟩
  · refine read_c w a b c hi lo l x1 x2 x3 x4 x5 x6 x7 x8 x9 x10 x11 x12 x13 x14 x15 x16 x17 x18 x19 x20 x21 y1 y2 y3 y4 y5 y6 ⟨hl, e1, e2, a1, a2, b1, b2, c1, c2, lt⟩ hd hu ?_
    intro v h' tk' nx hP
    refine hQ v h' tk' nx ?_
    obtain ⟨p, tl, u₁, u₂, u₃, t₁, t₂, e1, e2, h1, h2⟩ := hP
    rw [eA, er] at e2
    exact ⟨p, tl, _, u₁, u₂, u₃, t₁, e1, e2, h1, h2, t₂, .inl rfl⟩
theorem tell_of_same {a b c g m l : Int} (F : Facts a b c g m l) (h : sel m a b c = part (sel l a b c) (sel g a b c)) : TellAny (part a b) (part b c) (part c a) (-1) := .inl ⟨(F.same h).1, (F.same h).2, rfl⟩
theorem tell_of_below {a b c g m l : Int} (F : Facts a b c g m l) (h : sel m a b c < part (sel l a b c) (sel g a b c)) : TellAny (part a b) (part b c) (part c a) ((2 * (g + 1).fmod 3 + 3).fmod 6) := .inr (F.below h)
theorem tell_of_above {a b c g m l : Int} (F : Facts a b c g m l) (h : ¬ sel m a b c = part (sel l a b c) (sel g a b c)) (h' : ¬ sel m a b c < part (sel l a b c) (sel g a b c)) : TellAny (part a b) (part b c) (part c a) (2 * (l + 1).fmod 3) := .inr (F.above (by omega))
theorem whole_pre {w : World} {o : Addr} {news : List (Addr × Obj)} {a b c g m l : Int} (hl : LeadIn w (sel l a b c) o news) (F : Facts a b c g m l) : LeadIn w (sel l a b c) o news ∧ 1 ≤ sel l a b c ∧ sel l a b c ≤ sel g a b c ∧ sel g a b c ≤ 31 := ⟨hl, F.l1, F.lg, F.g31⟩
/-- the stop of the least at the greatest is where they part -/
theorem whole_c (w : World) (n g : Int) (o : Addr) (tg : Tok) : C1n w 2 172 (fun news => LeadIn w n o news ∧ 1 ≤ n ∧ n ≤ g ∧ g ≤ 31) [.ref o, .int g tg] (fun t => .int (part n g) t) := by
  intro x1 x2 x3 x4 x5 x6 x7 x8 x9 x10 x11 x12 x13 x14 x15 x16 x17 x18 x19 x20 x21 y1 y2 y3 y4 y5 y6 hp hd hu hQ
  obtain ⟨hl, n1, ng, g1⟩ := hp
  have e := stop_part (a := n) (b := g) n1 (by omega) (by omega) g1
  rw [Int.min_eq_left ng, Int.max_eq_right ng] at e
  refine stop_c w n g o tg x1 x2 x3 x4 x5 x6 x7 x8 x9 x10 x11 x12 x13 x14 x15 x16 x17 x18 x19 x20 x21 y1 y2 y3 y4 y5 y6 ⟨hl, n1, by omega⟩ hd hu ?_
  intro t h' tk'
  rw [e]
  exact hQ t h' tk'
end Mine
end PartLE
section PartLF
open PySem PySem.W PyProof.Rows PySem.SeqAt
namespace Mine
set_option maxRecDepth 100000
section
variable {prog : Program} {w : World} {A : Around} {E : Value → Shared → Prop} {s : Shared} {h₀ : Heap} {L : Addr} {news : List (Addr × Obj)} {p q tl pl : Addr} {a b c K : Int} {t₁ t₂ t₃ u₁ u₂ u₃ v₁ v₂ v₃ : Tok} {rv : Value} {Q : Value → Shared → Prop}
theorem rc_float0 (t u : Tok) : RcAt A s (.float 0 t) (.int 0 u) true := fun prog w E Q h => by
  have e : (Float64.cmpInt 0 0 == some Ordering.eq) = true := by decide +kernel
  exact PyProof.Rows.eq_fi (by rw [e]; exact h)
theorem eq_float0 (t u : Tok) : EqAt A s (.float 0 t) (.int 0 u) true := fun prog w E Q h => by
  unfold eqBool
  refine wpAny_holding ?_
  refine wpAny_ite_split (fun hab => absurd (eq_of_beq hab) nofun) (fun _ => ?_)
  exact wpAny_bind (rc_float0 t u prog w E _ (wpAny_truthy_bool h))
theorem eq_three (hl : s.heap.IsList tl #[.int a u₁, .int b u₂, .int c u₃]) (hb : s.heap.IsList pl #[.int a v₁, .int b v₂, .int c v₃]) (hu : A.units + 64 < cLine) : RcAt A s (.ref tl) (.ref pl) true := fun prog w E Q h => by
  refine eq_intsK (vs := [.int a u₁, .int b u₂, .int c u₃]) (us := [.int a v₁, .int b v₂, .int c v₃]) hl (ints3 a b c u₁ u₂ u₃) hb (ints3 a b c v₁ v₂ v₃) hu ?_
  simpa using h
theorem told_same (hl : s.heap.IsList tl #[.int a u₁, .int b u₂, .int c u₃]) (hb : s.heap.IsList pl #[.int a v₁, .int b v₂, .int c v₃]) (hu : A.units + 64 < cLine) (h : Q (.bool true) s) :
    wpAny (model prog w) A (compareOp .Eq (.ref tl) (.ref pl)) Q E s := eq_three hl hb hu prog w E Q h
theorem tell_same (hp : s.heap.IsTuple p #[.ref tl, .int K t₁, rv]) (hq : s.heap.IsTuple q #[.ref pl, .int K t₂, .int 0 t₃]) (hl : s.heap.IsList tl #[.int a u₁, .int b u₂, .int c u₃]) (hb : s.heap.IsList pl #[.int a v₁, .int b v₂, .int c v₃])
    (hz : Zero rv) (hu : A.units + 65 < cLine) (h : Q (.bool true) s) : wpAny (model prog w) A (compareOp .Eq (.ref p) (.ref q)) Q E s := by
  have hu1 : A.in1.units + 64 < cLine := by rw [units_in1]; omega
  refine eq_tupleAt (e := fun _ => true) hp hq (by omega) ?_ (by show Q (.bool true) s; exact h)
  intro j h1 h2
  have : j = 0 ∨ j = 1 ∨ j = 2 := by simp at h1; omega
  rcases this with rfl | rfl | rfl
  · show EqAt A.in1 s (.ref tl) (.ref pl) true
    by_cases e : tl = pl
    · subst e; exact EqAt.same _
    · exact EqAt.of_refs e (eq_three hl hb hu1)
  · show EqAt A.in1 s (.int K t₁) (.int K t₂) true
    have := EqAt.int_int (A := A.in1) (s := s) K t₁ K t₂
    simpa using this
  · show EqAt A.in1 s rv (.int 0 t₃) true
    obtain ⟨t, rfl | rfl⟩ := hz
    · have := EqAt.int_int (A := A.in1) (s := s) 0 t 0 t₃
      simpa using this
    · exact eq_float0 t t₃
theorem tup_at (N : News h₀ L s.heap news) (hm : (p, tupO #[.ref tl, .int K t₁, rv]) ∈ news) : s.heap.IsTuple p #[.ref tl, .int K t₁, rv] := ⟨_, N.get hm, rfl, _, rfl⟩
end
end Mine
end PartLF
section PartLW
open PySem PySem.W PyProof.Rows
open Builtin Builtin.Str
namespace Mine
set_option maxRecDepth 100000
set_option maxHeartbeats 8000000 in
theorem law0 : PySem.Challenge.rw_xg0074_01.Holds := by
  w_top off
  k_with_none
  k_with "my exec Assign cons ListComp" => (k_here; k_dflt (refine LCg.Assign_ListComp_U (F₀ := by k_asm) (by rfl) (by with_unfolding_all rfl) (by rfl) (by decide) (by rfl) (by decide) (by rfl) (by rfl) (by rfl) ?_); k_dflt lcg_toSrc)
  k_with "my CompSrc" => (k_here; k_dflt (first | (refine LCg.CompSrc.ledger (by rfl) (by k_asm) (by k_asm) (by k_mem) (by first | size_fits | exact Nat.le_of_ble_eq_true rfl) ?_; intro g'; lcg_lit) | (refine LCg.CompSrc.range (by rfl) (by k_asm) (by k_asm) (by assumption) (by first | decide | rfl) (by first | rfl | decide) (by first | size_fits | exact Nat.le_of_ble_eq_true rfl) ?_; intro g'; lcg_lit)))
  k_with "my subscriptTail Name Slice ref ref" => (k_here; (with_reducible show wpAny _ _ (subscriptTail _ (.Slice _ _ (some _) _) _ _) _ _ _); k_dflt (refine' law_slice ?kF ?kN ?kl ?ki ?kp1 ?kp2 ?kp3 ?k0 ?kz ?_ ?ks ?kt); (case kF => k_dflt k_asm); (case kN => k_dflt k_asm); (case kl => k_dflt kmk_list); (case ki => k_dflt l_ints); (case kp1 => kmk_part); (case kp2 => kmk_part); (case kp3 => kmk_part); (case k0 => decide); (case kz => kmk_size); (case ks => with_unfolding_all rfl); (case kt => kmk_pure); intro D' ws' ms' h' hI' F' N' l1; (try k_sweep))
  k_with "my call builtin:sum" => (k_here; (with_reducible show wpAny _ _ (call (Value.builtin "sum") [Value.ref _]) _ _ _); k_dflt (refine' PyProof.Rows.LSm.sum_ints ?kF ?kN ?kh ?kl ?ki ?_); (case kF => k_dflt k_asm); (case kN => k_dflt k_asm); (case kh => with_unfolding_all rfl); (case kl => k_dflt kmk_list); (case ki => k_dflt l_ints); intro h' tk' t' F' N'; (try k_sweep))
  k_with "my binaryOp Add int int" => (k_here; (with_reducible show wpAny _ _ (binaryOp _ (.int 1 _) (.int (Int.fmod _ 31) _)) _ _ _); k_dflt (refine one_mod ?_); intro n' ng' nl'; (try k_sweep))
  k_with "my CompEnd" => (k_here; (rename Fr _ _ _ _ => lF'); (rename News _ _ _ _ => lN'); k_dflt (first | refine' lead_end lF' lN' ?off (by assumption) (by assumption) (by assumption) (by assumption) ?hS ?_ | refine' num_end lF' lN' ?off (by assumption) ?hS ?_ | refine' host_end lF' lN' ?off ?hS ?_); (case off => (simp only [LCg.Off3, and_true]; first | done | assumption)); (case hS => lcg_src))
  k_with "my pyIter ref" => ((with_reducible show wpAny _ _ (pyIter (Value.ref _)) (fun it s₂ => LoopAtV _ _ _ _ _ _ _ _ _ it s₂) _ _); k_here; k_rangeUnr)
  k_with "my subscriptTail Name Name ref int" => (k_here; (with_reducible show wpAny _ _ (subscriptTail _ _ (Value.ref _) (Value.int _ _)) _ _ _); k_dflt (first | ((with_reducible show wpAny _ _ (subscriptTail _ _ (Value.ref _) (Value.int (ite _ 0 1) _)) _ _ _); (rename News _ _ _ _ => lN'); refine' less_0 ?kl ?kN ?hx ?hy ?_ ?ks ?kt; (case kN => exact lN'); (case kl => kmk_list); (case hx => (refine' lead_in ?m3 ?m4 ?m1 ?m2 ?hI; (case m3 => k_mem); (case m4 => k_mem); (case m1 => k_mem); (case m2 => k_mem); (case hI => assumption))); (case hy => (refine' lead_in ?m3 ?m4 ?m1 ?m2 ?hI; (case m3 => k_mem); (case m4 => k_mem); (case m1 => k_mem); (case m2 => k_mem); (case hI => assumption))); (case ks => intro _; with_unfolding_all rfl); (case kt => intro _; with_unfolding_all rfl); intro _ _) | ((with_reducible show wpAny _ _ (subscriptTail _ _ (Value.ref _) (Value.int (ite _ 1 2) _)) _ _ _); (rename News _ _ _ _ => lN'); refine' less_1 ?kl ?kN ?hx ?hy ?_ ?ks ?kt; (case kN => exact lN'); (case kl => kmk_list); (case hx => (refine' lead_in ?m3 ?m4 ?m1 ?m2 ?hI; (case m3 => k_mem); (case m4 => k_mem); (case m1 => k_mem); (case m2 => k_mem); (case hI => assumption))); (case hy => (refine' lead_in ?m3 ?m4 ?m1 ?m2 ?hI; (case m3 => k_mem); (case m4 => k_mem); (case m1 => k_mem); (case m2 => k_mem); (case hI => assumption))); (case ks => intro _; with_unfolding_all rfl); (case kt => intro _; with_unfolding_all rfl); intro _ _) | ((with_reducible show wpAny _ _ (subscriptTail _ _ (Value.ref _) (Value.int (ite _ 2 0) _)) _ _ _); (rename News _ _ _ _ => lN'); refine' less_2 ?kl ?kN ?hx ?hy ?_ ?ks ?kt; (case kN => exact lN'); (case kl => kmk_list); (case hx => (refine' lead_in ?m3 ?m4 ?m1 ?m2 ?hI; (case m3 => k_mem); (case m4 => k_mem); (case m1 => k_mem); (case m2 => k_mem); (case hI => assumption))); (case hy => (refine' lead_in ?m3 ?m4 ?m1 ?m2 ?hI; (case m3 => k_mem); (case m4 => k_mem); (case m1 => k_mem); (case m2 => k_mem); (case hI => assumption))); (case ks => intro _; with_unfolding_all rfl); (case kt => intro _; with_unfolding_all rfl); intro _ _) | (refine' item3_at0 ?kk ?kl ?_ ?ks ?kt; (case kk => decide); (case kl => kmk_list); (case ks => with_unfolding_all rfl); (case kt => intro _; with_unfolding_all rfl)) | (refine' item3_at1 ?kk ?kl ?_ ?ks ?kt; (case kk => decide); (case kl => kmk_list); (case ks => with_unfolding_all rfl); (case kt => intro _; with_unfolding_all rfl)) | (refine' item3_at2 ?kk ?kl ?_ ?ks ?kt; (case kk => decide); (case kl => kmk_list); (case ks => with_unfolding_all rfl); (case kt => intro _; with_unfolding_all rfl))))
  k_with "my eval IfExp" => (k_here; (fail_if_success (with_reducible show wpAny _ _ _ (PickP _ _ _ _ _) _ _)); k_dflt (first | ((rename Fr _ _ _ _ => lF'); refine' pick_0 lF' ?km ?kk ?kl ?h1 ?_; (case km => exact rfl); (case kk => exact rfl); (case kl => kmk_list); (case h1 => (k_steps; all_goals (first | exact pick_yes (by assumption) | exact pick_no (by assumption)))); intro _ _) | ((rename Fr _ _ _ _ => lF'); refine' pick_1 lF' ?km ?kk ?kl ?h1 ?_; (case km => exact rfl); (case kk => exact rfl); (case kl => kmk_list); (case h1 => (k_steps; all_goals (first | exact pick_yes (by assumption) | exact pick_no (by assumption)))); intro _ _) | ((rename Fr _ _ _ _ => lF'); refine' pick_2 lF' ?km ?kk ?kl ?h1 ?_; (case km => exact rfl); (case kk => exact rfl); (case kl => kmk_list); (case h1 => (k_steps; all_goals (first | exact pick_yes (by assumption) | exact pick_no (by assumption)))); intro _ _)))
  k_with "my call builtin:max" => (k_here; (with_reducible show wpAny _ _ (call _ [Value.int _ _, Value.int _ _]) _ _ _); (rename News _ _ _ _ => N'); (rename Fr _ _ _ _ => F'); with_unfolding_all (refine max2_i (by rfl) F' N' ?_); clear F' N'; intro _ _ _ F' N')
  k_with "my compareOp NotEq int int" => (k_here; k_dflt (refine ne_stop (by assumption) (by assumption) (by assumption) (by assumption) ?_))
  k_with "my compareOp NotEq str str" => (k_here; k_dflt (refine ne_same ?_))
  k_with "my call ref" => (k_here; (with_reducible show wpAny _ _ (call (Value.ref 151) _) _ _ _); k_dflt (refine' host_c _ _ _ _ _ _ _ _ _ _ _ _ _ _ _ _ _ _ _ _ _ _ _ _ ?k1 ?k2 ?k3 ?k4 ?k5 ?kK ?kp ?kd ?ku ?_); (case k1 => k_dflt k_asm); (case k2 => k_dflt k_asm); (case k3 => k_dflt k_asm); (case k4 => k_dflt k_asm); (case k5 => k_dflt k_asm); (case kK => first | exact rfl | assumption); (case kp => (first | (exact part_in (by assumption) (by assumption) (by assumption) (by assumption)) | (exact ⟨by assumption, by assumption⟩) | (exact ⟨by assumption, by assumption, by assumption, by assumption⟩) | omega)); (case kd => ktr_room); (case ku => ktr_units); intro t9 h9 tk9 F9 N9; (try dsimp only); (try k_fold))
  k_with "my call ref" => (k_here; (with_reducible show wpAny _ _ (call (Value.ref 140) _) _ _ _); k_dflt (refine' ws_c _ _ _ _ _ _ _ _ _ _ _ _ _ _ _ _ _ _ _ _ _ _ _ _ ?k1 ?k2 ?k3 ?k4 ?k5 ?kK ?kp ?kd ?ku ?_); (case k1 => k_dflt k_asm); (case k2 => k_dflt k_asm); (case k3 => k_dflt k_asm); (case k4 => k_dflt k_asm); (case k5 => k_dflt k_asm); (case kK => first | exact rfl | assumption); (case kp => (first | (exact part_in (by assumption) (by assumption) (by assumption) (by assumption)) | (exact ⟨by assumption, by assumption⟩) | (exact ⟨by assumption, by assumption, by assumption, by assumption⟩) | omega)); (case kd => ktr_room); (case ku => ktr_units); intro v9 h9 tk9 nx9 P9 F9 N9; k_dflt (obtain ⟨o9, d9, c9, p9, ws9, k19, k29, k39, k49, k59, t19, t29, t39, t49, ev9, en9, hI9, l19, l29, l39, l49⟩ := P9); (try dsimp only); subst ev9; subst en9; (try k_sweep); (try k_fold))
  k_with "my call ref" => (k_here; (with_reducible show wpAny _ _ (call (Value.ref 158) _) _ _ _); k_dflt (refine' part_c _ _ _ _ _ _ _ _ _ _ _ _ _ _ _ _ _ _ _ _ _ _ _ _ _ _ ?k1 ?k2 ?k3 ?k4 ?k5 ?kK ?kp ?kd ?ku ?_); (case k1 => k_dflt k_asm); (case k2 => k_dflt k_asm); (case k3 => k_dflt k_asm); (case k4 => k_dflt k_asm); (case k5 => k_dflt k_asm); (case kK => first | exact rfl | assumption); (case kp => (first | (exact part_in (by assumption) (by assumption) (by assumption) (by assumption)) | (exact ⟨by assumption, by assumption⟩) | (exact ⟨by assumption, by assumption, by assumption, by assumption⟩) | omega)); (case kd => ktr_room); (case ku => ktr_units); intro t9 h9 tk9 F9 N9; (try dsimp only); (try k_fold))
  k_with "my call ref" => (k_here; (with_reducible show wpAny _ _ (call (Value.ref 165) _) _ _ _); k_dflt (refine' dom_c _ _ _ _ _ _ _ _ _ _ _ _ _ _ _ _ _ _ _ _ _ _ _ _ _ _ ?k1 ?k2 ?k3 ?k4 ?k5 ?kK ?kp ?kd ?ku ?_); (case k1 => k_dflt k_asm); (case k2 => k_dflt k_asm); (case k3 => k_dflt k_asm); (case k4 => k_dflt k_asm); (case k5 => k_dflt k_asm); (case kK => first | exact rfl | assumption); (case kp => (first | (exact part_in (by assumption) (by assumption) (by assumption) (by assumption)) | (exact ⟨by assumption, by assumption⟩) | (exact ⟨by assumption, by assumption, by assumption, by assumption⟩) | omega)); (case kd => ktr_room); (case ku => ktr_units); intro t9 h9 tk9 F9 N9; (try dsimp only); (try k_fold))
  k_with "my call ref" => (k_here; (with_reducible show wpAny _ _ (call (Value.ref 172) _) _ _ _); k_dflt (refine' stop_c _ _ _ _ _ _ _ _ _ _ _ _ _ _ _ _ _ _ _ _ _ _ _ _ _ _ ?k1 ?k2 ?k3 ?k4 ?k5 ?kK ?kp ?kd ?ku ?_); (case k1 => k_dflt k_asm); (case k2 => k_dflt k_asm); (case k3 => k_dflt k_asm); (case k4 => k_dflt k_asm); (case k5 => k_dflt k_asm); (case kK => first | exact rfl | assumption); (case kp => (exact ⟨by assumption, by omega, by omega⟩)); (case kd => ktr_room); (case ku => ktr_units); intro t9 h9 tk9 F9 N9; (try dsimp only); (try k_fold))
  k_with "my call ref" => (k_here; (with_reducible show wpAny _ _ (call (Value.ref 186) _) _ _ _); k_dflt (refine' read_any _ _ _ _ _ _ _ _ _ _ _ _ _ _ _ _ _ _ _ _ _ _ _ _ _ _ ?k1 ?k2 ?k3 ?k4 ?k5 ?kK ?kp ?kd ?ku ?_); (case k1 => k_dflt k_asm); (case k2 => k_dflt k_asm); (case k3 => k_dflt k_asm); (case k4 => k_dflt k_asm); (case k5 => k_dflt k_asm); (case kK => first | exact rfl | assumption); (case kp => (refine' ⟨⟨?_, ?_, ?_, ?_, ?rl⟩, ?rb⟩; (case rl => k_dflt k_mem); (case rb => exact ⟨by assumption, by assumption, by assumption, by assumption, by assumption, by assumption⟩))); (case kd => ktr_room); (case ku => ktr_units); intro v9 h9 tk9 nx9 P9 F9 N9; k_dflt (obtain ⟨p9, tl9, arm9, rv9, u19, u29, u39, t19, ev9, en9, l19, l29, hF9⟩ := P9); (try dsimp only); subst ev9; subst en9; (try k_sweep); (try k_fold))
  k_with "my call ref" => (k_here; (with_reducible show wpAny _ _ (call (Value.ref 186) _) _ _ _); k_dflt (refine' read_tell _ _ _ _ _ _ _ _ _ _ _ _ _ _ _ _ _ _ _ _ _ _ _ _ _ _ _ ?k1 ?k2 ?k3 ?k4 ?k5 ?kK ?kp ?kd ?ku ?_); (case k1 => k_dflt k_asm); (case k2 => k_dflt k_asm); (case k3 => k_dflt k_asm); (case k4 => k_dflt k_asm); (case k5 => k_dflt k_asm); (case kK => first | exact rfl | assumption); (case kp => (refine' ⟨⟨?_, ?_, ?_, ?_, ?rl⟩, ?rb⟩; (case rl => k_dflt k_mem); (case rb => refine ⟨(part_in (by assumption) (by assumption) (by assumption) (by assumption)), (part_in (by assumption) (by assumption) (by assumption) (by assumption)), (part_in (by assumption) (by assumption) (by assumption) (by assumption)), ?_⟩; first | exact tell_of_same (by assumption) (by assumption) | exact tell_of_below (by assumption) (by assumption) | exact tell_of_above (by assumption) (by assumption) (by assumption)))); (case kd => ktr_room); (case ku => ktr_units); intro v9 h9 tk9 nx9 P9 F9 N9; k_dflt (obtain ⟨p9, tl9, rv9, u19, u29, u39, t19, ev9, en9, l19, l29, hZ9⟩ := P9); (try dsimp only); subst ev9; subst en9; (try k_sweep); (try k_fold))
  k_with "my call ref" => (k_here; (with_reducible show wpAny _ _ (call (Value.ref 179) _) _ _ _); k_dflt (refine' order_c _ _ _ _ _ _ _ _ _ _ _ _ _ _ _ _ _ _ _ _ _ _ _ _ ?k1 ?k2 ?k3 ?k4 ?k5 ?kK ?kp ?kd ?ku ?_); (case k1 => k_dflt k_asm); (case k2 => k_dflt k_asm); (case k3 => k_dflt k_asm); (case k4 => k_dflt k_asm); (case k5 => k_dflt k_asm); (case kK => first | exact rfl | assumption); (case kp => trivial); (case kd => ktr_room); (case ku => ktr_units); intro v9 h9 tk9 nx9 P9 F9 N9; k_dflt (obtain ⟨p9, g9, m9, l9, t19, t29, t39, ev9, en9, eg9, em9, el9, hlt9⟩ := P9); (try dsimp only); subst ev9; subst en9; (have hF9 := facts_app (by assumption) eg9 em9 el9); (try k_sweep); (try k_fold))
  k_with "my call ref" => (k_here; (with_reducible show wpAny _ _ (call (Value.ref 172) [_, Value.int (sel _ _ _ _) _]) _ _ _); k_dflt (refine' whole_c _ _ _ _ _ _ _ _ _ _ _ _ _ _ _ _ _ _ _ _ _ _ _ _ _ _ ?k1 ?k2 ?k3 ?k4 ?k5 ?kK ?kp ?kd ?ku ?_); (case k1 => k_dflt k_asm); (case k2 => k_dflt k_asm); (case k3 => k_dflt k_asm); (case k4 => k_dflt k_asm); (case k5 => k_dflt k_asm); (case kK => first | exact rfl | assumption); (case kp => (exact whole_pre (by assumption) (by assumption))); (case kd => ktr_room); (case ku => ktr_units); intro t9 h9 tk9 F9 N9; (try dsimp only); (try k_fold))
  k_with "my subscriptTail Name Name ref int" => (k_here; (with_reducible show wpAny _ _ (subscriptTail _ _ (Value.ref _) (Value.int _ _)) _ _ _); k_dflt (refine' item3_int ?h0 ?h2 ?kl ?_ ?ks ?kt; (case h0 => (first | exact Facts.g0 (by assumption) | exact Facts.m0 (by assumption) | exact Facts.l0 (by assumption))); (case h2 => (first | exact Facts.g2 (by assumption) | exact Facts.m2 (by assumption) | exact Facts.l2 (by assumption))); (case kl => kmk_list); (case ks => intro _; with_unfolding_all rfl); (case kt => intro _; with_unfolding_all rfl); intro _))
  k_with "my subscriptTail Name Name ref int" => (k_here; (with_reducible show wpAny _ _ (subscriptTail _ _ (Value.ref _) (Value.int _ _)) _ _ _); (rename News _ _ _ _ => lN'); k_dflt (refine' item3_lead ?h0 ?h2 ?kN ?kl ?hx ?hy ?hz ?_ ?ks ?kt; (case h0 => (first | exact Facts.g0 (by assumption) | exact Facts.m0 (by assumption) | exact Facts.l0 (by assumption))); (case h2 => (first | exact Facts.g2 (by assumption) | exact Facts.m2 (by assumption) | exact Facts.l2 (by assumption))); (case kl => kmk_list); (case kN => exact lN'); (case hx => (refine' lead_in ?m3 ?m4 ?m1 ?m2 ?hI; (case m3 => k_mem); (case m4 => k_mem); (case m1 => k_mem); (case m2 => k_mem); (case hI => assumption))); (case hy => (refine' lead_in ?m3 ?m4 ?m1 ?m2 ?hI; (case m3 => k_mem); (case m4 => k_mem); (case m1 => k_mem); (case m2 => k_mem); (case hI => assumption))); (case hz => (refine' lead_in ?m3 ?m4 ?m1 ?m2 ?hI; (case m3 => k_mem); (case m4 => k_mem); (case m1 => k_mem); (case m2 => k_mem); (case hI => assumption))); (case ks => intro _; with_unfolding_all rfl); (case kt => intro _; with_unfolding_all rfl); intro _ _))
  k_with "my compareOp Eq ref ref" => (k_here; k_dflt (refine' told_same ?ka ?kb ?ku ?_; (case ka => kmk_list); (case kb => kmk_list); (case ku => ke_room)))
  k_with "my compareOp Eq ref ref" => (k_here; (rename News _ _ _ _ => lN'); k_dflt (refine' tell_same ?kp ?kq ?ka ?kb ?kz ?ku ?_; (case kp => exact tup_at lN' (by k_mem)); (case kq => exact tup_at lN' (by k_mem)); (case ka => kmk_list); (case kb => kmk_list); (case kz => assumption); (case ku => ke_room)))
  refine hd ?_
  k_go0
  all_goals try k_fold
  k_steps
end Mine
end PartLW
end Whole
theorem PySem.Challenge.cw_xg0074_01_holds : PySem.Challenge.rw_xg0074_01.Holds := by
  exact Mine.law0
