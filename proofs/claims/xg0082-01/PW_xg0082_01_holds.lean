import PyProof.Rows.All
import Wide.All
import OpenK.AllK
import Wide.FinOn
import PySem.Challenge.RW_xg0082_01
set_option Elab.async false
set_option linter.unusedVariables false
section
open PySem PySem.W PyProof.Rows
namespace Mine
set_option maxRecDepth 100000
set_option maxHeartbeats 8000000
open_top hd for PySem.Challenge.rw_xg0082_01
end Mine
end
section
open PySem PySem.W PySem.Spec PySem.Calls PyProof.Rows
namespace Mine
set_option maxRecDepth 100000
/-- what a call of the text's own def gives: one contract, over any caller -/
def Ctr (w : World) (k : Nat) (f : Addr) (vs : List Value) (news : List (Addr × Obj)) (R : Value → List (Addr × Obj) → Prop) : Prop :=
  ∀ (p : Program) (loose : List Str) (mean : ExcName → Option Value) (mg mb : Str → Option Value) (dp un : Nat) (gd : Option (List Code)) (cn : Str) (cs : Scope) (a : Addr) (ccd : Value) (cl : List (Str × Addr)) (outer : List Env) (A₀ : Around) (base h₀ : Heap) (L : Addr) (m : Str → Option Value) (s : Shared) (Q E : Value → Shared → Prop),
    Below A₀ base outer h₀ → Fr h₀ L s.heap m → (hd.heap_39 w.params).In h₀ → News h₀ L s.heap news → Top p loose mean mg mb h₀ → cs.kind = .function →
    CodeHd base 77 73 → CodeHd base 84 80 → dp + k < recursionLimit → un + 8 * k < cLine →
    (∀ r news' h' tk', Fr h₀ L h' m → News h₀ L h' news' → R r news' → Q r { s with heap := h', toks := tk' }) →
    wpAny (model PySem.Challenge.rw_xg0082_01.row.prog w) (ktrTop dp un gd cn cs L a ccd cl outer) (call (.ref f) vs) Q E s
/-- the same, what stood in the ledger stands -/
abbrev CtrS (w : World) (k : Nat) (f : Addr) (vs : List Value) (R : Value → Prop) : Prop :=
  ∀ news, Ctr w k f vs news fun r news' => news' = news ∧ R r
theorem Ctr.use {w : World} {k : Nat} {f : Addr} {vs : List Value} {news : List (Addr × Obj)} {R : Value → List (Addr × Obj) → Prop} {p : Program} {loose : List Str} {mean : ExcName → Option Value} {mg mb : Str → Option Value} {dp un : Nat} {gd : Option (List Code)} {cn : Str} {cs : Scope} {a : Addr} {ccd : Value} {cl : List (Str × Addr)} {outer : List Env} {A₀ : Around} {base h₀ : Heap} {L : Addr} {m : Str → Option Value} {s : Shared} {Q E : Value → Shared → Prop}
    (C : Ctr w k f vs news R) (B : Below A₀ base outer h₀) (F : Fr h₀ L s.heap m) (X : (hd.heap_39 w.params).In h₀) (N : News h₀ L s.heap news) (T : Top p loose mean mg mb h₀) (hk : cs.kind = .function)
    (c1 : CodeHd base 77 73) (c2 : CodeHd base 84 80) (hd : dp + k < recursionLimit) (hu : un + 8 * k < cLine)
    (ret : ∀ r news' h' tk', Fr h₀ L h' m → News h₀ L h' news' → R r news' → Q r { s with heap := h', toks := tk' }) :
    wpAny (model PySem.Challenge.rw_xg0082_01.row.prog w) (ktrTop dp un gd cn cs L a ccd cl outer) (call (.ref f) vs) Q E s := C _ _ _ _ _ _ _ _ _ _ _ _ _ _ _ _ _ _ _ _ _ _ B F X N T hk c1 c2 hd hu ret
theorem CtrS.use {w : World} {k : Nat} {f : Addr} {vs : List Value} {news : List (Addr × Obj)} {R : Value → Prop} {p : Program} {loose : List Str} {mean : ExcName → Option Value} {mg mb : Str → Option Value} {dp un : Nat} {gd : Option (List Code)} {cn : Str} {cs : Scope} {a : Addr} {ccd : Value} {cl : List (Str × Addr)} {outer : List Env} {A₀ : Around} {base h₀ : Heap} {L : Addr} {m : Str → Option Value} {s : Shared} {Q E : Value → Shared → Prop}
    (C : CtrS w k f vs R) (B : Below A₀ base outer h₀) (F : Fr h₀ L s.heap m) (X : (hd.heap_39 w.params).In h₀) (N : News h₀ L s.heap news) (T : Top p loose mean mg mb h₀) (hk : cs.kind = .function)
    (c1 : CodeHd base 77 73) (c2 : CodeHd base 84 80) (hd : dp + k < recursionLimit) (hu : un + 8 * k < cLine)
    (ret : ∀ r h' tk', Fr h₀ L h' m → News h₀ L h' news → R r → Q r { s with heap := h', toks := tk' }) :
    wpAny (model PySem.Challenge.rw_xg0082_01.row.prog w) (ktrTop dp un gd cn cs L a ccd cl outer) (call (.ref f) vs) Q E s :=
  Ctr.use (C news) B F X N T hk c1 c2 hd hu fun r news' h' tk' F' N' ⟨e, hr⟩ => ret r h' tk' F' (e ▸ N') hr
theorem fill_it : (fun (P : Params) => (hd.heap_39 P, PySem.Challenge.rw_xg0082_01)) = (fun P => (hd.heap_39 P, PySem.Challenge.rw_xg0082_01)) := by
  k_fill
  rfl
end Mine
end
section
open PySem PySem.W PySem.Spec PySem.Calls PyProof.Rows
namespace Mine
set_option maxRecDepth 100000
set_option maxHeartbeats 4000000
theorem re_slot : Slot "re.Pattern" "search" "re.Pattern.search" :=
  .of (owner := "re.Pattern") (n := "search") (by rw [typeLookup_type, builtinLookup_eq_fast]; kernel_rfl) (by decide +kernel) (by decide +kernel) (by decide +kernel)
    (by first | exact .inl (by decide +kernel) | exact .inr (by decide +kernel)) (by rw [isSubtype_type]; kernel_rfl)
theorem re_type : typeOf (.builtin "re.Pattern.search") = pure (.type "method_descriptor") := by show builtinType _ = _; rw [builtinType_eq_fast]; kernel_rfl
theorem re_plain : PlainAttrs "re.Pattern" :=
  ⟨⟨"object.__getattribute__", by rw [typeLookup_type, builtinLookup_eq_fast]; kernel_rfl, by decide +kernel⟩, by rw [typeLookup_type, builtinLookup_eq_fast]; kernel_rfl⟩
theorem re_entry : entryFor table "re.Pattern.search" = some Builtin.«re.Pattern.search» := entryFor_of_tree (by kernel_rfl)
theorem re_args (a b : Value) : argsOk "re.Pattern.search" ⟨[a, b], []⟩ := by
  unfold argsOk; kernel_rfl
end Mine
end
section
open PySem PySem.W PySem.Spec PySem.Calls PyProof.Rows
namespace Mine
set_option maxRecDepth 100000
set_option maxHeartbeats 4000000
namespace Re
open PySem.Sre
def code : Array Nat := #[14, 8, 1, 2, 4294967295, 1, 1, 46, 0, 16, 46, 24, 9, 1, 4294967295, 13, 4, 8, 0, 0, 1, 6, 5, 1]
/-- the machine at a start -/
def A (text : Array Nat) (s : Nat) (f : Bool) (sn : Sre.Seen) : Sre.M :=
  { code := code, text := text, lim := text.size, start := s, lastStart := text.size, pc := 9, pos := s, handed := s, outermost := f, marks := #[], frames := [{ wait := .nextStart, pc := 9, pos := s, outermost := f }], weight := 1, seen := sn }
/-- the same, this start having failed -/
def B (text : Array Nat) (s : Nat) (f : Bool) (pos pc hn : Nat) (sn : Sre.Seen) : Sre.M :=
  { code := code, text := text, lim := text.size, start := s, lastStart := text.size, pc := pc, pos := pos, handed := hn, outermost := f, marks := #[], frames := [{ wait := .nextStart, pc := 9, pos := s, outermost := f }], weight := 1, seen := sn, answer := some false }
def Z (text : Array Nat) (s : Nat) (f : Bool) (hn : Nat) (sn : Sre.Seen) : Sre.M :=
  { code := code, text := text, lim := text.size, start := s, lastStart := text.size, pc := 9, pos := s, handed := hn, outermost := f, marks := #[], frames := [], weight := 0, seen := sn, answer := some false }
def C (text : Array Nat) (s : Nat) (f : Bool) (sn : Sre.Seen) : Sre.M :=
  { code := code, text := text, lim := text.size, start := s, lastStart := text.size, pc := 11, pos := s + 1, handed := s, outermost := f, marks := #[], frames := [{ wait := .nextStart, pc := 9, pos := s, outermost := f }], weight := 1, seen := sn }
theorem begin_ (text : Array Nat) (h : 2 ≤ text.size) : ∃ sn, forSearch code text 0 0 text.size false = A text 0 true sn := by
  refine ⟨({} : Sre.Seen).add 14, ?_⟩
  have e : (decide (0 > text.size) || decide (text.size - 0 < 2)) = false := by
    rw [Bool.or_eq_false_iff]; constructor <;> simp <;> omega
  show (if (decide (0 > text.size) || decide (text.size - 0 < 2)) = true then _ else _) = _
  rw [e]
  rfl
theorem stepA (text : Array Nat) (s : Nat) (f : Bool) (sn : Sre.Seen) : (A text s f sn).step = if s ≥ text.size then B text s f s 9 s (sn.add 16) else (match text.getD s 0 == 46 with | true => C text s f (sn.add 16) | false => B text s f s 9 s (sn.add 16)) := by
  show (A text s f sn).exec = _
  show (if s ≥ text.size then _ else _) = _
  split
  · rfl
  · show (match (Except.ok (text.getD s 0 == 46, sn.add 16) : Except String (Bool × Sre.Seen)) with | .error why => _ | .ok (false, seen) => _ | .ok (true, seen) => _) = _
    cases text.getD s 0 == 46 <;> rfl
theorem stepB (text : Array Nat) (s : Nat) (f : Bool) (pos pc hn : Nat) (sn : Sre.Seen) : (B text s f pos pc hn sn).step = if s < text.size then A text (s + 1) false sn else Z text s f hn sn := by
  show (if s < text.size then _ else _) = _
  split
  · rfl
  · rfl
/-- the machine in the run of figures, at the end's test, and behind it -/
def D (text : Array Nat) (s : Nat) (f : Bool) (sn : Sre.Seen) : Sre.M :=
  { code := code, text := text, lim := text.size, start := s, lastStart := text.size, pc := 21, pos := s + 2, handed := s + 2, outermost := f, marks := #[], frames := [{ wait := .giveBack, pc := 11, pos := s + 2, outermost := f, count := 1 }, { wait := .nextStart, pc := 9, pos := s, outermost := f }], weight := 2, seen := sn }
theorem stepC0 (text : Array Nat) (s : Nat) (f : Bool) (sn : Sre.Seen) (h : text.size = s + 1) : (C text s f sn).step = B text s f (s + 1) 11 s (sn.add 24) := by
  show (if ((1 : Nat) : Int) > ((text.size : Nat) : Int) - ((s + 1 : Nat) : Int) then _ else _) = _
  rw [if_pos (by omega)]
  rfl
theorem cat0 (c : Nat) : Sre.category 0 c = .ok (Sre.isDigit c) := by
  show Except.map (fun b : Bool => b != false) (Except.ok (Sre.isDigit c)) = _
  cases Sre.isDigit c <;> rfl
theorem acc15 (c : Nat) (sn : Sre.Seen) : ∃ sn', Sre.accepts code 15 c sn = .ok (Sre.isDigit c, sn') := by
  have e : Sre.accepts code 15 c sn = (do
      if ← Sre.category 0 c then pure (true, (sn.add 8).add 55) else Sre.inSet code c 23 19 true ((sn.add 8).add 55)) := rfl
  rw [e, cat0]
  cases Sre.isDigit c
  · exact ⟨_, rfl⟩
  · exact ⟨_, rfl⟩
theorem run0 {text : Array Nat} {p : Nat} (hd : Sre.isDigit (text.getD p 0) = false) (n k : Nat) (sn : Sre.Seen) : ∃ sn', Sre.run code text 15 n p k sn = .ok (k, sn') := by
  cases n with
  | zero => exact ⟨_, rfl⟩
  | succ n =>
    obtain ⟨sn', e⟩ := acc15 (text.getD p 0) sn
    refine ⟨sn', ?_⟩
    show (do let (yes, seen) ← Sre.accepts code 15 (text.getD p 0) sn
             if yes then Sre.run code text 15 n (p + 1) (k + 1) seen else pure (k, seen)) = _
    rw [e, hd]
    rfl
theorem run1 {text : Array Nat} {p : Nat} (hd : Sre.isDigit (text.getD p 0) = true) (hd' : Sre.isDigit (text.getD (p + 1) 0) = false) (n k : Nat) (sn : Sre.Seen) : ∃ sn', Sre.run code text 15 (n + 1) p k sn = .ok (k + 1, sn') := by
  obtain ⟨sn', e⟩ := acc15 (text.getD p 0) sn
  obtain ⟨sn2, e2⟩ := run0 hd' n (k + 1) sn'
  refine ⟨sn2, ?_⟩
  show (do let (yes, seen) ← Sre.accepts code 15 (text.getD p 0) sn
           if yes then Sre.run code text 15 n (p + 1) (k + 1) seen else pure (k, seen)) = _
  rw [e, hd]
  exact e2
theorem room_nat (a b : Nat) : (((a : Nat) : Int) - ((b : Nat) : Int)).toNat = a - b := by omega
theorem min_big {a : Nat} (h : a ≤ 1000) : min 4294967295 a = a := by omega
theorem stepC1 {text : Array Nat} {s : Nat} (f : Bool) (sn : Sre.Seen) (h : s + 1 < text.size) (hd : Sre.isDigit (text.getD (s + 1) 0) = false) : ∃ sn', (C text s f sn).step = B text s f (s + 1) 11 s sn' := by
  obtain ⟨sn', e⟩ := run0 hd (min 4294967295 (((text.size : Nat) : Int) - ((s + 1 : Nat) : Int)).toNat) 0 ((sn.add 24).add 13)
  refine ⟨sn', ?_⟩
  show (if ((1 : Nat) : Int) > ((text.size : Nat) : Int) - ((s + 1 : Nat) : Int) then _ else (match Sre.run code text 15 (min 4294967295 (((text.size : Nat) : Int) - ((s + 1 : Nat) : Int)).toNat) (s + 1) 0 ((sn.add 24).add 13) with | .error why => _ | .ok (n, seen) => _)) = _
  rw [if_neg (by omega), e]
  rfl
theorem stepC2 {text : Array Nat} {s : Nat} (f : Bool) (sn : Sre.Seen) (h : s + 2 < text.size) (hd : Sre.isDigit (text.getD (s + 1) 0) = true) (hd' : Sre.isDigit (text.getD (s + 2) 0) = false) : ∃ sn', (C text s f sn).step = D text s f sn' := by
  obtain ⟨n, hn⟩ : ∃ n, min 4294967295 (((text.size : Nat) : Int) - ((s + 1 : Nat) : Int)).toNat = n + 1 := ⟨min 4294967295 (((text.size : Nat) : Int) - ((s + 1 : Nat) : Int)).toNat - 1, by omega⟩
  obtain ⟨sn', e⟩ := run1 hd hd' n 0 ((sn.add 24).add 13)
  refine ⟨sn', ?_⟩
  show (if ((1 : Nat) : Int) > ((text.size : Nat) : Int) - ((s + 1 : Nat) : Int) then _ else (match Sre.run code text 15 (min 4294967295 (((text.size : Nat) : Int) - ((s + 1 : Nat) : Int)).toNat) (s + 1) 0 ((sn.add 24).add 13) with | .error why => _ | .ok (n, seen) => _)) = _
  rw [if_neg (by omega), hn, e]
  rfl
theorem stepD {text : Array Nat} {s : Nat} (f : Bool) (sn : Sre.Seen) (h : s + 2 < text.size) (hn : text.getD (s + 2) 0 ≠ 10) : ∃ sn', (D text s f sn).step.step = B text s f (s + 2) 11 (s + 2) sn' := by
  have e : ((s + 2 == text.size) || (s + 2 + 1 == text.size && text.getD (s + 2) 0 == 10)) = false := by
    simp only [Bool.or_eq_false_iff, beq_eq_false_iff_ne, Bool.and_eq_false_iff]
    exact ⟨by omega, .inr hn⟩
  refine ⟨(sn.add 6).add 48, ?_⟩
  have e1 : (D text s f sn).step = (if ((s + 2 == text.size) || (s + 2 + 1 == text.size && text.getD (s + 2) 0 == 10)) = true then _ else { D text s f ((sn.add 6).add 48) with answer := some false }) := rfl
  rw [e1, e]
  rfl
/-- no dot that figures follow to the end (a dot, at most one figure, more) -/
def okT (l : List Nat) : Prop := ∀ s, l.getD s 0 = 46 → (s + 1 < l.length → Sre.isDigit (l.getD (s + 1) 0) = true → s + 2 < l.length ∧ Sre.isDigit (l.getD (s + 2) 0) = false ∧ l.getD (s + 2) 0 ≠ 10)
theorem getD_toList (text : Array Nat) (i : Nat) : text.getD i 0 = text.toList.getD i 0 := by
  simp [Array.getD_eq_getD_getElem?, List.getD_eq_getElem?_getD]
theorem runFor_add (m : Sre.M) (a b : Nat) : m.runFor (a + b) = (m.runFor a).runFor b := by
  induction a generalizing m with
  | zero => rw [Nat.zero_add]; rfl
  | succ a ih =>
    rw [Nat.succ_add]
    show (if m.outcome.isSome = true then m else m.step.runFor (a + b)) = (if m.outcome.isSome = true then m else m.step.runFor a).runFor b
    by_cases h : m.outcome.isSome = true
    · rw [if_pos h, if_pos h]
      cases b with
      | zero => rfl
      | succ b => show m = (if m.outcome.isSome = true then m else _); rw [if_pos h]
    · rw [if_neg h, if_neg h, ih]
theorem runFor_one {m : Sre.M} (h : m.outcome = none) : m.runFor 1 = m.step := by
  show (if m.outcome.isSome = true then m else m.step) = _
  rw [h]; rfl
theorem runFor_next {m : Sre.M} (h : m.outcome = none) (k : Nat) : m.runFor (k + 1) = m.step.runFor k := by
  rw [Nat.add_comm, runFor_add, runFor_one h]
theorem runFor_end {m : Sre.M} (h : m.outcome = some .failed) : ∀ k, m.runFor k = m
  | 0 => rfl
  | k + 1 => by show (if m.outcome.isSome = true then m else _) = m; rw [h]; rfl
theorem fails_B {text : Array Nat} {s : Nat} (f : Bool) (pos pc hn : Nat) (sn : Sre.Seen) (hs : s < text.size) (k : Nat) (h : ∀ sn, ((A text (s + 1) false sn).runFor k).outcome = some .failed) : ((B text s f pos pc hn sn).runFor (k + 1)).outcome = some .failed := by
  rw [runFor_next rfl, stepB, if_pos hs]
  exact h sn
theorem more {m : Sre.M} {a b : Nat} (h : (m.runFor a).outcome = some .failed) (hab : a ≤ b) : (m.runFor b).outcome = some .failed := by
  obtain ⟨c, rfl⟩ : ∃ c, b = a + c := ⟨b - a, by omega⟩
  rw [runFor_add, runFor_end h]; exact h
theorem fails_A {text : Array Nat} (ok : okT text.toList) : ∀ (n s : Nat) (f : Bool) (sn : Sre.Seen), n = text.size - s → s ≤ text.size → ((A text s f sn).runFor (5 * n + 3)).outcome = some .failed := by
  intro n
  induction n with
  | zero =>
    intro s f sn hn hs
    rw [runFor_next rfl, stepA, if_pos (by omega), runFor_next rfl, stepB, if_neg (by omega), runFor_next rfl]
    rfl
  | succ n ih =>
    intro s f sn hn hs
    have hlt : s < text.size := by omega
    have next : ∀ pos pc hn sn, ((B text s f pos pc hn sn).runFor (5 * n + 4)).outcome = some .failed := fun pos pc hn sn => fails_B f pos pc hn sn hlt _ fun sn => ih (s + 1) false sn (by omega) (by omega)
    rw [show 5 * (n + 1) + 3 = (5 * n + 7) + 1 by omega, runFor_next rfl, stepA, if_neg (by omega)]
    cases hc : text.getD s 0 == 46 with
    | false => exact more (next _ _ _ _) (by omega)
    | true =>
      have hc' := beq_iff_eq.mp hc
      rw [getD_toList] at hc'
      have o := ok s hc'
      rw [← getD_toList, ← getD_toList, Array.length_toList] at o
      show ((C text s f _).runFor (5 * n + 6 + 1)).outcome = _
      rw [runFor_next rfl]
      by_cases h1 : s + 1 < text.size
      · cases hd : Sre.isDigit (text.getD (s + 1) 0) with
        | false =>
          obtain ⟨sn', e⟩ := stepC1 f (sn.add 16) h1 hd
          rw [e]; exact more (next _ _ _ _) (by omega)
        | true =>
          obtain ⟨h2, hd', h10⟩ := o h1 hd
          obtain ⟨sn', e⟩ := stepC2 f (sn.add 16) h2 hd hd'
          rw [e]
          obtain ⟨sn2, e2⟩ := stepD f sn' h2 h10
          have hD : (D text s f sn').step.outcome = none := by
            have e3 : ((s + 2 == text.size) || (s + 2 + 1 == text.size && text.getD (s + 2) 0 == 10)) = false := by
              simp only [Bool.or_eq_false_iff, beq_eq_false_iff_ne, Bool.and_eq_false_iff]
              exact ⟨by omega, .inr h10⟩
            have e1 : (D text s f sn').step = (if ((s + 2 == text.size) || (s + 2 + 1 == text.size && text.getD (s + 2) 0 == 10)) = true then _ else { D text s f ((sn'.add 6).add 48) with answer := some false }) := rfl
            rw [e1, e3]; rfl
          show ((D text s f sn').runFor (5 * n + 5 + 1)).outcome = _
          rw [runFor_next rfl]
          show ((D text s f sn').step.runFor (5 * n + 4 + 1)).outcome = _
          rw [runFor_next hD, e2]
          exact next _ _ _ _
      · rw [stepC0 _ _ _ _ (by omega)]
        exact more (next _ _ _ _) (by omega)
theorem fails {text : Array Nat} (h : 2 ≤ text.size) (ok : okT text.toList) : ((Sre.forSearch code text 0 0 text.size false).runFor (5 * text.size + 3)).outcome = some .failed := by
  obtain ⟨sn, e⟩ := begin_ text h
  rw [e]
  exact fails_A ok text.size 0 true sn rfl (Nat.zero_le _)
end Re
end Mine
end
section
open PySem PySem.W PySem.Spec PySem.Calls PyProof.Rows
namespace Mine
set_option maxRecDepth 100000
set_option maxHeartbeats 4000000
namespace Re
section
variable {prog : Program} {w : World} {A : Around} {E : Value → Shared → Prop} {s : Shared}
theorem drive (N : Nat) : ∀ (j : Nat) (m : Sre.M) {Q : Sre.M → Shared → Prop}, (m.runFor (4 * (j + 1))).outcome = some .failed → j < N → (∀ m' : Sre.M, m'.outcome = some .failed → Q m' s) →
    wpAny (model prog w) A (Builtin.Re.reDrive N m) Q E s := by
  induction N with
  | zero => intro j m Q _ h _; omega
  | succ N ih =>
    intro j m Q h hj hq
    show wpAny _ _ (if (m.runFor 4).outcome.isSome = true then pure (m.runFor 4) else (rule "sre.turn" >>= fun _ => Builtin.Re.reDrive N (m.runFor 4))) _ _ _
    cases j with
    | zero =>
      have h' : (m.runFor 4).outcome = some .failed := h
      rw [if_pos (by rw [h']; rfl)]
      exact wpAny_pure (hq _ h')
    | succ j =>
      by_cases hs : (m.runFor 4).outcome.isSome = true
      · rw [if_pos hs]
        refine wpAny_pure (hq _ ?_)
        have e : ∀ k, (m.runFor 4).runFor k = m.runFor 4 := fun k => by
          cases k with
          | zero => rfl
          | succ k => show (if (m.runFor 4).outcome.isSome = true then _ else _) = _; rw [if_pos hs]
        rw [show 4 * (j + 1 + 1) = 4 + 4 * (j + 1) by omega, runFor_add, e] at h
        exact h
      · rw [if_neg hs]
        refine wpAny_bind (wpAny_rule (ih j _ ?_ (by omega) hq))
        rw [show 4 * (j + 1 + 1) = 4 + 4 * (j + 1) by omega, runFor_add] at h
        exact h
theorem rules {α : Type} (l : List α) (c : α → Bool) (g : α → String) {Q : PUnit → Shared → Prop} (h : Q ⟨⟩ s) :
    wpAny (model prog w) A (forIn l PUnit.unit fun i (_ : PUnit) => if c i = true then (rule (g i) >>= fun _ => pure (ForInStep.yield PUnit.unit)) else pure (ForInStep.yield PUnit.unit)) Q E s := by
  induction l with
  | nil => exact wpAny_pure h
  | cons a l ih =>
    rw [List.forIn_cons]
    refine wpAny_bind ?_
    split
    · exact wpAny_bind (wpAny_rule (wpAny_pure ih))
    · exact wpAny_pure ih
theorem runToEnd {m : Sre.M} {Q : Option Sre.M → Shared → Prop} (h : ∃ k, k ≤ 1000000 ∧ (m.runFor k).outcome = some .failed) (hq : Q none s) : wpAny (model prog w) A (Builtin.Re.reRunToEnd m) Q E s := by
  obtain ⟨k, hk, h⟩ := h
  unfold Builtin.Re.reRunToEnd
  refine wpAny_bind (drive _ k m (more h (by omega)) (by omega) fun m' hm => ?_)
  refine wpAny_bind ?_
  refine rules _ _ _ ?_
  rw [hm]
  exact wpAny_pure hq
theorem search {p c : Addr} {od : Option Addr} {sl : Array (Option Value)} {o : Obj} {x : Str} {t : Tok} {Q : Value → Shared → Prop} {v0 v1 v3 v4 : Value} {t2 t6 : Tok} {its : Array Value} {n : Nat}
    (hp : s.heap.get? p = some ⟨.type "re.Pattern", od, .fields #[v0, v1, .int 0 t2, v3, v4, .ref c, .int 0 t6], sl⟩)
    (hc : s.heap.get? c = some o) (hd : o.data = .seq its n) (hits : (its.map Builtin.Re.reRawOf).map (·.toNat) = code)
    (h2 : 2 ≤ x.cps.size) (hx : x.cps.size ≤ 100000) (ok : okT x.cps.toList) (hq : Q .none s) :
    wpAny (model prog w) A (call (.builtin "re.Pattern.search") [.ref p, .str x t]) Q E s := by
  refine wpAny_call_entry re_slot ⟨_, hp, rfl⟩ re_entry ?_ (re_args _ _)
  unfold Builtin.«re.Pattern.search»
  refine wpAny_bind ?_
  have en : Builtin.Re.reNamed "re.Pattern.search" "search" ["string", "pos", "endpos"] 1 [.str x t] [] = pure [some (.str x t), none, none] := by kernel_rfl
  show wpAny _ _ (Builtin.Re.reTarget "re.Pattern.search" "search" ⟨[.ref p, .str x t], []⟩) _ _ _
  unfold Builtin.Re.reTarget
  dsimp only
  rw [en]
  refine wpAny_bind (wpAny_pure ?_)
  dsimp only
  refine wpAny_bind (wpAny_pure ?_)
  refine wpAny_bind (wpAny_pure ?_)
  refine wpAny_bind (wpAny_fieldsOf hp rfl ?_)
  refine wpAny_bind (m := Builtin.Re.reTextOf (.str x t)) (wpAny_pure ?_)
  dsimp only
  rw [if_neg (by exact Bool.false_ne_true), if_neg (by exact Bool.false_ne_true)]
  refine wpAny_bind (m := Builtin.Re.reNoCollectionInside (.str x t) 0) (wpAny_pure ?_)
  refine wpAny_bind (m := Builtin.Re.reRawItems (.ref c)) ?_
  refine wpAny_bind (wpAny_seqItems hc hd ?_)
  refine wpAny_pure ?_
  refine wpAny_pure ?_
  dsimp only [Option.getD]
  rw [hits]
  unfold Builtin.Re.reAnswer
  refine wpAny_bind (runToEnd ?_ (wpAny_pure ⟨_, rfl, hq⟩))
  have hm : min (2 ^ 63 - 1 : Int).toNat x.cps.size = x.cps.size := by omega
  refine ⟨5 * x.cps.size + 3, by omega, ?_⟩
  rw [hm, show min (Int.toNat 0) x.cps.size = 0 by omega]
  exact fails h2 ok
end
end Re
end Mine
end
section
namespace Mine
theorem reset_L1 : True := by
  w_top off
  trivial
end Mine
open PySem PySem.W PySem.Spec PySem.Calls PyProof.Rows
namespace Mine
set_option maxRecDepth 100000
set_option maxHeartbeats 8000000
section
variable {M : Model} {prog : Program} {w : World} {A : Around} {E : Value → Shared → Prop} {s : Shared} {h₀ : Heap} {L : Addr} {m : Str → Option Value}
theorem at43 {P : Params} {h : Heap} (X : (hd.heap_39 P).In h) : ∃ v0 v1 v3 v4 t2 t6 sl od, h.get? 43 = some ⟨.type "re.Pattern", od, .fields #[v0, v1, .int 0 t2, v3, v4, .ref 42, .int 0 t6], sl⟩ ∧ od = none :=
  ⟨_, _, _, _, _, _, _, _, X 43 _ rfl, rfl⟩
theorem at42 {P : Params} {h : Heap} (X : (hd.heap_39 P).In h) : ∃ o its n, h.get? 42 = some o ∧ o.data = .seq its n ∧ (its.map Builtin.Re.reRawOf).map (·.toNat) = Re.code :=
  ⟨_, _, _, X 42 _ rfl, rfl, by decide +kernel⟩
theorem re_method {pl : Sem Bool} {Q : Value × List Value → Shared → Prop} (F : Fr h₀ L s.heap m) (X : (hd.heap_39 w.params).In h₀) (h : Q (.builtin "re.Pattern.search", [.ref 43]) s) :
    wpAny M A (getMethod (.ref 43) (Str.ofString "search") pl) Q E s := by
  obtain ⟨v0, v1, v3, v4, t2, t6, sl, od, e, hn⟩ := at43 (X.keeps F.keep)
  exact getMethod_builtin ⟨_, e, rfl⟩ re_plain re_slot re_type (fun a ha => by cases ha; exact ⟨_, e, hn⟩) h
/-- what the texts that are searched are like -/
def Plainly (x : Str) : Prop := 2 ≤ x.cps.size ∧ x.cps.size ≤ 100000 ∧ Re.okT x.cps.toList
theorem re_call {x : Str} {t : Tok} {Q : Value → Shared → Prop} (F : Fr h₀ L s.heap m) (X : (hd.heap_39 w.params).In h₀) (hx : Plainly x) (hq : Q .none s) :
    wpAny (model prog w) A (call (.builtin "re.Pattern.search") [.ref 43, .str x t]) Q E s := by
  obtain ⟨v0, v1, v3, v4, t2, t6, sl, od, e, hn⟩ := at43 (X.keeps F.keep)
  obtain ⟨o, its, n, hc, hd, hi⟩ := at42 (X.keeps F.keep)
  exact Re.search e hc hd hi hx.1 hx.2.1 hx.2.2 hq
end
theorem fill_2 : (fun (P : Params) => (hd.heap_39 P, PySem.Challenge.rw_xg0082_01)) = (fun P => (hd.heap_39 P, PySem.Challenge.rw_xg0082_01)) := by
  k_fill
  rfl
local macro_rules | `(tactic| walk_at "getMethod ref") => `(tactic| (k_here; (with_reducible show wpAny _ _ (getMethod (Value.ref 43) (Str.ofString "search") _) _ _ _); refine' re_method ?k1 ?k2 ?_; (case k1 => k_asm); (case k2 => k_asm)))
local macro_rules | `(tactic| walk_at "call builtin:re.Pattern.search") => `(tactic| (k_here; refine' re_call ?k1 ?k2 ?k3 ?_; (case k1 => k_asm); (case k2 => k_asm); (case k3 => assumption)))
theorem c_lib (w : World) (x : Str) (t : Tok) (hx : Plainly x) : CtrS w 4 57 [.str x t] (fun r => r = .bool true) := by
  intro news p loose mean mg mb dp un gd cn cs a ccd cl outer A₀ base h₀ L m s Q E B F X N T hk C1 C2 hd hu hret
  refine wpAny_call ?_
  k_dflt cell_enter
  k_steps
  all_goals exact hret _ _ _ _ (by k_asm) (by k_asm) ⟨rfl, rfl⟩
end Mine
end
section
namespace Mine
theorem reset_L2 : True := by
  w_top off
  trivial
end Mine
local macro_rules | `(tactic| walk_at "no key 0") => `(tactic| fail)
local macro_rules | `(tactic| walk_at "no key 1") => `(tactic| fail)
local macro_rules | `(tactic| walk_at "no key 2") => `(tactic| fail)
local macro_rules | `(tactic| walk_at "no key 3") => `(tactic| fail)
local macro_rules | `(tactic| walk_at "no key 4") => `(tactic| fail)
local macro_rules | `(tactic| walk_at "no key 5") => `(tactic| fail)
local macro_rules | `(tactic| walk_at "no key 6") => `(tactic| fail)
local macro_rules | `(tactic| walk_at "no key 7") => `(tactic| fail)
local macro_rules | `(tactic| walk_at "no key 8") => `(tactic| fail)
local macro_rules | `(tactic| walk_at "no key 9") => `(tactic| fail)
local macro_rules | `(tactic| walk_at "no key 10") => `(tactic| fail)
local macro_rules | `(tactic| walk_at "no key 11") => `(tactic| fail)
local macro_rules | `(tactic| walk_at "no key 12") => `(tactic| fail)
local macro_rules | `(tactic| walk_at "no key 13") => `(tactic| fail)
local macro_rules | `(tactic| walk_at "no key 14") => `(tactic| fail)
local macro_rules | `(tactic| walk_at "no key 15") => `(tactic| fail)
local macro_rules | `(tactic| walk_at "no key 16") => `(tactic| fail)
local macro_rules | `(tactic| walk_at "no key 17") => `(tactic| fail)
local macro_rules | `(tactic| walk_at "no key 18") => `(tactic| fail)
local macro_rules | `(tactic| walk_at "no key 19") => `(tactic| fail)
local macro_rules | `(tactic| walk_at "no key 20") => `(tactic| fail)
local macro_rules | `(tactic| walk_at "no key 21") => `(tactic| fail)
local macro_rules | `(tactic| walk_at "no key 22") => `(tactic| fail)
local macro_rules | `(tactic| walk_at "no key 23") => `(tactic| fail)
local macro_rules | `(tactic| walk_at "no key 24") => `(tactic| fail)
local macro_rules | `(tactic| walk_at "no key 25") => `(tactic| fail)
local macro_rules | `(tactic| walk_at "no key 26") => `(tactic| fail)
local macro_rules | `(tactic| walk_at "no key 27") => `(tactic| fail)
local macro_rules | `(tactic| walk_at "no key 28") => `(tactic| fail)
local macro_rules | `(tactic| walk_at "no key 29") => `(tactic| fail)
local macro_rules | `(tactic| walk_at "no key 30") => `(tactic| fail)
local macro_rules | `(tactic| walk_at "no key 31") => `(tactic| fail)
local macro_rules | `(tactic| walk_at "no key 32") => `(tactic| fail)
local macro_rules | `(tactic| walk_at "no key 33") => `(tactic| fail)
local macro_rules | `(tactic| walk_at "no key 34") => `(tactic| fail)
local macro_rules | `(tactic| walk_at "no key 35") => `(tactic| fail)
local macro_rules | `(tactic| walk_at "no key 36") => `(tactic| fail)
local macro_rules | `(tactic| walk_at "no key 37") => `(tactic| fail)
local macro_rules | `(tactic| walk_at "no key 38") => `(tactic| fail)
local macro_rules | `(tactic| walk_at "no key 39") => `(tactic| fail)
open PySem PySem.W PySem.Spec PySem.Calls PyProof.Rows
namespace Mine
set_option maxRecDepth 100000
set_option maxHeartbeats 8000000
set_option pp.deepTerms false
set_option pp.deepTerms.threshold 5
theorem fill_3 : (fun (P : Params) => (hd.heap_39 P, PySem.Challenge.rw_xg0082_01)) = (fun P => (hd.heap_39 P, PySem.Challenge.rw_xg0082_01)) := by
  k_fill
  rfl
local macro_rules | `(tactic| walk_at "getMethod ref") => `(tactic| (k_here; (with_reducible show wpAny _ _ (getMethod (Value.ref 43) (Str.ofString "search") _) _ _ _); refine' re_method ?k1 ?k2 ?_; (case k1 => k_asm); (case k2 => k_asm)))
local macro_rules | `(tactic| walk_at "call builtin:re.Pattern.search") => `(tactic| (k_here; refine' re_call ?k1 ?k2 ?k3 ?_; (case k1 => k_asm); (case k2 => k_asm); (case k3 => assumption)))
structure HostLike (x : Str) : Prop where
  plain : Plainly x
  lo : 1 ≤ x.length
  hi : x.length ≤ 200
  ne : (x == Str.ofString "") = false
  first : (Txt.item x 0 == Str.ofString ".") = false
  last : (Txt.item x (-1) == Str.ofString ".") = false
theorem c_is (w : World) (x : Str) (t : Tok) (hx : HostLike x) : CtrS w 4 50 [.str x t] (fun r => r = .bool true) := by
  intro news p loose mean mg mb dp un gd cn cs a ccd cl outer A₀ base h₀ L m s Q E B F X N T hk C1 C2 hd hu hret
  obtain ⟨hp, hlo, hhi, h1, h2, h3⟩ := hx
  refine wpAny_call ?_
  k_dflt cell_enter
  k_steps
  all_goals first | exact hret _ _ _ _ (by k_asm) (by k_asm) ⟨rfl, rfl⟩ | (exfalso; simp_all; done)
local macro_rules | `(tactic| walk_at "call ref") => `(tactic| (k_here; (with_reducible show wpAny _ _ (call (Value.ref 50) [Value.str _ _]) _ _ _); k_dflt (refine' CtrS.use (c_is _ _ _ ?hx) ?k1 ?k2 ?k3 ?k4 ?k5 ?k6 ?k7 ?k8 ?k9 ?k10 ?_; (case hx => assumption); (case k1 => k_asm); (case k2 => k_asm); (case k3 => k_asm); (case k4 => k_asm); (case k5 => k_asm); (case k6 => first | exact rfl | assumption); (case k7 => assumption); (case k8 => assumption); (case k9 => ktr_room); (case k10 => ktr_units)); intro r9 h9 tk9 F9 N9 hr9; subst hr9))
theorem c_reach (w : World) (x y : Str) (t : Tok) (hx : HostLike x) (hf : 0 ≤ Txt.find x (Str.ofString ".")) (hs : Txt.slice x (some (Txt.find x (Str.ofString ".") + 1)) none = y)
    (h2 : 0 ≤ Txt.find y (Str.ofString ".") ∨ (y == Str.ofString "local") = true) : CtrS w 8 71 [.str x t] (fun r => ∃ t', r = .str (Str.ofString "." ++ y) t') := by
  intro news p loose mean mg mb dp un gd cn cs a ccd cl outer A₀ base h₀ L m s Q E B F X N T hk C1 C2 hd hu hret
  have hlo := hx.lo
  have hhi := hx.hi
  refine wpAny_call ?_
  k_dflt cell_enter
  k_steps
  all_goals first | exact hret _ _ _ _ (by k_asm) (by k_asm) ⟨rfl, _, by rw [hs]⟩ | (exfalso; subst hs; rcases h2 with h2 | h2 <;> simp_all <;> omega)
end Mine
end
section
open PySem PySem.W PySem.Spec PySem.Calls PyProof.Rows
namespace Mine
set_option maxRecDepth 100000
set_option maxHeartbeats 4000000
/-! the plain law of the names -/
def lab : Nat → List Nat
  | 0 => [97]
  | 1 => [98, 97]
  | 2 => [55]
  | _ => [45]
def body : List Nat → List Nat
  | [] => [108, 111, 99, 97, 108]
  | d :: ds => lab d ++ 46 :: body ds
def txt (b : Bool) (ds : List Nat) : Str := ⟨((if b then [46] else []) ++ body ds).toArray⟩
theorem txt_list (b : Bool) (ds : List Nat) : (txt b ds).cps.toList = (if b then [46] else []) ++ body ds := rfl
theorem lab_len (d : Nat) : 1 ≤ (lab d).length ∧ (lab d).length ≤ 2 := by
  unfold lab; split <;> simp
theorem lab_ne (d : Nat) : ∀ c ∈ lab d, c ≠ 46 := by
  unfold lab; split <;> simp
theorem body_len : ∀ ds : List Nat, 5 ≤ (body ds).length ∧ (body ds).length ≤ 5 + 3 * ds.length
  | [] => ⟨Nat.le_refl 5, Nat.le_refl 5⟩
  | d :: ds => by
    have h := lab_len d
    have ih := body_len ds
    simp only [body, List.length_append, List.length_cons]
    omega
theorem body_chars : ∀ (ds : List Nat), ∀ c ∈ body ds, c ∈ [45, 46, 55, 97, 98, 99, 108, 111]
  | [], c, h => by simp [body] at h; simp; omega
  | d :: ds, c, h => by
    rcases List.mem_append.mp h with h | h
    · unfold lab at h; split at h <;> simp at h <;> simp <;> omega
    · rcases List.mem_cons.mp h with rfl | h
      · simp
      · exact body_chars ds c h
theorem txt_len (b : Bool) (ds : List Nat) : (txt b ds).length = (if b then 1 else 0) + (body ds).length := by
  show ((if b then [46] else []) ++ body ds).toArray.size = _
  cases b <;> simp <;> omega
def hit (c : Nat) (r : List Nat) : Bool := c != 46 || (match r with
  | [] => true
  | e :: r' => !Sre.isDigit e || (match r' with
    | [] => false
    | g :: _ => !Sre.isDigit g && g != 10))
def chk : List Nat → Bool
  | [] => true
  | c :: r => hit c r && chk r
theorem chk_ok : ∀ l : List Nat, chk l = true → Re.okT l
  | [], _ => fun s h => by simp at h
  | c :: r, h => by
    obtain ⟨h1, h2⟩ := Bool.and_eq_true_iff.mp h
    have ih := chk_ok r h2
    intro s hs
    cases s with
    | zero =>
      have hc : c = 46 := by simpa using hs
      subst hc
      intro hl hd
      cases r with
      | nil => simp at hl
      | cons e r' =>
        have hd' : Sre.isDigit e = true := by simpa using hd
        cases r' with
        | nil => simp [hit, hd'] at h1
        | cons g r'' =>
          simp [hit, hd'] at h1
          exact ⟨by simp, by simpa using h1.1, by simpa using h1.2⟩
    | succ s =>
      have hs' : r.getD s 0 = 46 := by simpa using hs
      intro hl hd
      have := ih s hs' (by simpa using hl) (by simpa using hd)
      refine ⟨by simp only [List.length_cons]; omega, by simpa using this.2⟩
theorem hit_ne {c : Nat} (r : List Nat) (h : c ≠ 46) : hit c r = true := by unfold hit; rw [show (c != 46) = true from by simpa using h]; rfl
theorem hit_body : ∀ ds : List Nat, hit 46 (body ds) = true
  | [] => by decide
  | d :: ds => by
    unfold body lab
    split <;> rfl
theorem chk_body : ∀ ds : List Nat, chk (body ds) = true
  | [] => by decide
  | d :: ds => by
    have ih := chk_body ds
    have h := hit_body ds
    have hx : chk (46 :: body ds) = true := by unfold chk; rw [ih, h]; rfl
    unfold body lab
    split <;> simp only [List.cons_append, List.nil_append]
    · show (hit 97 _ && chk (46 :: body ds)) = true
      rw [hx, hit_ne _ (by decide)]; rfl
    · show (hit 98 _ && (hit 97 _ && chk (46 :: body ds))) = true
      rw [hx, hit_ne _ (by decide), hit_ne _ (by decide)]; rfl
    · show (hit 55 _ && chk (46 :: body ds)) = true
      rw [hx, hit_ne _ (by decide)]; rfl
    · show (hit 45 _ && chk (46 :: body ds)) = true
      rw [hx, hit_ne _ (by decide)]; rfl
theorem chk_txt (b : Bool) (ds : List Nat) : chk ((if b then [46] else []) ++ body ds) = true := by
  cases b
  · exact chk_body ds
  · show (hit 46 (body ds) && chk (body ds)) = true
    rw [hit_body, chk_body]; rfl
theorem plainly_txt (b : Bool) {ds : List Nat} (h : ds.length ≤ 20) : Plainly (txt b ds) := by
  have hl := body_len ds
  have e : (txt b ds).cps.size = (if b then 1 else 0) + (body ds).length := txt_len b ds
  refine ⟨?_, ?_, chk_ok _ (chk_txt b ds)⟩ <;> rw [e] <;> cases b <;> simp <;> omega
theorem dot_eq : Str.ofString "." = ⟨#[46]⟩ := by decide +kernel
theorem find_txt (d : Nat) (ds : List Nat) : Txt.find (txt false (d :: ds)) (Str.ofString ".") = ((lab d).length : Int) := by
  rw [dot_eq]
  unfold Txt.find
  have hx : (txt false (d :: ds)).cps.toList = lab d ++ 46 :: body ds := rfl
  have hat : (txt false (d :: ds)).cps.toList[(lab d).length]? = some 46 := by rw [hx]; simp
  rcases StrLaws.occ_head (txt false (d :: ds)) ⟨#[46]⟩ 1 (Nat.le_refl 1) with ⟨_, hn⟩ | ⟨k, r, h0, hk, hn⟩
  · exact absurd ((StrLaws.subAt_one _ 46 _).mpr hat) (hn _)
  · rw [h0]
    have hm := (StrLaws.subAt_one _ 46 k).mp hk
    rcases Nat.lt_trichotomy k (lab d).length with hlt | heq | hgt
    · rw [hx, List.getElem?_append_left hlt] at hm
      exact absurd rfl (lab_ne d 46 (List.mem_of_getElem? hm))
    · show (k : Int) = _
      rw [heq]
    · exact absurd ((StrLaws.subAt_one _ 46 _).mpr hat) (hn _ hgt)
theorem slice_from {x : Str} {l : List Nat} {pre post : List Nat} (hx : x.cps.toList = l) (hl : l = pre ++ post) (i : Int) (hi : i = pre.length) : Txt.slice x (some i) none = ⟨post.toArray⟩ := by
  show StrLaws.sliceText x (some i) none = _
  have hlen : x.cps.toList.length = pre.length + post.length := by rw [hx, hl, List.length_append]
  rw [StrLaws.sliceText_from ⟨by omega, by omega⟩, hx, hl]
  have e1 : i.toNat = pre.length := by omega
  have e2 : (((pre ++ post).length : Int) - i).toNat = post.length := by rw [List.length_append]; omega
  rw [e1, e2, List.drop_left, List.take_length]
theorem slice_txt (d : Nat) (ds : List Nat) : Txt.slice (txt false (d :: ds)) (some (Txt.find (txt false (d :: ds)) (Str.ofString ".") + 1)) none = txt false ds := by
  refine slice_from (l := lab d ++ 46 :: body ds) (pre := lab d ++ [46]) (post := body ds) rfl (by simp) _ ?_
  rw [find_txt]; simp
theorem slice_dot (ds : List Nat) : Txt.slice (txt true ds) (some 1) none = txt false ds :=
  slice_from (l := 46 :: body ds) (pre := [46]) (post := body ds) rfl rfl _ rfl
theorem app_dot (ds : List Nat) : Str.ofString "." ++ txt false ds = txt true ds := by
  rw [dot_eq]
  apply Str.ext'
  apply Array.toList_inj.mp
  simp [Str.cps_append, txt]
theorem local_eq : txt false [] = Str.ofString "local" := by decide +kernel
theorem find_or (ds : List Nat) : 0 ≤ Txt.find (txt false ds) (Str.ofString ".") ∨ (txt false ds == Str.ofString "local") = true := by
  cases ds with
  | nil => exact .inr (by rw [local_eq]; exact beq_self_eq_true _)
  | cons d ds => exact .inl (by rw [find_txt]; omega)
theorem item0 {x : Str} {c : Nat} {r : List Nat} (hx : x.cps.toList = c :: r) : Txt.item x 0 = ⟨#[c]⟩ := by
  have : Txt.charAt x 0 = some c := by
    unfold Txt.charAt
    rw [StrLaws.at_nonneg (Int.le_refl 0)]
    rw [← Array.getElem?_toList, hx]; rfl
  unfold Txt.item
  rw [this]; rfl
theorem item_dot (ds : List Nat) : Txt.item (txt true ds) 0 = Str.ofString "." := by rw [item0 (c := 46) (r := body ds) rfl, dot_eq]
theorem body_head (ds : List Nat) : ∃ c r, body ds = c :: r ∧ c ≠ 46 := by
  cases ds with
  | nil => exact ⟨_, _, rfl, by decide⟩
  | cons d ds => unfold body lab; split <;> exact ⟨_, _, rfl, by decide⟩
theorem body_last (ds : List Nat) : ∃ r, body ds = r ++ [108] := by
  induction ds with
  | nil => exact ⟨[108, 111, 99, 97], rfl⟩
  | cons d ds ih => obtain ⟨r, e⟩ := ih; exact ⟨lab d ++ 46 :: r, by unfold body; rw [e]; simp⟩
theorem item_first (ds : List Nat) : (Txt.item (txt false ds) 0 == Str.ofString ".") = false := by
  obtain ⟨c, r, e, hc⟩ := body_head ds
  rw [item0 (c := c) (r := r) e, dot_eq]
  simp [hc]
theorem item_last (b : Bool) (ds : List Nat) : Txt.item (txt b ds) (-1) = ⟨#[108]⟩ := by
  obtain ⟨r, e⟩ := body_last ds
  have : txt b ds = ⟨((if b then [46] else []) ++ r).toArray⟩ ++ ⟨#[108]⟩ := by
    apply Str.ext'
    apply Array.toList_inj.mp
    rw [txt_list, e]
    simp [Str.cps_append]
  rw [this]
  exact PyProof.Rows.item_last_right1 _ _
theorem host_txt {ds : List Nat} (h : ds.length ≤ 20) : HostLike (txt false ds) := by
  have hl := body_len ds
  have e := txt_len false ds
  refine ⟨plainly_txt false h, by rw [e]; omega, by rw [e, if_neg Bool.false_ne_true]; omega, ?_, item_first ds, ?_⟩
  · cases hb : (txt false ds == Str.ofString "") with
    | false => rfl
    | true =>
      have := congrArg Str.length (beq_iff_eq.mp hb)
      rw [e, show (Str.ofString "").length = 0 from by decide +kernel] at this
      omega
  · rw [item_last, dot_eq]; decide
end Mine
end
section
namespace Mine
theorem reset_L3 : True := by
  w_top off
  trivial
end Mine
open PySem PySem.W PySem.Spec PySem.Calls PyProof.Rows
namespace Mine
set_option maxRecDepth 100000
set_option maxHeartbeats 8000000
set_option pp.deepTerms false
set_option pp.deepTerms.threshold 5
theorem fill_4 : (fun (P : Params) => (hd.heap_39 P, PySem.Challenge.rw_xg0082_01)) = (fun P => (hd.heap_39 P, PySem.Challenge.rw_xg0082_01)) := by
  k_fill
  rfl
theorem c_reachT (w : World) (d : Nat) (ds : List Nat) (t : Tok) (h : (d :: ds).length ≤ 20) : CtrS w 8 71 [.str (txt false (d :: ds)) t] (fun r => ∃ t', r = .str (txt true ds) t') := by
  have c := c_reach w _ _ t (host_txt h) (by rw [find_txt]; omega) (slice_txt d ds) (find_or ds)
  rw [app_dot] at c
  exact c
section
variable {prog : Program} {w : World} {A : Around} {E : Value → Shared → Prop} {s : Shared} {h₀ : Heap} {L : Addr} {m : Str → Option Value} {news : List (Addr × Obj)} {value slice : Expr}
theorem txt_pos (b : Bool) (ds : List Nat) : 0 < (txt b ds).length := by have := body_len ds; rw [txt_len]; omega
theorem item_dot_s {ds : List Nat} {t u : Tok} {Q : Value → Shared → Prop} (h : Q (.str (Str.ofString ".") s.toks) { s with toks := s.toks + 1 })
    (hs : subscripted slice false (.str (txt true ds) t) (.int 0 u) = operate [.str (txt true ds) t, .int 0 u] (getItem (.str (txt true ds) t) (.int 0 u)) := by with_unfolding_all rfl)
    (ht : ∀ r, letTemporaryGo value (.str (txt true ds) t) r = pure () := by intro _; with_unfolding_all rfl) :
    wpAny (model prog w) A (subscriptTail value slice (.str (txt true ds) t) (.int 0 u)) Q E s :=
  item_str (by decide) (by have := txt_pos true ds; omega) (by have := txt_pos true ds; omega) (fun _ => by rw [item_dot]; exact h) hs ht
theorem item_first_s {ds : List Nat} {t u : Tok} {Q : Value → Shared → Prop} (h : (Txt.item (txt false ds) 0 == Str.ofString ".") = false → Q (.str (Txt.item (txt false ds) 0) s.toks) { s with toks := s.toks + 1 })
    (hs : subscripted slice false (.str (txt false ds) t) (.int 0 u) = operate [.str (txt false ds) t, .int 0 u] (getItem (.str (txt false ds) t) (.int 0 u)) := by with_unfolding_all rfl)
    (ht : ∀ r, letTemporaryGo value (.str (txt false ds) t) r = pure () := by intro _; with_unfolding_all rfl) :
    wpAny (model prog w) A (subscriptTail value slice (.str (txt false ds) t) (.int 0 u)) Q E s :=
  item_str (by decide) (by have := txt_pos false ds; omega) (by have := txt_pos false ds; omega) (fun _ => h (item_first ds)) hs ht
theorem slice_dot_s {ds : List Nat} {t ui : Tok} {Q : Value → Shared → Prop} (hl : ds.length ≤ 100) (hF : Fr h₀ L s.heap m) (hN : News h₀ L s.heap news) (h : ∀ h' t' k, Fr h₀ L h' m → News h₀ L h' news → Q (.str (txt false ds) t') { s with heap := h', toks := k })
    (hs : subscripted slice false (.str (txt true ds) t) (.ref s.heap.objs.size) = operate [.ref s.heap.objs.size, .str (txt true ds) t] (getItem (.str (txt true ds) t) (.ref s.heap.objs.size)) := by with_unfolding_all rfl)
    (ht : ∀ r, letTemporaryGo value (.str (txt true ds) t) r = pure () := by intro _; with_unfolding_all rfl) :
    wpAny (model prog w) A (subscriptTail value slice (.str (txt true ds) t) (.ref s.heap.objs.size)) Q E { s with heap := s.heap.push { cls := .type "slice", data := .fields #[.int 1 ui, .none, .none] } } :=
  slice_strN_sn hF hN (fun h' t' k F N => by rw [slice_dot]; exact h h' t' k F N) hs ht (by rw [txt_len, sizeLine_eq]; have := body_len ds; split <;> omega)
end
local macro_rules | `(tactic| walk_at "subscriptTail Name Constant str int") => `(tactic| (k_here; (with_reducible show wpAny _ _ (subscriptTail _ _ (Value.str (txt true _) _) (Value.int _ _)) _ _ _); k_dflt (refine item_dot_s ?_)))
local macro_rules | `(tactic| walk_at "subscriptTail Name Constant str int") => `(tactic| (k_here; (with_reducible show wpAny _ _ (subscriptTail _ _ (Value.str (txt false _) _) (Value.int _ _)) _ _ _); k_dflt (refine item_first_s ?_; intro _)))
local macro_rules | `(tactic| walk_at "subscriptTail Name Slice str ref") => `(tactic| (k_here; (with_reducible show wpAny _ _ (subscriptTail _ _ (Value.str (txt true _) _) _) _ _ _); (with_reducible rename Fr _ _ _ _ => F'); (with_reducible rename News _ _ _ _ => N'); (refine slice_dot_s (s := ⟨_, _, _, _, _⟩) ?k0 F' N' ?_; (case k0 => ((try simp only [List.length_cons]); omega)); intro _ _ _ _ _)))
local macro_rules | `(tactic| walk_at "call ref") => `(tactic| (k_here; (with_reducible show wpAny _ _ (call (Value.ref 71) [Value.str (txt false (_ :: _)) _]) _ _ _); k_dflt (refine' CtrS.use (c_reachT _ _ _ _ ?hx) ?k1 ?k2 ?k3 ?k4 ?k5 ?k6 ?k7 ?k8 ?k9 ?k10 ?_; (case hx => (simp only [List.length_cons]; omega)); (case k1 => k_asm); (case k2 => k_asm); (case k3 => k_asm); (case k4 => k_asm); (case k5 => k_asm); (case k6 => first | exact rfl | assumption); (case k7 => assumption); (case k8 => assumption); (case k9 => ktr_room); (case k10 => ktr_units)); intro r9 h9 tk9 F9 N9 hr9; obtain ⟨t9, hr9⟩ := hr9; subst hr9))
theorem unr_off {news : List (Addr × Obj)} {I : Addr} (h : ∀ p ∈ news, p.1 < I) : ∀ p ∈ news, p.1 ≠ I := fun p hp => Nat.ne_of_lt (h p hp)
theorem unr_end {h₀ : Heap} {L I : Addr} {it : Obj} {rest : (Str → Option Value) → List (Addr × Obj) → Prop} {s₁ : Shared} {h' : Heap} {tk : Nat} {m' : Str → Option Value} {news : List (Addr × Obj)} (F : Fr h₀ L h' m') (N : News h₀ L h' ((I, it) :: news))
    (off : ∀ p ∈ news, p.1 < I) (r : rest m' news) : UnrEnd h₀ L s₁ I it rest { s₁ with heap := h', toks := tk } := UnrEnd.intro F N news (fun _ hp => hp) (unr_off off) r
local macro_rules | `(tactic| walk_at "UnrEnd") => `(tactic| (k_dflt (refine unr_end (by k_asm) (by k_asm) (by assumption) ?_)))
theorem Fr.congr {h₀ h : Heap} {L : Addr} {m m' : Str → Option Value} (F : Fr h₀ L h m) (e : ∀ y, m y = m' y) : Fr h₀ L h m' := by
  rw [← funext e]; exact F
local macro_rules | `(tactic| walk_at "pyIter ref") => `(tactic| (k_here; (with_reducible show wpAny _ _ (pyIter (Value.ref _)) (fun it s₂ => LoopAtV _ _ _ _ _ _ _ _ _ it s₂) _ _); (rename Fr _ _ _ _ => lF'); (rename News _ _ _ _ => lN'); (rename IsRange _ _ _ _ _ _ _ _ => rgX); (with_unfolding_all refine iter_rangeUnr (by rfl) rgX (small_one (by omega) (by omega) (by omega) (by omega)) (rangeSize_nat _ _) lF' lN' ?_); clear lF' lN'; intro i' l1))
theorem Fr.tell {h₀ h : Heap} {L : Addr} {m : Str → Option Value} {x : Str} {v : Value} (F : Fr h₀ L h m) (e : m x = some v) : Fr h₀ L h (fun y => if y = x then some v else m y) :=
  Fr.congr F fun y => by
    by_cases hy : y = x
    · rw [if_pos hy, hy, e]
    · rw [if_neg hy]
theorem c_up (w : World) (b : Bool) (pre ds : List Nat) (t u : Tok) (h : pre.length + ds.length ≤ 10) : CtrS w 12 170 [.str (txt b (pre ++ ds)) t, .int (pre.length : Int) u] (fun r => ∃ t', r = .str (txt (b || !pre.isEmpty) ds) t') := by
  intro news p loose mean mg mb dp un gd cn cs a ccd cl outer A₀ base h₀ L m s Q E B F X N T hk C1 C2 hd hu hret
  refine wpAny_call ?_
  k_dflt cell_enter
  k_steps
  rename Fr _ _ _ _ => F8
  clear F8
  rename News _ _ _ _ => N8
  clear N8
  refine (?H : ∀ (pre' : List Nat) (k i : Nat) (b' : Bool) (t' : Tok) (m' : Str → Option Value), k = pre'.length → pre'.length + ds.length ≤ 10 → (b' || !pre'.isEmpty) = (b || !pre.isEmpty) → m' (Str.ofString "name") = some (.str (txt b' (pre' ++ ds)) t') → RangeRest _ _ _ _ _ _ _ _ _ _ _ _ _ k i m' news) pre _ 0 b t _ (by omega) h rfl rfl
  intro pre'
  induction pre' with
  | nil =>
    intro k i b' t' m' hk hl hb hm
    subst hk
    refine RangeRest.zero (fun h' tk' F' N' => ?_)
    replace F' := Fr.tell F' hm
    dsimp only
    k_steps
    all_goals exact hret _ _ _ _ (by k_asm) (by k_asm) ⟨rfl, t', by rw [← hb]; simp⟩
  | cons d pre' ih =>
    intro k i b' t' m' hk hl hb hm
    subst hk
    refine RangeRest.succ (fun t1 h' tk' F' N' => ?_)
    rw [List.cons_append] at hm
    rw [List.length_cons] at hl
    have hl2 : (pre' ++ ds).length ≤ 10 := by rw [List.length_append]; omega
    replace F' := Fr.tell F' (x := Str.ofString "name") (v := .str (txt b' (d :: (pre' ++ ds))) t') hm
    have hb2 : (true || !pre'.isEmpty) = (b || !pre.isEmpty) := by rw [← hb]; simp
    cases b' with
    | false =>
      k_steps
      all_goals exact ih _ _ true _ _ rfl (by omega) hb2 rfl
    | true =>
      k_steps
      all_goals exact ih _ _ true _ _ rfl (by omega) hb2 rfl
end Mine
end
section
namespace Mine
theorem reset_L4 : True := by
  w_top off
  trivial
end Mine
local macro_rules | `(tactic| walk_at "no key 0") => `(tactic| fail)
local macro_rules | `(tactic| walk_at "no key 1") => `(tactic| fail)
local macro_rules | `(tactic| walk_at "no key 2") => `(tactic| fail)
local macro_rules | `(tactic| walk_at "no key 3") => `(tactic| fail)
local macro_rules | `(tactic| walk_at "no key 4") => `(tactic| fail)
local macro_rules | `(tactic| walk_at "no key 5") => `(tactic| fail)
local macro_rules | `(tactic| walk_at "no key 6") => `(tactic| fail)
local macro_rules | `(tactic| walk_at "no key 7") => `(tactic| fail)
local macro_rules | `(tactic| walk_at "no key 8") => `(tactic| fail)
local macro_rules | `(tactic| walk_at "no key 9") => `(tactic| fail)
local macro_rules | `(tactic| walk_at "no key 10") => `(tactic| fail)
local macro_rules | `(tactic| walk_at "no key 11") => `(tactic| fail)
local macro_rules | `(tactic| walk_at "no key 12") => `(tactic| fail)
local macro_rules | `(tactic| walk_at "no key 13") => `(tactic| fail)
local macro_rules | `(tactic| walk_at "no key 14") => `(tactic| fail)
local macro_rules | `(tactic| walk_at "no key 15") => `(tactic| fail)
local macro_rules | `(tactic| walk_at "no key 16") => `(tactic| fail)
local macro_rules | `(tactic| walk_at "no key 17") => `(tactic| fail)
local macro_rules | `(tactic| walk_at "no key 18") => `(tactic| fail)
local macro_rules | `(tactic| walk_at "no key 19") => `(tactic| fail)
local macro_rules | `(tactic| walk_at "no key 20") => `(tactic| fail)
local macro_rules | `(tactic| walk_at "no key 21") => `(tactic| fail)
local macro_rules | `(tactic| walk_at "no key 22") => `(tactic| fail)
local macro_rules | `(tactic| walk_at "no key 23") => `(tactic| fail)
local macro_rules | `(tactic| walk_at "no key 24") => `(tactic| fail)
local macro_rules | `(tactic| walk_at "no key 25") => `(tactic| fail)
local macro_rules | `(tactic| walk_at "no key 26") => `(tactic| fail)
local macro_rules | `(tactic| walk_at "no key 27") => `(tactic| fail)
local macro_rules | `(tactic| walk_at "no key 28") => `(tactic| fail)
local macro_rules | `(tactic| walk_at "no key 29") => `(tactic| fail)
local macro_rules | `(tactic| walk_at "no key 30") => `(tactic| fail)
local macro_rules | `(tactic| walk_at "no key 31") => `(tactic| fail)
local macro_rules | `(tactic| walk_at "no key 32") => `(tactic| fail)
local macro_rules | `(tactic| walk_at "no key 33") => `(tactic| fail)
local macro_rules | `(tactic| walk_at "no key 34") => `(tactic| fail)
local macro_rules | `(tactic| walk_at "no key 35") => `(tactic| fail)
local macro_rules | `(tactic| walk_at "no key 36") => `(tactic| fail)
local macro_rules | `(tactic| walk_at "no key 37") => `(tactic| fail)
local macro_rules | `(tactic| walk_at "no key 38") => `(tactic| fail)
local macro_rules | `(tactic| walk_at "no key 39") => `(tactic| fail)
open PySem PySem.W PySem.Spec PySem.Calls PyProof.Rows
namespace Mine
set_option maxRecDepth 100000
set_option maxHeartbeats 8000000
set_option pp.deepTerms false
set_option pp.deepTerms.threshold 5
theorem fill_5 : (fun (P : Params) => (hd.heap_39 P, PySem.Challenge.rw_xg0082_01)) = (fun P => (hd.heap_39 P, PySem.Challenge.rw_xg0082_01)) := by
  k_fill
  rfl
theorem txt_chars (b : Bool) (ds : List Nat) : ∀ c ∈ (txt b ds).cps.toList, c ∈ [45, 46, 55, 97, 98, 99, 108, 111] := by
  intro c h
  rw [txt_list] at h
  rcases List.mem_append.mp h with h | h
  · cases b <;> simp at h; subst h; simp
  · exact body_chars ds c h
theorem lo_up : ∀ c ∈ [45, 46, 55, 97, 98, 99, 108, 111], up1 c < 128 ∧ lo1 (up1 c) = c ∧ lo1 c = c ∧ c < 128 := by decide
theorem up_txt (b : Bool) (ds : List Nat) : Txt.upper (txt b ds) = ⟨(txt b ds).cps.map up1⟩ := upper_ascii fun c hc => (lo_up c (txt_chars b ds c hc)).2.2.2
theorem low_txt (b : Bool) (ds : List Nat) : Txt.lower (txt b ds) = txt b ds := by
  rw [lower_ascii fun c hc => (lo_up c (txt_chars b ds c hc)).2.2.2]
  apply Str.ext'
  apply Array.toList_inj.mp
  rw [Array.toList_map]
  exact (List.map_congr_left fun c hc => (lo_up c (txt_chars b ds c hc)).2.2.1).trans (List.map_id _)
theorem low_up (b : Bool) (ds : List Nat) : Txt.lower (Txt.upper (txt b ds)) = txt b ds := by
  rw [up_txt, lower_ascii]
  · apply Str.ext'
    apply Array.toList_inj.mp
    rw [Array.toList_map, Array.toList_map, List.map_map]
    exact (List.map_congr_left fun c hc => (lo_up c (txt_chars b ds c hc)).2.1).trans (List.map_id _)
  · intro c hc
    rw [Array.toList_map] at hc
    obtain ⟨d, hd, rfl⟩ := List.mem_map.mp hc
    exact (lo_up d (txt_chars b ds d hd)).1
theorem up_len (b : Bool) (ds : List Nat) : (Txt.upper (txt b ds)).length = (txt b ds).length := by
  rw [up_txt]; show (Array.map up1 _).size = _; rw [Array.size_map]; rfl
theorem fit_txt (b : Bool) {ds : List Nat} (h : ds.length ≤ 100) : Builtin.Str.tooLong (txt b ds).length = false := by
  have e := txt_len b ds
  have hl := body_len ds
  unfold Builtin.Str.tooLong
  rw [decide_eq_false_iff_not, e, sizeLine_eq]
  split <;> omega
theorem sw_txt (b : Bool) (ds : List Nat) : Txt.startswith (txt b ds) (Str.ofString ".") = b := by
  rw [dot_eq]
  unfold Txt.startswith
  have hp := txt_pos b ds
  have hl : (⟨#[46]⟩ : Str).length = 1 := rfl
  rw [hl, show decide (0 + 1 ≤ (txt b ds).length) = true from decide_eq_true (by omega), Bool.true_and, StrLaws.subAt_eq, txt_list, List.drop_zero]
  obtain ⟨c, r, e, hc⟩ := body_head ds
  cases b
  · rw [e]; show ([c] == [46]) = false; simp [hc]
  · rfl
section
variable {prog : Program} {w : World} {A : Around} {E : Value → Shared → Prop} {s : Shared}
theorem r_lower1 {b : Bool} {ds : List Nat} {t : Tok} {Q : Value → Shared → Prop} (hl : ds.length ≤ 20) (h : ∀ t' k, Q (.str (txt b ds) t') { s with toks := k }) : wpAny (model prog w) A (call (.builtin "str.lower") [.str (Txt.upper (txt b ds)) t]) Q E s :=
  KXw.lower (low_up b ds) (by rw [low_up]; exact fit_txt b (by omega)) h
theorem r_lower2 {b : Bool} {ds : List Nat} {t : Tok} {Q : Value → Shared → Prop} (hl : ds.length ≤ 20) (h : ∀ t' k, Q (.str (txt b ds) t') { s with toks := k }) : wpAny (model prog w) A (call (.builtin "str.lower") [.str (txt b ds) t]) Q E s :=
  KXw.lower (low_txt b ds) (by rw [low_txt]; exact fit_txt b (by omega)) h
theorem r_sw {b : Bool} {ds : List Nat} {t u : Tok} {Q : Value → Shared → Prop} (h : Q (.bool b) s) : wpAny (model prog w) A (call (.builtin "str.startswith") [.str (txt b ds) t, .str (Str.ofString ".") u]) Q E s :=
  SC.startswith (by rw [sw_txt]; exact h)
end
local macro_rules | `(tactic| walk_at "call builtin:str.lower") => `(tactic| (k_here; (with_reducible show wpAny _ _ (call (Value.builtin "str.lower") [Value.str (Txt.upper (txt _ _)) _]) _ _ _); refine r_lower1 (by assumption) ?_; intro _ _))
local macro_rules | `(tactic| walk_at "call builtin:str.lower") => `(tactic| (k_here; (with_reducible show wpAny _ _ (call (Value.builtin "str.lower") [Value.str (txt _ _) _]) _ _ _); refine r_lower2 (by assumption) ?_; intro _ _))
local macro_rules | `(tactic| walk_at "call builtin:str.startswith") => `(tactic| (k_here; (with_reducible show wpAny _ _ (call (Value.builtin "str.startswith") [Value.str (txt _ _) _, _]) _ _ _); refine r_sw ?_))
local macro_rules | `(tactic| walk_at "call ref") => `(tactic| (k_here; (with_reducible show wpAny _ _ (call (Value.ref 57) [Value.str (txt _ _) _]) _ _ _); k_dflt (refine' CtrS.use (c_lib _ _ _ (plainly_txt _ ?hx)) ?k1 ?k2 ?k3 ?k4 ?k5 ?k6 ?k7 ?k8 ?k9 ?k10 ?_; (case hx => assumption); (case k1 => k_asm); (case k2 => k_asm); (case k3 => k_asm); (case k4 => k_asm); (case k5 => k_asm); (case k6 => first | exact rfl | assumption); (case k7 => assumption); (case k8 => assumption); (case k9 => ktr_room); (case k10 => ktr_units)); intro r9 h9 tk9 F9 N9 hr9; subst hr9))
def mt (as : List Nat) (b : Bool) (bs : List Nat) : Bool := if b then Txt.endswith (txt false as) (txt true bs) else (txt false as == txt false bs)
theorem c_match (w : World) (as bs : List Nat) (b : Bool) (t u : Tok) (ha : as.length ≤ 20) (hb : bs.length ≤ 20) : CtrS w 12 64 [.str (Txt.upper (txt false as)) t, .str (txt b bs) u] (fun r => r = .bool (mt as b bs)) := by
  intro news p loose mean mg mb dp un gd cn cs a ccd cl outer A₀ base h₀ L m s Q E B F X N T hk C1 C2 hd hu hret
  refine wpAny_call ?_
  k_dflt cell_enter
  cases b with
  | true =>
    k_steps
    all_goals exact hret _ _ _ _ (by k_asm) (by k_asm) ⟨rfl, congrArg Value.bool (Eq.symm (show Txt.endswith (txt false as) (txt true bs) = _ by assumption))⟩
  | false =>
    k_steps
    all_goals exact hret _ _ _ _ (by k_asm) (by k_asm) ⟨rfl, congrArg Value.bool (Eq.symm (show (txt false as == txt false bs) = _ by assumption))⟩
end Mine
end
section
open PySem PySem.W PySem.Spec PySem.Calls PyProof.Rows
namespace Mine
set_option maxRecDepth 100000
set_option maxHeartbeats 4000000
/-! the plain law of the figures -/
/-- the figures of y to the base 2 ^ n, the last first -/
def dig (n len : Nat) (y : Int) : List Int := (List.range len).map fun i => (y / 2 ^ (n * i)) % 2 ^ n
def put (ns : List Int) (lo : Nat) (ds : List Int) : List Int := ns.take lo ++ ds ++ ns.drop (lo + ds.length)
theorem dig_len (n len : Nat) (y : Int) : (dig n len y).length = len := by simp [dig]
theorem pow2_pos (k : Nat) : (0 : Int) < 2 ^ k := Int.pow_pos (by decide)
theorem nat_and_high (x k : Nat) : x &&& (x / 2 ^ k * 2 ^ k) = x / 2 ^ k * 2 ^ k := by
  apply Nat.eq_of_testBit_eq
  intro i
  rw [Nat.testBit_and, Nat.testBit_mul_two_pow, Nat.testBit_div_two_pow]
  by_cases h : k ≤ i
  · rw [show i - k + k = i by omega]
    simp [h]
  · simp [h]
theorem xor_low {y : Int} (hy : 0 ≤ y) (k : Nat) : Builtin.bitXor y (y.fdiv (2 ^ k) * 2 ^ k) = y % 2 ^ k := by
  obtain ⟨a, rfl⟩ := Int.eq_ofNat_of_zero_le hy
  rw [Int.fdiv_eq_ediv_of_nonneg _ (Int.le_of_lt (pow2_pos k))]
  have e : (a : Int) / 2 ^ k * 2 ^ k = ((a / 2 ^ k * 2 ^ k : Nat) : Int) := by simp
  rw [bitXor_and, e, bitAnd_pp (Int.natCast_nonneg _) (Int.natCast_nonneg _)]
  simp only [Int.toNat_natCast]
  rw [nat_and_high]
  have h := Nat.div_add_mod a (2 ^ k)
  have e2 : (a : Int) % 2 ^ k = ((a % 2 ^ k : Nat) : Int) := by simp
  rw [e2]
  have h' : a / 2 ^ k * 2 ^ k + a % 2 ^ k = a := by rw [Nat.mul_comm]; exact h
  omega
theorem mid_eq (lo : Int) (len : Nat) : (lo + (lo + len)).fdiv (2 ^ Int.toNat 1) = lo + ((len / 2 : Nat) : Int) := by
  rw [Int.fdiv_eq_ediv_of_nonneg _ (by decide), show (2 : Int) ^ Int.toNat 1 = 2 from by decide]
  omega
theorem dig_one {n : Nat} {y : Int} (h0 : 0 ≤ y) (h1 : y < 2 ^ (n * 1)) : dig n 1 y = [y] := by
  rw [Nat.mul_one] at h1
  show [(y / 2 ^ (n * 0)) % 2 ^ n] = [y]
  rw [Nat.mul_zero, Int.pow_zero, Int.ediv_one, Int.emod_eq_of_lt h0 h1]
theorem mod_mid (y P B C : Int) (hP : P ≠ 0) : (y % (P * (B * C))) / P % B = y / P % B := by
  have e : y % (P * (B * C)) = y + P * (-(B * (C * (y / (P * (B * C)))))) := by
    rw [Int.emod_def, Int.mul_neg, ← Int.sub_eq_add_neg]
    congr 1
    rw [Int.mul_assoc, Int.mul_assoc]
  rw [e, Int.add_mul_ediv_left _ _ hP]
  rw [show -(B * (C * (y / (P * (B * C))))) = B * (-(C * (y / (P * (B * C))))) from by rw [Int.mul_neg]]
  rw [Int.add_mul_emod_self_left]
theorem dig_split (n a b : Nat) (y : Int) : dig n (a + b) y = dig n a (y % 2 ^ (n * a)) ++ dig n b (y / 2 ^ (n * a)) := by
  unfold dig
  rw [List.range_add, List.map_append, List.map_map]
  congr 1
  · apply List.map_congr_left
    intro i hi
    have hi := List.mem_range.mp hi
    have e : (2 : Int) ^ (n * a) = 2 ^ (n * i) * (2 ^ n * 2 ^ (n * (a - i - 1))) := by
      rw [← Int.pow_add, ← Int.pow_add]
      congr 1
      have : a = i + (1 + (a - i - 1)) := by omega
      conv => lhs; rw [this, Nat.mul_add, Nat.mul_add, Nat.mul_one]
    rw [e]
    exact (mod_mid y (2 ^ (n * i)) (2 ^ n) (2 ^ (n * (a - i - 1))) (Int.ne_of_gt (pow2_pos _))).symm
  · apply List.map_congr_left
    intro i _
    show (y / 2 ^ (n * (a + i))) % 2 ^ n = _
    rw [Nat.mul_add, Int.pow_add, Int.ediv_ediv_of_nonneg (Int.le_of_lt (pow2_pos _))]
theorem put_len {ns : List Int} {lo : Nat} {ds : List Int} (h : lo + ds.length ≤ ns.length) : (put ns lo ds).length = ns.length := by
  simp [put]; omega
theorem put_app (A B d2 : List Int) : put (A ++ B) A.length d2 = A ++ d2 ++ B.drop d2.length := by
  unfold put
  rw [List.take_left, List.drop_append, show List.drop (A.length + d2.length) A = [] from List.drop_of_length_le (by omega), List.nil_append, Nat.add_sub_cancel_left]
theorem put_put {ns : List Int} {lo : Nat} {d1 d2 : List Int} (h : lo + (d1.length + d2.length) ≤ ns.length) : put (put ns lo d1) (lo + d1.length) d2 = put ns lo (d1 ++ d2) := by
  have e1 : (ns.take lo ++ d1).length = lo + d1.length := by simp; omega
  have e2 := put_app (ns.take lo ++ d1) (ns.drop (lo + d1.length)) d2
  rw [e1] at e2
  refine (show put (put ns lo d1) (lo + d1.length) d2 = _ from e2).trans ?_
  unfold put
  rw [List.drop_drop, List.length_append, List.append_assoc (ns.take lo) d1 d2, show lo + d1.length + d2.length = lo + (d1.length + d2.length) by omega]
theorem put_one {ns : List Int} {lo : Nat} {y : Int} (h : lo < ns.length) : put ns lo [y] = ns.set lo y := by
  unfold put
  rw [List.set_eq_take_append_cons_drop, if_pos h, List.append_assoc]
  rfl
theorem put_all {ns : List Int} {ds : List Int} (h : ds.length = ns.length) : put ns 0 ds = ds := by
  unfold put
  rw [List.take_zero, Nat.zero_add, h, List.drop_length]; simp
theorem div_bound {n a b : Nat} {y : Int} (h : y < 2 ^ (n * (a + b))) : y / 2 ^ (n * a) < 2 ^ (n * b) := by
  rw [Nat.mul_add, Int.pow_add] at h
  exact Int.ediv_lt_of_lt_mul (pow2_pos _) (by rw [Int.mul_comm]; exact h)
theorem pow_small {k : Nat} (h : k ≤ 16) : (2 : Int) ^ k ≤ 65536 := by
  have h1 : 2 ^ k ≤ 2 ^ 16 := Nat.pow_le_pow_right (by decide) h
  have e : (((2 : Nat) ^ k : Nat) : Int) = (2 : Int) ^ k := by simp
  omega
theorem fdiv_small {y : Int} (h0 : 0 ≤ y) (h1 : y < 65536) (k : Nat) : (y.fdiv (2 ^ k)).natAbs < 2 ^ 64 := by
  rw [Int.fdiv_eq_ediv_of_nonneg _ (Int.le_of_lt (pow2_pos k))]
  have a := Int.ediv_nonneg h0 (Int.le_of_lt (pow2_pos k))
  have b := Int.ediv_le_self (2 ^ k) h0
  omega
theorem figs_len {n places : Nat} (hn : n = 1 ∨ n = 2) {x : Int} (h0 : 0 ≤ x) (hx : x < 2 ^ (n * places)) :
    ∃ len : Nat, (Builtin.Int.intBits x + (n : Int) - 1 : Int).fdiv (n : Int) = (len : Int) ∧ len ≤ places ∧ x < 2 ^ (n * len) := by
  obtain ⟨a, rfl⟩ := Int.eq_ofNat_of_zero_le h0
  have cast : ∀ k : Nat, (((2 : Nat) ^ k : Nat) : Int) = (2 : Int) ^ k := fun k => by simp
  have hb : Builtin.Int.intBits (a : Int) ≤ n * places := intBits_le_iff.mpr (by
    show a < 2 ^ (n * places)
    have := cast (n * places)
    omega)
  have hself : a < 2 ^ Builtin.Int.intBits (a : Int) := intBits_le_iff.mp (Nat.le_refl (Builtin.Int.intBits (a : Int)))
  generalize Builtin.Int.intBits (a : Int) = b at hb hself
  refine ⟨(b + n - 1) / n, ?_, ?_, ?_⟩
  · rw [Int.fdiv_eq_ediv_of_nonneg _ (Int.natCast_nonneg n)]
    rcases hn with rfl | rfl <;> omega
  · rcases hn with rfl | rfl <;> omega
  · have h1 : b ≤ n * ((b + n - 1) / n) := by rcases hn with rfl | rfl <;> omega
    have h2 : a < 2 ^ (n * ((b + n - 1) / n)) := Nat.lt_of_lt_of_le hself (Nat.pow_le_pow_right (by decide) h1)
    have := cast (n * ((b + n - 1) / n))
    omega
theorem dig_more {n a b : Nat} {y : Int} (h0 : 0 ≤ y) (h : y < 2 ^ (n * a)) : dig n (a + b) y = dig n a y ++ List.replicate b 0 := by
  rw [dig_split, Int.emod_eq_of_lt h0 h, Int.ediv_eq_zero_of_lt h0 h]
  congr 1
  unfold dig
  rw [List.eq_replicate_iff]
  refine ⟨by simp, fun c hc => ?_⟩
  obtain ⟨i, _, rfl⟩ := List.mem_map.mp hc
  simp
end Mine
end
section
namespace Mine
theorem reset_L5 : True := by
  w_top off
  trivial
end Mine
open PySem PySem.W PySem.Spec PySem.Calls PyProof.Rows
namespace Mine
set_option maxRecDepth 100000
set_option maxHeartbeats 8000000
set_option pp.deepTerms false
set_option pp.deepTerms.threshold 5
theorem fill_6 : (fun (P : Params) => (hd.heap_39 P, PySem.Challenge.rw_xg0082_01)) = (fun P => (hd.heap_39 P, PySem.Challenge.rw_xg0082_01)) := by
  k_fill
  rfl
def Hold (P : Prop) : Prop := P
theorem hold {P : Prop} (h : Hold P) : P := h
section
variable {prog : Program} {w : World} {A : Around} {E : Value → Shared → Prop} {s : Shared} {h₀ : Heap} {L : Addr} {m : Str → Option Value} {news : List (Addr × Obj)}
theorem foldl_one (v : Value) : ∀ (k : Nat) (acc : Array Value), List.foldl (fun x1 x2 => x1 ++ x2) acc (List.replicate k #[v]) = acc ++ (List.replicate k v).toArray
  | 0, acc => by simp
  | k + 1, acc => by
    rw [List.replicate_succ, List.foldl_cons, foldl_one v k, List.replicate_succ]
    apply Array.toList_inj.mp
    simp
theorem r_zeros {l : Addr} {k : Nat} {x : Int} {v : Value} {u : Tok} {Q : Value → Shared → Prop} (F : Fr h₀ L s.heap m) (N : News h₀ L s.heap news) (hm : (l, W.listOf #[v] k) ∈ news) {len : Nat} (h0 : x = (len : Int)) (h1 : len ≤ 1000)
    (h : ∀ D h', Fr h₀ L h' m → News h₀ L h' ((D, W.listOf (List.replicate len v).toArray 0) :: news) → (∀ p ∈ news, p.1 < D) → Q (.ref D) { s with heap := h' }) :
    wpAny (model prog w) A (binaryOp .Mult (.ref l) (.int x u)) Q E s :=
  mul_list F N (N.get hm) (by omega) (by omega) (by show 1 * x.toNat ≤ 2 ^ 24; omega) fun h' F' N' => by
    have e : List.foldl (fun x1 x2 => x1 ++ x2) #[] (List.replicate (if (#[v] : Array Value).isEmpty = true then 0 else x.toNat) #[v]) = (List.replicate x.toNat v).toArray := by
      rw [show (if (#[v] : Array Value).isEmpty = true then 0 else x.toNat) = x.toNat from rfl, foldl_one]; simp
    rw [e, show x.toNat = len by omega] at N'
    exact h _ _ F' N' (fun p hp => Heap.lt_size (N p hp).1)
theorem r_len_rep {D : Addr} {k len : Nat} {v : Value} {Q : Value → Shared → Prop} (N : News h₀ L s.heap news) (hm : (D, W.listOf (List.replicate len v).toArray k) ∈ news) (h1 : len ≤ 1000)
    (h : ∀ t tk, Q (.int (len : Int) t) { s with toks := tk }) : wpAny (model prog w) A (call (.builtin "len") [.ref D]) Q E s := by
  refine call_len_list (items := (List.replicate len v).toArray) ⟨_, N.get hm, rfl, k, rfl⟩ ?_ ?_
  · rw [List.size_toArray, List.length_replicate]; omega
  · rw [List.size_toArray, List.length_replicate]; exact h _ _
theorem pull {h : Heap} {f d l c3 c2 c1 : Addr × Obj} {X2 : List (Addr × Obj)} (N : News h₀ L h (f :: d :: l :: c3 :: c2 :: c1 :: X2)) :
    ∃ D R, D = d.1 ∧ R = f :: c3 :: c2 :: c1 :: X2 ∧ f ∈ R ∧ c3 ∈ R ∧ c2 ∈ R ∧ c1 ∈ R ∧ (∀ p ∈ X2, p ∈ R) ∧ News h₀ L h (d :: R) :=
  ⟨_, _, rfl, rfl, by simp, by simp, by simp, by simp, fun p hp => by simp [hp], fun p hp => N p (by simp only [List.mem_cons] at hp ⊢; rcases hp with h | h | h | h | h | h <;> simp [h])⟩
end
abbrev pos73 : Pos := ⟨44, 4, 53, 28⟩
abbrev q73 : Str := Str.ofString "_int2digits.<locals>.inner"
theorem pull2 {h₀ h : Heap} {L : Addr} {f d l c3 c2 c1 : Addr × Obj} {X2 : List (Addr × Obj)} (N : News h₀ L h (f :: d :: l :: c3 :: c2 :: c1 :: X2)) : News h₀ L h (d :: X2) :=
  fun p hp => N p (by simp only [List.mem_cons] at hp ⊢; rcases hp with h | h <;> simp [h])
theorem ints_rep (t : Tok) : ∀ k : Nat, IntsAre (List.replicate k (.int 0 t)) (List.replicate k 0)
  | 0 => .nil
  | k + 1 => .cons 0 t (ints_rep t k)
theorem dig_zero (n len : Nat) : dig n len 0 = List.replicate len 0 := by
  unfold dig
  rw [List.eq_replicate_iff]
  refine ⟨by simp, fun b hb => ?_⟩
  obtain ⟨i, _, rfl⟩ := List.mem_map.mp hb
  simp
/-- the table of the defs a def has made: empty, or one code object -/
abbrev TSt := Option (Addr × Obj)
def tabL (P : Addr) (pos : Pos) : TSt → List (Addr × Obj)
  | none => [(P, tabObj #[])]
  | some q => [q, (P, tabObj #[rawInt pos.line, rawInt pos.col, .ref q.1])]
def tabOk (qual : Str) : TSt → Prop
  | none => True
  | some q => ∃ vs t, q.2.data = .fields vs ∧ vs[1]? = some (.str qual t)
section
variable {M : Model} {A : Around} {E : Value → Shared → Prop} {s : Shared} {h₀ : Heap} {L a c P : Addr} {m mg mb : Str → Option Value} {cn : Str} {cs : Scope} {ccd : Value} {cl : List (Str × Addr)}
  {p : Program} {loose : List Str} {mean : ExcName → Option Value} {name qual : Str} {params : Arguments} {body : List Stmt} {scope : Scope} {pos : Pos} {firstLine : Nat} {clos : List (Str × Addr)} {pre others X : List (Addr × Obj)} {st : TSt}
theorem nest_any {Q : Value → Shared → Prop} (F : Fr h₀ L s.heap m) (N : News h₀ L s.heap (pre ++ X)) (T : Top p loose mean mg mb h₀) (C : CodeHd h₀ c P) (hcd : ccd = .ref c) (hX : X = tabL P pos st ++ others) (hst : tabOk qual st)
    (hpre : ∀ p ∈ pre, p.1 ≠ P) (hoth : ∀ p ∈ others, p.1 ≠ P) (hpx : ∀ q ∈ pre, ∀ p ∈ X, p.1 ≠ q.1) (hcl : closureFor scope (envX cn cs L a ccd cl) = pure clos)
    (h : ∀ f c' oc vs t ctv doc h' tk X', Fr h₀ L h' m → News h₀ L h' ((f, fnMade name qual params body scope clos doc ((mg "__name__").getD .none) c' ctv) :: (pre ++ X')) → X' = tabL P pos (some (c', oc)) ++ others →
      oc.data = .fields vs → vs[1]? = some (.str qual t) → (∀ q ∈ pre, @LT.lt Nat _ q.1 f) → (∀ p ∈ X', p.1 < f) → (∀ q ∈ pre, ∀ p ∈ X', p.1 ≠ q.1) → ((∀ z, st = some z → z = (c', oc)) ∧ (st = none → ∀ p ∈ others, @LT.lt Nat _ p.1 c')) → Q (.ref f) { s with heap := h', toks := tk }) :
    wpAny M A (makeFunction name qual params (.stmts body) scope (envX cn cs L a ccd cl) [] [] [] pos firstLine) Q E s := by
  subst hX
  cases st with
  | none =>
    have N1 : News h₀ L s.heap ((P, tabObj #[]) :: (pre ++ others)) := fun p hp => N p (by
      rcases List.mem_cons.mp hp with rfl | hp
      · exact List.mem_append_right _ (.head _)
      · rcases List.mem_append.mp hp with hp | hp
        · exact List.mem_append_left _ hp
        · exact List.mem_append_right _ (.tail _ hp))
    refine nest_K F N1 T C hcd (UpdF.head (fun p hp => (List.mem_append.mp hp).elim (hpre p) (hoth p))) trivial rfl hcl fun f c' oc vs t ctv doc h' tk F' N' d1 d2 l1 l2 => ?_
    have e : (#[] : Array Value) ++ #[rawInt pos.line, rawInt pos.col, .ref c'] = #[rawInt pos.line, rawInt pos.col, .ref c'] := rfl
    rw [e] at N'
    refine h f c' oc vs t ctv doc h' tk _ F' (fun p hp => N' p ?_) rfl d1 d2 (fun q hq => Nat.lt_trans (l1 q (.tail _ (List.mem_append_left _ hq))) l2) ?_ ?_ ⟨(fun z hz => nomatch hz), fun _ p hp => l1 p (.tail _ (List.mem_append_right _ hp))⟩
    · rcases List.mem_cons.mp hp with rfl | hp
      · exact .head _
      · rcases List.mem_append.mp hp with hp | hp
        · exact .tail _ (.tail _ (.tail _ (List.mem_append_left _ hp)))
        · rcases List.mem_append.mp hp with hp | hp
          · rcases List.mem_cons.mp hp with rfl | hp
            · exact .tail _ (.head _)
            · rcases List.mem_cons.mp hp with rfl | hp
              · exact .tail _ (.tail _ (.head _))
              · exact nomatch hp
          · exact .tail _ (.tail _ (.tail _ (List.mem_append_right _ hp)))
    · intro p hp
      rcases List.mem_append.mp hp with hp | hp
      · rcases List.mem_cons.mp hp with rfl | hp
        · exact l2
        · rcases List.mem_cons.mp hp with rfl | hp
          · exact Nat.lt_trans (l1 (P, tabObj #[]) (.head _)) l2
          · exact nomatch hp
      · exact Nat.lt_trans (l1 p (.tail _ (List.mem_append_right _ hp))) l2
    · intro q hq p hp
      rcases List.mem_append.mp hp with hp | hp
      · rcases List.mem_cons.mp hp with rfl | hp
        · exact Nat.ne_of_gt (l1 q (.tail _ (List.mem_append_left _ hq)))
        · rcases List.mem_cons.mp hp with rfl | hp
          · exact Ne.symm (hpre q hq)
          · exact nomatch hp
      · exact hpx q hq p (List.mem_append_right _ hp)
  | some z =>
    obtain ⟨c', oc⟩ := z
    obtain ⟨vs, t, d1, d2⟩ := hst
    refine nestHit_K (c' := c') (ps := #[rawInt pos.line, rawInt pos.col, .ref c']) F N T C hcd (List.mem_append_right _ (List.mem_append_left _ (.tail _ (.head _)))) (by simp [TriplesOk, rawInt]) (by simp [codeAmong, rawInt]) hcl fun f ctv doc h' tk F' N' l1 => ?_
    exact h f c' oc vs t ctv doc h' tk _ F' N' rfl d1 d2 (fun q hq => l1 q (List.mem_append_left _ hq)) (fun p hp => l1 p (List.mem_append_right _ hp)) hpx ⟨fun z hz => (Option.some.inj hz).symm, (fun h => nomatch h)⟩
end
theorem lt_of_tab {P L' : Addr} {pos : Pos} {st : TSt} {Z others : List (Addr × Obj)} (h : ∀ p ∈ Z, p.1 < L') (e : Z = tabL P pos st ++ others) : @LT.lt Nat _ P L' := by
  subst e
  cases st with
  | none => exact h (P, tabObj #[]) (List.mem_append_left _ (.head _))
  | some q => exact h (P, tabObj #[rawInt pos.line, rawInt pos.col, .ref q.1]) (List.mem_append_left _ (.tail _ (.head _)))
/-- a new list of these ints came back, the table is filled -/
def GotL (st : TSt) (others : List (Addr × Obj)) (ns : List Int) (r : Value) (news' : List (Addr × Obj)) : Prop :=
  ∃ D vs kk q, r = .ref D ∧ IntsAre vs ns ∧ tabOk q73 (some q) ∧ (∀ p ∈ tabL 73 pos73 (some q) ++ others, p.1 ≠ D) ∧ (∀ z, st = some z → z = q) ∧ news' = (D, W.listOf vs.toArray kk) :: (tabL 73 pos73 (some q) ++ others)
theorem allNe {d e : Addr} {l : List (Addr × Obj)} (h : ∀ p ∈ l, p.1 < d) (k : @LE.le Nat _ d e) : ∀ p ∈ l, p.1 ≠ e := fun p hp => Nat.ne_of_lt (Nat.lt_of_lt_of_le (h p hp) k)
local macro_rules | `(tactic| walk_at "binaryOp Mult ref int") => `(tactic| (k_here; (with_reducible show wpAny _ _ (binaryOp _ (Value.ref _) (Value.int _ _)) _ _ _); k_dflt (refine' r_zeros ?k1 ?k2 ?k3 ?k4 ?k5 ?_; (case k1 => k_asm); (case k2 => k_asm); (case k3 => k_mem); (case k4 => first | assumption | rfl | omega); (case k5 => first | omega | assumption); k_whole; intro D' h' F' N' l1; (try k_lt l1))))
local macro_rules | `(tactic| walk_at "call builtin:len") => `(tactic| (k_here; k_dflt (refine' r_len_rep ?k1 ?k2 ?k3 ?_; (case k1 => k_asm); (case k2 => k_mem); (case k3 => omega); k_whole; intro t9 tk9)))
local macro_rules | `(tactic| walk_at "call ref") => `(tactic| (k_here; (with_reducible show wpAny _ _ (call (Value.ref _) [Value.int _ _, Value.int _ _, Value.int _ _]) _ _ _); refine hold ?_))
local macro_rules | `(tactic| k_mem) => `(tactic| (refine List.mem_cons_of_mem _ ?_; assumption))
local macro_rules | `(tactic| k_all) => `(tactic| first | assumption | (refine allNe (by assumption) ?_; first | exact Nat.le_refl _ | omega))
local macro_rules | `(tactic| walk_at "exec FunctionDef") => `(tactic| (k_here; k_dflt (refine' nestDef_K ?d0 ?k0 ?a0 ?_; (case d0 => exact rfl); (case k0 => exact rfl); (case a0 => exact rfl)); refine hold ?_))
local macro_rules | `(tactic| walk_at "binaryOp LShift int int") => `(tactic| (k_here; refine lshift_int_small ?la ?lb ?lc ?_; (case la => omega); (case lb => omega); (case lc => first | exact fdiv_small (by assumption) (by assumption) _ | omega)))
theorem c_i2d1 (w : World) (x : Int) (t u : Tok) (Zl others : List (Addr × Obj)) (st : TSt) (hX : Zl = tabL 73 pos73 st ++ others) (hst : tabOk q73 st) (hr : ∀ p ∈ others, p.1 ≠ 73) (h0 : 0 ≤ x)
    (len : Nat) (hlen : (Builtin.Int.intBits x + 1 - 1 : Int).fdiv 1 = (len : Int)) (hl8 : len ≤ 8) (hxl : x < 2 ^ (1 * len)) : Ctr w 30 78 [.int x t, .int 1 u] Zl
      (GotL st others (dig 1 len x)) := by
  intro p loose mean mg mb dp un gd cn cs a ccd cl outer A₀ base h₀ L m s Q E B F X N T hk C1 C2 hd hu hret
  refine wpAny_call ?_
  k_dflt (refine' code_defC ?k1 ?k2 ?k3 ?k4 ?k5 ?kA ?kF ?kK ?k6 ?k7 ?k8 ?k9 ?kB ?kD ?_ ?c2 ?c3 ?c4; (case kA => exact rfl); (case kF => exact rfl); (case kK => assumption); (case k1 => k_asm); (case k2 => k_asm); (case k3 => k_asm); (case k4 => k_asm); (case k5 => k_asm); (case k6 => k_is); (case k7 => k_is); (case k8 => ktr_room); (case k9 => first | exact BindsTo.of_eq rfl | exact binds_K (by k_in) rfl (by k_is) rfl rfl rfl | fail "k_enter: no rule for these arguments"); (case kB => exact rfl); (case kD => decide +kernel); (case c2 => exact rfl); (case c3 => exact rfl); (case c4 => exact rfl); k_whole; intro g' L' h' tk' cells' FG' F' N' Y' B' X' T' l1; k_cells Y'; (try simp only [List.cons_append, List.nil_append] at N'); (try dsimp only); (try k_lift B'); (try k_fold))
  k_steps
  unfold Hold
  rename News _ _ _ _ => N9
  rename Fr _ _ _ _ => F9
  have h73 := lt_of_tab (by assumption) hX
  refine nest_any (X := Zl) (others := others) (st := st) (P := 73) F9 (show News _ _ _ ([_, _, _, _, _] ++ Zl) from N9) T' (CodeHd.keeps C1 (Below.stays B')) rfl hX ?hst ?hpre hr ?hpx rfl ?_
  case hst =>
    rw [show qualnameIn _ _ _ = Str.ofString "_int2digits.<locals>.inner" from by kernel_rfl]
    exact hst
  case hpre =>
    simp only [List.forall_mem_cons]
    refine ⟨?_, ?_, ?_, ?_, ?_, fun _ h => nomatch h⟩ <;> k_ne
  case hpx =>
    simp only [List.forall_mem_cons]
    refine ⟨?_, ?_, ?_, ?_, ?_, fun _ h => nomatch h⟩ <;> k_all
  intro f c' oc vs tt ctv doc h2 tk2 X2 F2 N2 hX2 d1 d2 l1 l2 l3 hsm2
  have hsm := hsm2.1
  clear hsm2
  have hq : tabOk q73 (some (c', oc)) := by
    rw [show qualnameIn _ _ _ = Str.ofString "_int2digits.<locals>.inner" from by kernel_rfl] at d2
    exact ⟨vs, tt, d1, d2⟩
  simp only [List.cons_append, List.nil_append] at N2
  simp only [List.forall_mem_cons] at l1 l3
  obtain ⟨l3a, l3b, l3c, l3d, l3e, -⟩ := l3
  obtain ⟨l1a, l1b, l1c, l1d, l1e, -⟩ := l1
  clear F9 N9
  k_steps
  rotate_left
  · rename x = 0 => hx0
    subst hx0
    rename News h₀ _ _ _ => N9
    subst hX2
    exact hret _ _ _ _ (by k_asm) (pull2 N9) ⟨_, _, _, (c', oc), rfl, by rw [dig_zero]; exact ints_rep _ _, hq, l3a, hsm, rfl⟩
  rename x ≠ 0 => hx0
  unfold Hold
  rename News _ _ _ _ => N9
  rename Fr _ _ _ _ => F9
  obtain ⟨D, R, hD, hR, hfR, h3R, h2R, h1R, hXR, N10⟩ := pull N9
  dsimp only at hD
  subst hD
  have hcR : (c', oc) ∈ R := hXR _ (by rw [hX2]; exact .head _)
  have hRD : ∀ p ∈ R, p.1 ≠ D := fun p hp => (show ∀ p ∈ R, p.1 ≠ D by
    rw [hR]
    simp only [List.forall_mem_cons]
    refine ⟨?_, ?_, ?_, ?_, l3a⟩ <;> k_ne) p hp
  refine (?H : ∀ (len : Nat) (y lo hi : Int) (ty tlo thi : Tok) (vs : List Value) (ns : List Int) (kk : Nat) (dp un : Nat) (gd : Option (List Code)) (cn : Str) (cs : Scope) (a : Addr) (ccd : Value) (cl : List (Str × Addr)) (outer : List Env) (A₀ : Around) (h₀ : Heap) (L : Addr) (m : Str → Option Value) (s : Shared) (Q E : Value → Shared → Prop),
    Below A₀ base outer h₀ → Fr h₀ L s.heap m → (Mine.hd.heap_39 w.params).In h₀ → News h₀ L s.heap ((D, W.listOf vs.toArray kk) :: R) → Top p loose mean mg mb h₀ → cs.kind = .function → dp + len + 1 < recursionLimit → un + 8 * (len + 1) < cLine →
    1 ≤ len → len ≤ 8 → 0 ≤ lo → hi = lo + len → hi ≤ vs.length → vs.length ≤ 1000 → 0 ≤ y → y < 2 ^ (1 * len) → IntsAre vs ns →
    (∀ r vs' h' tk', Fr h₀ L h' m → News h₀ L h' ((D, W.listOf vs'.toArray kk) :: R) → IntsAre vs' (put ns lo.toNat (dig 1 len y)) → Q r { s with heap := h', toks := tk' }) →
    wpAny (model _ w) (ktrTop dp un gd cn cs L a ccd cl outer) (call (.ref f) [.int y ty, .int lo tlo, .int hi thi]) Q E s) len x 0 len _ _ _ _ (List.replicate len 0) _ _ _ _ _ _ _ _ _ _ _ _ _ _ _ _ _ B' F9 X' N10 T' rfl ?g1 ?g2 ?g3 hl8 (Int.le_refl 0) (by omega) ?g4 ?g5 h0 hxl ?g6 ?g7
  case g1 => show dp + 1 + len + 1 < _; omega
  case g2 => show un + 3 + 8 * (len + 1) < _; omega
  case g3 =>
    refine Nat.pos_of_ne_zero fun e => ?_
    subst e
    have hxl : x < 1 := hxl
    omega
  case g4 => rw [List.length_replicate]; exact Int.le_refl _
  case g5 => rw [List.length_replicate]; omega
  case g6 => exact ints_rep _ _
  case g7 =>
    intro r9 vs9 h9 tk9 F9 N9 hi9
    dsimp only
    k_steps
    rename News h₀ _ _ _ => N8
    subst hX2
    rw [show put (List.replicate len 0) (0 : Int).toNat (dig 1 len x) = dig 1 len x from put_all (by rw [dig_len, List.length_replicate])] at hi9
    exact hret _ _ _ _ (by k_asm) (fun p hp => N8 p (by
      rcases List.mem_cons.mp hp with rfl | hp
      · exact .head _
      · exact .tail _ (hXR p hp))) ⟨_, _, _, (c', oc), rfl, hi9, hq, l3a, hsm, rfl⟩
  clear N10 F9 N9 hret
  intro len
  induction len using Nat.strongRecOn with
  | ind len IH =>
  intro y lo hi ty tlo thi vs ns kk dp un gd cn cs a ccd cl outer A₀ h₀ L m s Q E B F X N T hk hd hu g3 gL g4 g5 g6 g7 g8 g9 hi hret
  subst g5
  have hnl := hi.length
  have em := mid_eq lo len
  have hy16 : y < 65536 := Int.lt_of_lt_of_le g9 (pow_small (by omega))
  refine wpAny_call ?_
  k_dflt (refine' code_nest ?k1 ?k2 ?k3 ?k4 ?k5 ?kA ?kF ?kK ?k6 ?k7 ?k8 ?k9 ?kB ?_ ?c2 ?c3 ?c4 ?c5; (case kA => exact rfl); (case kF => exact rfl); (case kK => assumption); (case k1 => k_asm); (case k2 => k_asm); (case k3 => k_asm); (case k4 => k_asm); (case k5 => k_asm); (case k6 => k_mem); (case k7 => exact codeRec_news (by k_asm) (by k_mem) (by assumption) (by assumption)); (case k8 => ktr_room); (case k9 => exact BindsTo.of_eq rfl); (case c5 => decide); (case kB => exact locs rfl); (case c2 => exact rfl); (case c3 => exact rfl); (case c4 => exact rfl); k_whole; intro g' L' h' FG' F' N' B' X' T'; (try dsimp only); (try k_lift B'); (try k_fold))
  k_steps
  · rename lo + 1 = _ => e1
    obtain rfl : len = 1 := by omega
    refine hret _ _ _ _ (by k_asm) (by k_asm) ?_
    rw [dig_one g8 g9, put_one (by omega)]
    assumption
  rename lo + 1 ≠ _ => e1
  have hlen2 : 2 ≤ len := by omega
  have eS : (((lo + (lo + (len : Int))).fdiv (2 ^ Int.toNat 1) - lo) * 1).toNat = 1 * (len / 2) := by rw [em]; omega
  unfold Hold
  rename News _ _ _ _ => N9
  rename Fr _ _ _ _ => F9
  refine IH (len / 2) (by omega) _ _ _ _ _ _ vs ns kk _ _ _ _ _ _ _ _ _ _ _ _ _ _ _ _ B' F9 X' N9 T' rfl ?a1 ?a2 ?a3 (by omega) g4 em ?a4 g7 ?a5 ?a6 hi ?_
  case a1 => show dp + 1 + len / 2 + 1 < _; omega
  case a2 => show un + 3 + 8 * (len / 2 + 1) < _; omega
  case a3 => omega
  case a4 => rw [em]; omega
  case a5 => rw [xor_low g8]; exact Int.emod_nonneg _ (Int.ne_of_gt (pow2_pos _))
  case a6 => rw [xor_low g8, eS]; exact Int.emod_lt_of_pos _ (pow2_pos _)
  intro r1 vs1 h1 tk1 F1 N1 hi1
  rw [xor_low g8, eS] at hi1
  have hn1 := hi1.length
  rw [put_len (by rw [dig_len]; omega)] at hn1
  clear F9 N9
  dsimp only
  k_steps
  unfold Hold
  rename News _ _ _ _ => N9
  rename Fr _ _ _ _ => F9
  refine IH (len - len / 2) (by omega) _ _ _ _ _ _ vs1 _ kk _ _ _ _ _ _ _ _ _ _ _ _ _ _ _ _ B' F9 X' N9 T' rfl ?b1 ?b2 ?b3 (by omega) ?b8 ?b9 ?b4 ?ba ?b5 ?b6 hi1 ?_
  case b1 => show dp + 1 + (len - len / 2) + 1 < _; omega
  case b2 => show un + 3 + 8 * (len - len / 2 + 1) < _; omega
  case b3 => omega
  case b8 => rw [em]; omega
  case b9 => rw [em]; omega
  case b4 => omega
  case ba => omega
  case b5 => rw [Int.fdiv_eq_ediv_of_nonneg _ (Int.le_of_lt (pow2_pos _))]; exact Int.ediv_nonneg g8 (Int.le_of_lt (pow2_pos _))
  case b6 =>
    rw [Int.fdiv_eq_ediv_of_nonneg _ (Int.le_of_lt (pow2_pos _)), eS]
    exact div_bound (by rw [show len / 2 + (len - len / 2) = len by omega]; exact g9)
  intro r2 vs2 h2 tk2 F2 N2 hi2
  rw [eS, em, Int.fdiv_eq_ediv_of_nonneg _ (Int.le_of_lt (pow2_pos _)), show (lo + ((len / 2 : Nat) : Int)).toNat = lo.toNat + (dig 1 (len / 2) (y % 2 ^ (1 * (len / 2)))).length by rw [dig_len]; omega,
    put_put (by rw [dig_len, dig_len]; omega), ← dig_split, show len / 2 + (len - len / 2) = len by omega] at hi2
  clear F9 N9
  dsimp only
  k_steps
  all_goals exact hret _ _ _ _ (by k_asm) (by k_asm) hi2
theorem c_i2d2 (w : World) (x : Int) (t u : Tok) (Zl others : List (Addr × Obj)) (st : TSt) (hX : Zl = tabL 73 pos73 st ++ others) (hst : tabOk q73 st) (hr : ∀ p ∈ others, p.1 ≠ 73) (h0 : 0 ≤ x)
    (len : Nat) (hlen : (Builtin.Int.intBits x + 2 - 1 : Int).fdiv 2 = (len : Int)) (hl8 : len ≤ 8) (hxl : x < 2 ^ (2 * len)) : Ctr w 30 78 [.int x t, .int 2 u] Zl
      (GotL st others (dig 2 len x)) := by
  intro p loose mean mg mb dp un gd cn cs a ccd cl outer A₀ base h₀ L m s Q E B F X N T hk C1 C2 hd hu hret
  refine wpAny_call ?_
  k_dflt (refine' code_defC ?k1 ?k2 ?k3 ?k4 ?k5 ?kA ?kF ?kK ?k6 ?k7 ?k8 ?k9 ?kB ?kD ?_ ?c2 ?c3 ?c4; (case kA => exact rfl); (case kF => exact rfl); (case kK => assumption); (case k1 => k_asm); (case k2 => k_asm); (case k3 => k_asm); (case k4 => k_asm); (case k5 => k_asm); (case k6 => k_is); (case k7 => k_is); (case k8 => ktr_room); (case k9 => first | exact BindsTo.of_eq rfl | exact binds_K (by k_in) rfl (by k_is) rfl rfl rfl | fail "k_enter: no rule for these arguments"); (case kB => exact rfl); (case kD => decide +kernel); (case c2 => exact rfl); (case c3 => exact rfl); (case c4 => exact rfl); k_whole; intro g' L' h' tk' cells' FG' F' N' Y' B' X' T' l1; k_cells Y'; (try simp only [List.cons_append, List.nil_append] at N'); (try dsimp only); (try k_lift B'); (try k_fold))
  k_steps
  unfold Hold
  rename News _ _ _ _ => N9
  rename Fr _ _ _ _ => F9
  have h73 := lt_of_tab (by assumption) hX
  refine nest_any (X := Zl) (others := others) (st := st) (P := 73) F9 (show News _ _ _ ([_, _, _, _, _] ++ Zl) from N9) T' (CodeHd.keeps C1 (Below.stays B')) rfl hX ?hst ?hpre hr ?hpx rfl ?_
  case hst =>
    rw [show qualnameIn _ _ _ = Str.ofString "_int2digits.<locals>.inner" from by kernel_rfl]
    exact hst
  case hpre =>
    simp only [List.forall_mem_cons]
    refine ⟨?_, ?_, ?_, ?_, ?_, fun _ h => nomatch h⟩ <;> k_ne
  case hpx =>
    simp only [List.forall_mem_cons]
    refine ⟨?_, ?_, ?_, ?_, ?_, fun _ h => nomatch h⟩ <;> k_all
  intro f c' oc vs tt ctv doc h2 tk2 X2 F2 N2 hX2 d1 d2 l1 l2 l3 hsm2
  have hsm := hsm2.1
  clear hsm2
  have hq : tabOk q73 (some (c', oc)) := by
    rw [show qualnameIn _ _ _ = Str.ofString "_int2digits.<locals>.inner" from by kernel_rfl] at d2
    exact ⟨vs, tt, d1, d2⟩
  simp only [List.cons_append, List.nil_append] at N2
  simp only [List.forall_mem_cons] at l1 l3
  obtain ⟨l3a, l3b, l3c, l3d, l3e, -⟩ := l3
  obtain ⟨l1a, l1b, l1c, l1d, l1e, -⟩ := l1
  clear F9 N9
  k_steps
  rotate_left
  · rename x = 0 => hx0
    subst hx0
    rename News h₀ _ _ _ => N9
    subst hX2
    exact hret _ _ _ _ (by k_asm) (pull2 N9) ⟨_, _, _, (c', oc), rfl, by rw [dig_zero]; exact ints_rep _ _, hq, l3a, hsm, rfl⟩
  rename x ≠ 0 => hx0
  unfold Hold
  rename News _ _ _ _ => N9
  rename Fr _ _ _ _ => F9
  obtain ⟨D, R, hD, hR, hfR, h3R, h2R, h1R, hXR, N10⟩ := pull N9
  dsimp only at hD
  subst hD
  have hcR : (c', oc) ∈ R := hXR _ (by rw [hX2]; exact .head _)
  have hRD : ∀ p ∈ R, p.1 ≠ D := fun p hp => (show ∀ p ∈ R, p.1 ≠ D by
    rw [hR]
    simp only [List.forall_mem_cons]
    refine ⟨?_, ?_, ?_, ?_, l3a⟩ <;> k_ne) p hp
  refine (?H : ∀ (len : Nat) (y lo hi : Int) (ty tlo thi : Tok) (vs : List Value) (ns : List Int) (kk : Nat) (dp un : Nat) (gd : Option (List Code)) (cn : Str) (cs : Scope) (a : Addr) (ccd : Value) (cl : List (Str × Addr)) (outer : List Env) (A₀ : Around) (h₀ : Heap) (L : Addr) (m : Str → Option Value) (s : Shared) (Q E : Value → Shared → Prop),
    Below A₀ base outer h₀ → Fr h₀ L s.heap m → (Mine.hd.heap_39 w.params).In h₀ → News h₀ L s.heap ((D, W.listOf vs.toArray kk) :: R) → Top p loose mean mg mb h₀ → cs.kind = .function → dp + len + 1 < recursionLimit → un + 8 * (len + 1) < cLine →
    1 ≤ len → len ≤ 8 → 0 ≤ lo → hi = lo + len → hi ≤ vs.length → vs.length ≤ 1000 → 0 ≤ y → y < 2 ^ (2 * len) → IntsAre vs ns →
    (∀ r vs' h' tk', Fr h₀ L h' m → News h₀ L h' ((D, W.listOf vs'.toArray kk) :: R) → IntsAre vs' (put ns lo.toNat (dig 2 len y)) → Q r { s with heap := h', toks := tk' }) →
    wpAny (model _ w) (ktrTop dp un gd cn cs L a ccd cl outer) (call (.ref f) [.int y ty, .int lo tlo, .int hi thi]) Q E s) len x 0 len _ _ _ _ (List.replicate len 0) _ _ _ _ _ _ _ _ _ _ _ _ _ _ _ _ _ B' F9 X' N10 T' rfl ?g1 ?g2 ?g3 hl8 (Int.le_refl 0) (by omega) ?g4 ?g5 h0 hxl ?g6 ?g7
  case g1 => show dp + 1 + len + 1 < _; omega
  case g2 => show un + 3 + 8 * (len + 1) < _; omega
  case g3 =>
    refine Nat.pos_of_ne_zero fun e => ?_
    subst e
    have hxl : x < 1 := hxl
    omega
  case g4 => rw [List.length_replicate]; exact Int.le_refl _
  case g5 => rw [List.length_replicate]; omega
  case g6 => exact ints_rep _ _
  case g7 =>
    intro r9 vs9 h9 tk9 F9 N9 hi9
    dsimp only
    k_steps
    rename News h₀ _ _ _ => N8
    subst hX2
    rw [show put (List.replicate len 0) (0 : Int).toNat (dig 2 len x) = dig 2 len x from put_all (by rw [dig_len, List.length_replicate])] at hi9
    exact hret _ _ _ _ (by k_asm) (fun p hp => N8 p (by
      rcases List.mem_cons.mp hp with rfl | hp
      · exact .head _
      · exact .tail _ (hXR p hp))) ⟨_, _, _, (c', oc), rfl, hi9, hq, l3a, hsm, rfl⟩
  clear N10 F9 N9 hret
  intro len
  induction len using Nat.strongRecOn with
  | ind len IH =>
  intro y lo hi ty tlo thi vs ns kk dp un gd cn cs a ccd cl outer A₀ h₀ L m s Q E B F X N T hk hd hu g3 gL g4 g5 g6 g7 g8 g9 hi hret
  subst g5
  have hnl := hi.length
  have em := mid_eq lo len
  have hy16 : y < 65536 := Int.lt_of_lt_of_le g9 (pow_small (by omega))
  refine wpAny_call ?_
  k_dflt (refine' code_nest ?k1 ?k2 ?k3 ?k4 ?k5 ?kA ?kF ?kK ?k6 ?k7 ?k8 ?k9 ?kB ?_ ?c2 ?c3 ?c4 ?c5; (case kA => exact rfl); (case kF => exact rfl); (case kK => assumption); (case k1 => k_asm); (case k2 => k_asm); (case k3 => k_asm); (case k4 => k_asm); (case k5 => k_asm); (case k6 => k_mem); (case k7 => exact codeRec_news (by k_asm) (by k_mem) (by assumption) (by assumption)); (case k8 => ktr_room); (case k9 => exact BindsTo.of_eq rfl); (case c5 => decide); (case kB => exact locs rfl); (case c2 => exact rfl); (case c3 => exact rfl); (case c4 => exact rfl); k_whole; intro g' L' h' FG' F' N' B' X' T'; (try dsimp only); (try k_lift B'); (try k_fold))
  k_steps
  · rename lo + 1 = _ => e1
    obtain rfl : len = 1 := by omega
    refine hret _ _ _ _ (by k_asm) (by k_asm) ?_
    rw [dig_one g8 g9, put_one (by omega)]
    assumption
  rename lo + 1 ≠ _ => e1
  have hlen2 : 2 ≤ len := by omega
  have eS : (((lo + (lo + (len : Int))).fdiv (2 ^ Int.toNat 1) - lo) * 2).toNat = 2 * (len / 2) := by rw [em]; omega
  unfold Hold
  rename News _ _ _ _ => N9
  rename Fr _ _ _ _ => F9
  refine IH (len / 2) (by omega) _ _ _ _ _ _ vs ns kk _ _ _ _ _ _ _ _ _ _ _ _ _ _ _ _ B' F9 X' N9 T' rfl ?a1 ?a2 ?a3 (by omega) g4 em ?a4 g7 ?a5 ?a6 hi ?_
  case a1 => show dp + 1 + len / 2 + 1 < _; omega
  case a2 => show un + 3 + 8 * (len / 2 + 1) < _; omega
  case a3 => omega
  case a4 => rw [em]; omega
  case a5 => rw [xor_low g8]; exact Int.emod_nonneg _ (Int.ne_of_gt (pow2_pos _))
  case a6 => rw [xor_low g8, eS]; exact Int.emod_lt_of_pos _ (pow2_pos _)
  intro r1 vs1 h1 tk1 F1 N1 hi1
  rw [xor_low g8, eS] at hi1
  have hn1 := hi1.length
  rw [put_len (by rw [dig_len]; omega)] at hn1
  clear F9 N9
  dsimp only
  k_steps
  unfold Hold
  rename News _ _ _ _ => N9
  rename Fr _ _ _ _ => F9
  refine IH (len - len / 2) (by omega) _ _ _ _ _ _ vs1 _ kk _ _ _ _ _ _ _ _ _ _ _ _ _ _ _ _ B' F9 X' N9 T' rfl ?b1 ?b2 ?b3 (by omega) ?b8 ?b9 ?b4 ?ba ?b5 ?b6 hi1 ?_
  case b1 => show dp + 1 + (len - len / 2) + 1 < _; omega
  case b2 => show un + 3 + 8 * (len - len / 2 + 1) < _; omega
  case b3 => omega
  case b8 => rw [em]; omega
  case b9 => rw [em]; omega
  case b4 => omega
  case ba => omega
  case b5 => rw [Int.fdiv_eq_ediv_of_nonneg _ (Int.le_of_lt (pow2_pos _))]; exact Int.ediv_nonneg g8 (Int.le_of_lt (pow2_pos _))
  case b6 =>
    rw [Int.fdiv_eq_ediv_of_nonneg _ (Int.le_of_lt (pow2_pos _)), eS]
    exact div_bound (by rw [show len / 2 + (len - len / 2) = len by omega]; exact g9)
  intro r2 vs2 h2 tk2 F2 N2 hi2
  rw [eS, em, Int.fdiv_eq_ediv_of_nonneg _ (Int.le_of_lt (pow2_pos _)), show (lo + ((len / 2 : Nat) : Int)).toNat = lo.toNat + (dig 2 (len / 2) (y % 2 ^ (2 * (len / 2)))).length by rw [dig_len]; omega,
    put_put (by rw [dig_len, dig_len]; omega), ← dig_split, show len / 2 + (len - len / 2) = len by omega] at hi2
  clear F9 N9
  dsimp only
  k_steps
  all_goals exact hret _ _ _ _ (by k_asm) (by k_asm) hi2
/-- _int2digits -/
theorem c_i2d (w : World) (n : Nat) (hn : n = 1 ∨ n = 2) (x : Int) (t u : Tok) (Zl others : List (Addr × Obj)) (st : TSt) (hX : Zl = tabL 73 pos73 st ++ others) (hst : tabOk q73 st) (hr : ∀ p ∈ others, p.1 ≠ 73) (h0 : 0 ≤ x)
    (len : Nat) (hlen : (Builtin.Int.intBits x + (n : Int) - 1 : Int).fdiv (n : Int) = (len : Int)) (hl8 : len ≤ 8) (hxl : x < 2 ^ (n * len)) : Ctr w 30 78 [.int x t, .int (n : Int) u] Zl
      (GotL st others (dig n len x)) := by
  rcases hn with rfl | rfl
  · exact c_i2d1 w x t u Zl others st hX hst hr h0 len hlen hl8 hxl
  · exact c_i2d2 w x t u Zl others st hX hst hr h0 len hlen hl8 hxl
end Mine
end
section
namespace Mine
theorem reset_L6 : True := by
  w_top off
  trivial
end Mine
local macro_rules | `(tactic| walk_at "no key 0") => `(tactic| fail)
local macro_rules | `(tactic| walk_at "no key 1") => `(tactic| fail)
local macro_rules | `(tactic| walk_at "no key 2") => `(tactic| fail)
local macro_rules | `(tactic| walk_at "no key 3") => `(tactic| fail)
local macro_rules | `(tactic| walk_at "no key 4") => `(tactic| fail)
local macro_rules | `(tactic| walk_at "no key 5") => `(tactic| fail)
local macro_rules | `(tactic| walk_at "no key 6") => `(tactic| fail)
local macro_rules | `(tactic| walk_at "no key 7") => `(tactic| fail)
local macro_rules | `(tactic| walk_at "no key 8") => `(tactic| fail)
local macro_rules | `(tactic| walk_at "no key 9") => `(tactic| fail)
local macro_rules | `(tactic| walk_at "no key 10") => `(tactic| fail)
local macro_rules | `(tactic| walk_at "no key 11") => `(tactic| fail)
local macro_rules | `(tactic| walk_at "no key 12") => `(tactic| fail)
local macro_rules | `(tactic| walk_at "no key 13") => `(tactic| fail)
local macro_rules | `(tactic| walk_at "no key 14") => `(tactic| fail)
local macro_rules | `(tactic| walk_at "no key 15") => `(tactic| fail)
local macro_rules | `(tactic| walk_at "no key 16") => `(tactic| fail)
local macro_rules | `(tactic| walk_at "no key 17") => `(tactic| fail)
local macro_rules | `(tactic| walk_at "no key 18") => `(tactic| fail)
local macro_rules | `(tactic| walk_at "no key 19") => `(tactic| fail)
local macro_rules | `(tactic| walk_at "no key 20") => `(tactic| fail)
local macro_rules | `(tactic| walk_at "no key 21") => `(tactic| fail)
local macro_rules | `(tactic| walk_at "no key 22") => `(tactic| fail)
local macro_rules | `(tactic| walk_at "no key 23") => `(tactic| fail)
local macro_rules | `(tactic| walk_at "no key 24") => `(tactic| fail)
local macro_rules | `(tactic| walk_at "no key 25") => `(tactic| fail)
local macro_rules | `(tactic| walk_at "no key 26") => `(tactic| fail)
local macro_rules | `(tactic| walk_at "no key 27") => `(tactic| fail)
local macro_rules | `(tactic| walk_at "no key 28") => `(tactic| fail)
local macro_rules | `(tactic| walk_at "no key 29") => `(tactic| fail)
local macro_rules | `(tactic| walk_at "no key 30") => `(tactic| fail)
local macro_rules | `(tactic| walk_at "no key 31") => `(tactic| fail)
local macro_rules | `(tactic| walk_at "no key 32") => `(tactic| fail)
local macro_rules | `(tactic| walk_at "no key 33") => `(tactic| fail)
local macro_rules | `(tactic| walk_at "no key 34") => `(tactic| fail)
local macro_rules | `(tactic| walk_at "no key 35") => `(tactic| fail)
local macro_rules | `(tactic| walk_at "no key 36") => `(tactic| fail)
local macro_rules | `(tactic| walk_at "no key 37") => `(tactic| fail)
local macro_rules | `(tactic| walk_at "no key 38") => `(tactic| fail)
local macro_rules | `(tactic| walk_at "no key 39") => `(tactic| fail)
open PySem PySem.W PySem.Spec PySem.Calls PyProof.Rows
namespace Mine
set_option maxRecDepth 100000
set_option maxHeartbeats 8000000
set_option pp.deepTerms false
set_option pp.deepTerms.threshold 5
theorem fill_7 : (fun (P : Params) => (hd.heap_39 P, PySem.Challenge.rw_xg0082_01)) = (fun P => (hd.heap_39 P, PySem.Challenge.rw_xg0082_01)) := by
  k_fill
  rfl
section
variable {prog : Program} {w : World} {A : Around} {E : Value → Shared → Prop} {s : Shared} {h₀ : Heap} {L : Addr} {m : Str → Option Value} {news : List (Addr × Obj)}
theorem r_len {D : Addr} {k len : Nat} {vs : List Value} {Q : Value → Shared → Prop} (N : News h₀ L s.heap news) (hm : (D, W.listOf vs.toArray k) ∈ news) (hl : vs.length = len) (h1 : len ≤ 1000)
    (h : ∀ t tk, Q (.int (len : Int) t) { s with toks := tk }) : wpAny (model prog w) A (call (.builtin "len") [.ref D]) Q E s := by
  refine call_len_list (items := vs.toArray) ⟨_, N.get hm, rfl, k, rfl⟩ ?_ ?_
  · rw [List.size_toArray, hl]; omega
  · rw [List.size_toArray, hl]; exact h _ _
theorem r_add {l b : Addr} {k k2 : Nat} {vs ws : List Value} {Q : Value → Shared → Prop} (F : Fr h₀ L s.heap m) (N : News h₀ L s.heap news) (hl : (l, W.listOf vs.toArray k) ∈ news) (hb : (b, W.listOf ws.toArray k2) ∈ news) (hz : vs.length + ws.length ≤ 1000)
    (h : ∀ D h', Fr h₀ L h' m → News h₀ L h' ((D, W.listOf (vs ++ ws).toArray 0) :: news) → (∀ p ∈ news, p.1 < D) → Q (.ref D) { s with heap := h' }) :
    wpAny (model prog w) A (binaryOp .Add (.ref l) (.ref b)) Q E s :=
  add_lists (vs := vs) (ws := ws) (hsz := by rw [sizeLine_eq]; omega) F N ⟨_, N.get hl, rfl, k, rfl⟩ ⟨_, N.get hb, rfl, k2, rfl⟩ fun h' F' N' => h _ h' F' N' (fun p hp => Heap.lt_size (N p hp).1)
theorem ne_tail3 {a b c : Addr × Obj} {D : Addr} {Z : List (Addr × Obj)} (h : ∀ p ∈ a :: b :: c :: Z, p.1 < D) : ∀ p ∈ Z, p.1 ≠ D := fun p hp => Nat.ne_of_lt (h p (.tail _ (.tail _ (.tail _ hp))))
theorem news_14 {h : Heap} {d a b c : Addr × Obj} {Z : List (Addr × Obj)} (N : News h₀ L h (d :: a :: b :: c :: Z)) : News h₀ L h (d :: Z) := fun p hp => N p (by
  rcases List.mem_cons.mp hp with rfl | hp
  · exact .head _
  · exact .tail _ (.tail _ (.tail _ (.tail _ hp))))
end
section
local macro_rules | `(tactic| walk_at "binaryOp Add ref ref") => `(tactic| (k_here; (with_reducible show wpAny _ _ (binaryOp _ (Value.ref _) (Value.ref _)) _ _ _); k_dflt (refine' r_add ?k1 ?k2 ?k3 ?k4 ?k5 ?_; (case k1 => k_asm); (case k2 => k_asm); (case k3 => k_mem); (case k4 => k_mem); (case k5 => (simp only [List.length_replicate]; omega)); k_whole; intro D' h' F' N' l1)))
local macro_rules | `(tactic| walk_at "binaryOp Mult ref int") => `(tactic| (k_here; (with_reducible show wpAny _ _ (binaryOp _ (Value.ref _) (Value.int _ _)) _ _ _); k_dflt (refine' r_zeros ?k1 ?k2 ?k3 ?k4 ?k5 ?_; (case k1 => k_asm); (case k2 => k_asm); (case k3 => k_mem); (case k4 => first | assumption | rfl | omega); (case k5 => first | omega | assumption); k_whole; intro D' h' F' N' l1; (try k_lt l1))))
local macro_rules | `(tactic| walk_at "call builtin:len") => `(tactic| (k_here; k_dflt (refine' r_len ?k1 ?k2 ?k3 ?k4 ?_; (case k1 => k_asm); (case k2 => k_mem); (case k3 => assumption); (case k4 => omega); k_whole; intro t9 tk9)))
local macro_rules | `(tactic| walk_at "call ref") => `(tactic| (k_here; (with_reducible show wpAny _ _ (call (Value.ref 78) [Value.int _ _, Value.int _ _]) _ _ _); refine hold ?_))
theorem c_fig (w : World) (n : Nat) (hn : n = 1 ∨ n = 2) (x : Int) (places : Nat) (t u v : Tok) (Zl others : List (Addr × Obj)) (st : TSt) (hX : Zl = tabL 73 pos73 st ++ others) (hst : tabOk q73 st) (hr : ∀ p ∈ others, p.1 ≠ 73) (h0 : 0 ≤ x)
    (hp : places ≤ 8) (hx : x < 2 ^ (n * places)) : Ctr w 34 158 [.int x t, .int (n : Int) u, .int (places : Int) v] Zl
      (GotL st others (dig n places x)) := by
  intro p loose mean mg mb dp un gd cn cs a ccd cl outer A₀ base h₀ L m s Q E B F X N T hk C1 C2 hd hu hret
  obtain ⟨len, hlen, hlp, hxl⟩ := figs_len hn h0 hx
  refine wpAny_call ?_
  k_dflt cell_enter
  k_steps
  unfold Hold
  refine Ctr.use (c_i2d w n hn x _ _ Zl others st hX hst hr h0 len hlen (by omega) hxl) (by k_asm) (by k_asm) (by k_asm) (by k_asm) (by k_asm) rfl C1 C2 ?g1 ?g2 ?_
  case g1 => show dp + 1 + 30 < _; omega
  case g2 => show un + 3 + 8 * 30 < _; omega
  intro r9 n9 h9 tk9 F9 N9 ⟨D, vs, kk, q, hr9, hi, hq, hD, hsm, hn9⟩
  subst hr9
  subst hn9
  obtain ⟨Z2, hZ2⟩ : ∃ Z2, Z2 = tabL 73 pos73 (some q) ++ others := ⟨_, rfl⟩
  rw [← hZ2] at hD N9
  have hvl : vs.length = len := by rw [hi.length, dig_len]
  have hpl : (places : Int) - (len : Int) = ((places - len : Nat) : Int) := by omega
  dsimp only
  k_steps
  rename News h₀ _ _ _ => N8
  rw [hZ2] at hD
  refine hret _ _ _ _ (by k_asm) (hZ2 ▸ news_14 N8) ⟨_, _, _, q, rfl, ?_, hq, ?_, hsm, rfl⟩
  · have e := dig_more (b := places - len) h0 hxl
    rw [show len + (places - len) = places by omega] at e
    rw [e]
    exact hi.append (ints_rep _ _)
  · rw [← hZ2]
    exact ne_tail3 (by assumption)
end
end Mine
end
section
namespace Mine
theorem reset_L7 : True := by
  w_top off
  trivial
end Mine
open PySem PySem.W PySem.Spec PySem.Calls PyProof.Rows
namespace Mine
set_option maxRecDepth 100000
set_option maxHeartbeats 8000000
set_option pp.deepTerms false
set_option pp.deepTerms.threshold 5
theorem fill_8 : (fun (P : Params) => (hd.heap_39 P, PySem.Challenge.rw_xg0082_01)) = (fun P => (hd.heap_39 P, PySem.Challenge.rw_xg0082_01)) := by
  k_fill
  rfl
/-- the labels of a number's host -/
def hostL (n places : Nat) (tr x : Int) : List Nat := (dig n places x).map fun f => ((f + tr) % 4).toNat
def GotT (st : TSt) (others : List (Addr × Obj)) (y : Str) (r : Value) (news' : List (Addr × Obj)) : Prop :=
  ∃ t q, r = .str y t ∧ tabOk q73 (some q) ∧ (∀ z, st = some z → z = q) ∧ news' = tabL 73 pos73 (some q) ++ others
def labS (d : Nat) : Str := ⟨(lab d).toArray⟩
section
variable {prog : Program} {w : World} {A : Around} {E : Value → Shared → Prop} {s : Shared} {h₀ : Heap} {L : Addr} {m : Str → Option Value} {news : List (Addr × Obj)}
theorem lab_a : Str.ofString "a" = labS 0 := by decide +kernel
theorem lab_ba : Str.ofString "ba" = labS 1 := by decide +kernel
theorem lab_7 : Str.ofString "7" = labS 2 := by decide +kernel
theorem lab_m : Str.ofString "-" = labS 3 := by decide +kernel
theorem r_lab {value slice : PySem.Expr} {l : Addr} {k : Nat} {i : Int} {u t0 t1 t2 t3 : Tok} {Q : Value → Shared → Prop} (N : News h₀ L s.heap news)
    (hm : (l, W.listOf [.str (Str.ofString "a") t0, .str (Str.ofString "ba") t1, .str (Str.ofString "7") t2, .str (Str.ofString "-") t3].toArray k) ∈ news) (hi0 : 0 ≤ i) (hi4 : i < 4) (h : ∀ tt, Q (.str (labS i.toNat) tt) s)
    (hs : subscripted slice false (.ref l) (.int i u) = operate [.ref l, .int i u] (getItem (.ref l) (.int i u)) := by with_unfolding_all rfl) :
    wpAny (model prog w) A (subscriptTail value slice (.ref l) (.int i u)) Q E s := by
  have hl : s.heap.IsList l [.str (Str.ofString "a") t0, .str (Str.ofString "ba") t1, .str (Str.ofString "7") t2, .str (Str.ofString "-") t3].toArray := ⟨_, N.get hm, rfl, k, rfl⟩
  have hx : ∃ tt, ([.str (Str.ofString "a") t0, .str (Str.ofString "ba") t1, .str (Str.ofString "7") t2, .str (Str.ofString "-") t3] : List Value).toArray[i.toNat]? = some (.str (labS i.toNat) tt) := by
    rw [lab_a, lab_ba, lab_7, lab_m]
    obtain ⟨j, rfl⟩ := Int.eq_ofNat_of_zero_le hi0
    have hj : j < 4 := by omega
    rw [Int.toNat_natCast]
    match j, hj with
    | 0, _ => exact ⟨_, rfl⟩
    | 1, _ => exact ⟨_, rfl⟩
    | 2, _ => exact ⟨_, rfl⟩
    | 3, _ => exact ⟨_, rfl⟩
  obtain ⟨tt, hx⟩ := hx
  exact tail_any hl.typeIs slot_list_getitem.lookup (wpAny_getItem_list hl hi0 (by omega) hx (h tt)) hs
theorem join_body : ∀ ds : List Nat, Str.join (Str.ofString ".") (ds.map labS ++ [Str.ofString "local"]) = txt false ds
  | [] => by rw [← local_eq]; rfl
  | d :: ds => by
    have ih := join_body ds
    have hne : ∃ y r, ds.map labS ++ [Str.ofString "local"] = y :: r := by cases ds <;> exact ⟨_, _, rfl⟩
    obtain ⟨y, r, e⟩ := hne
    show Str.join _ (labS d :: (ds.map labS ++ [Str.ofString "local"])) = _
    rw [e] at ih ⊢
    show labS d ++ Str.ofString "." ++ Str.join _ (y :: r) = _
    rw [ih, dot_eq]
    apply Str.ext'
    apply Array.toList_inj.mp
    simp [Str.cps_append, txt, labS, body]
theorem labs_len : ∀ ds : List Nat, ((ds.map labS).map (·.length)).sum ≤ 2 * ds.length
  | [] => Nat.le_refl _
  | d :: ds => by
    have := labs_len ds
    have h := (lab_len d).2
    simp only [List.map_cons, List.sum_cons, List.length_cons]
    have e : (labS d).length = (lab d).length := rfl
    omega
theorem r_join {D : Addr} {k : Nat} {vs : List Value} {ds : List Nat} {t t1 : Tok} {Q : Value → Shared → Prop} (N : News h₀ L s.heap news) (hm : (D, W.listOf (vs ++ [Value.str (Str.ofString "local") t1]).toArray k) ∈ news) (hv : StrsAre vs (ds.map labS)) (hl : ds.length ≤ 20)
    (h : ∀ t' k, Q (.str (txt false ds) t') { s with toks := k }) : wpAny (model prog w) A (call (.builtin "str.join") [.str (Str.ofString ".") t, .ref D]) Q E s := by
  refine join_list (items := (vs ++ [Value.str (Str.ofString "local") t1]).toArray) (ys := ds.map labS ++ [Str.ofString "local"]) ⟨_, N.get hm, rfl, k, rfl⟩ (kct_snoc hv) ?_ ?_
  · have h1 := labs_len ds
    rw [List.map_append, List.sum_append, List.length_append, List.length_map]
    simp only [List.map_cons, List.map_nil, List.sum_cons, List.sum_nil, List.length_cons, List.length_nil]
    rw [show (Str.ofString "local").length = 5 from by decide +kernel, show (Str.ofString ".").length = 1 from by decide +kernel]
    omega
  · intro t' k
    have e : Txt.join (Str.ofString ".") (ds.map labS ++ [Str.ofString "local"]) = txt false ds := (StrLaws.glued_eq_join _ _).trans (join_body ds)
    rw [e]
    exact h t' k
end
theorem pick9 {h₀ h : Heap} {L : Addr} {x1 x2 x3 x4 q t y1 y2 y3 : Addr × Obj} {others : List (Addr × Obj)} (N : News h₀ L h (x1 :: x2 :: x3 :: x4 :: q :: t :: y1 :: y2 :: y3 :: others)) : News h₀ L h (q :: t :: others) :=
  fun p hp => N p (by
    simp only [List.mem_cons] at hp ⊢
    rcases hp with h | h | h <;> simp [h])
theorem grab3 {h₀ h : Heap} {L P : Addr} {pos : Pos} {st : TSt} {others Zl : List (Addr × Obj)} {a b c : Addr × Obj} (N : News h₀ L h (a :: b :: c :: Zl)) (hX : Zl = tabL P pos st ++ others) :
    ∃ pre, pre = [a, b, c] ∧ News h₀ L h (tabL P pos st ++ (pre ++ others)) := by
  subst hX
  refine ⟨_, rfl, fun p hp => N p ?_⟩
  simp only [List.mem_append, List.mem_cons, List.not_mem_nil, or_false] at hp ⊢
  rcases hp with h | (h | h | h) | h <;> simp [h]
section
local macro_rules | `(tactic| walk_at "binaryOp Add ref ref") => `(tactic| (k_here; (with_reducible show wpAny _ _ (binaryOp _ (Value.ref _) (Value.ref _)) _ _ _); k_dflt (refine' r_add ?k1 ?k2 ?k3 ?k4 ?k5 ?_; (case k1 => k_asm); (case k2 => k_asm); (case k3 => k_mem); (case k4 => k_mem); (case k5 => (simp only [List.length_cons, List.length_nil]; omega)); k_whole; intro D' h' F' N' l1)))
local macro_rules | `(tactic| walk_at "call builtin:str.join") => `(tactic| (k_here; k_dflt (refine r_join (by k_asm) (by k_mem) (by assumption) (by omega) ?_; intro t9 k9)))
local macro_rules | `(tactic| k_all) => `(tactic| first | assumption | (refine allNe (by assumption) ?_; first | exact Nat.le_refl _ | omega))
local macro_rules | `(tactic| walk_at "exec Assign cons ListComp") => `(tactic| (k_here; k_dflt (refine LCg.Assign_ListComp_U (F₀ := by k_asm) (by rfl) (by with_unfolding_all rfl) (by with_unfolding_all rfl) (by decide) (by rfl) (by decide) (by rfl) (by rfl) (by rfl) ?_)))
local macro_rules | `(tactic| walk_at "CompEnd") => `(tactic| (refine hold ?_))
local macro_rules | `(tactic| walk_at "subscriptTail Name BinOp ref int") => `(tactic| (k_here; k_dflt (refine r_lab (by k_asm) (by k_mem) (by omega) (by omega) ?_; intro tt')))
local macro_rules | `(tactic| walk_at "CompSrc") => `(tactic| (refine hold ?_))
local macro_rules | `(tactic| walk_at "call ref") => `(tactic| (k_here; (with_reducible show wpAny _ _ (call (Value.ref 158) [Value.int _ _, Value.int _ _, Value.int _ _]) _ _ _); refine hold ?_))
theorem c_host (w : World) (n : Nat) (hn : n = 1 ∨ n = 2) (x tr : Int) (places : Nat) (t u v tv : Tok) (Zl others : List (Addr × Obj)) (st : TSt) (hX : Zl = tabL 73 pos73 st ++ others) (hst : tabOk q73 st) (hr : ∀ p ∈ others, p.1 ≠ 73) (h0 : 0 ≤ x)
    (hp : places ≤ 8) (hx : x < 2 ^ (n * places)) (ht0 : 0 ≤ tr) (ht4 : tr < 4) : Ctr w 40 163 [.int x t, .int (n : Int) u, .int (places : Int) v, .int tr tv] Zl (GotT st others (txt false (hostL n places tr x))) := by
  intro p loose mean mg mb dp un gd cn cs a ccd cl outer A₀ base h₀ L m s Q E B F X N T hk C1 C2 hd hu hret
  refine wpAny_call ?_
  k_dflt (refine' code_defC ?k1 ?k2 ?k3 ?k4 ?k5 ?kA ?kF ?kK ?k6 ?k7 ?k8 ?k9 ?kB ?kD ?_ ?c2 ?c3 ?c4; (case kA => exact rfl); (case kF => exact rfl); (case kK => assumption); (case k1 => k_asm); (case k2 => k_asm); (case k3 => k_asm); (case k4 => k_asm); (case k5 => k_asm); (case k6 => k_is); (case k7 => k_is); (case k8 => ktr_room); (case k9 => first | exact BindsTo.of_eq rfl | exact binds_K (by k_in) rfl (by k_is) rfl rfl rfl | fail "k_enter: no rule for these arguments"); (case kB => exact rfl); (case kD => decide +kernel); (case c2 => exact rfl); (case c3 => exact rfl); (case c4 => exact rfl); k_whole; intro g' L' h' tk' cells' FG' F' N' Y' B' X' T' l1; k_cells Y'; (try simp only [List.cons_append, List.nil_append] at N'); (try dsimp only); (try k_lift B'); (try k_fold))
  k_steps
  unfold Hold
  rename News _ _ _ _ => N9
  have h73 := lt_of_tab (by assumption) hX
  obtain ⟨pre, hpre, N10⟩ := grab3 N9 hX
  refine Ctr.use (c_fig w n hn x places _ _ _ _ (pre ++ others) st rfl hst ?hr h0 hp hx) (by k_asm) (by k_asm) (by k_asm) N10 (by k_asm) rfl C1 C2 ?g1 ?g2 ?_
  case hr =>
    rw [hpre]
    refine List.forall_mem_append.mpr ⟨?_, hr⟩
    simp only [List.forall_mem_cons]
    refine ⟨?_, ?_, ?_, fun _ h => nomatch h⟩ <;> k_ne
  case g1 => show dp + 1 + 34 < _; omega
  case g2 => show un + 3 + 8 * 34 < _; omega
  clear N9 N10
  intro r9 n9 h9 tk9 F9 N9 ⟨D, vs, kk, q, hr9, hi, hq, hD, hsm, hn9⟩
  subst hr9 hn9 hpre
  simp only [tabL, List.cons_append, List.nil_append] at N9 hD
  dsimp only
  k_steps
  unfold Hold
  refine LCg.CompSrc.ledger rfl F9 N9 (.head _) ?hsz fun g2 => ?_
  case hsz => rw [List.size_toArray, hi.length, dig_len, sizeLine_eq]; omega
  refine kct_list (fun k => labS ((k + tr) % 4).toNat) hi (fun k' t' I' oI' C' oC' D' m' ys' h' tk' E' hk' hC' hx' F' N' off' ne' hMark' => ?_) ?_
  · have hf : (k' + tr).fmod 4 = (k' + tr) % 4 := Int.fmod_eq_emod_of_nonneg _ (by decide)
    k_steps
    exact LCg.CompEnd.intro F' N' _ (fun p hp => hp) off' (.inr ⟨_, .head _, rfl, _, rfl⟩) ⟨rfl, _, by rw [hf]⟩
  · intro ys hc hl
    have hs : StrsAre ys ((hostL n places tr x).map labS) := by
      refine StrsAre.of_carried ?_
      rw [hostL, List.map_map, List.map_map]
      exact hc
    have hyl : ys.length = places := by rw [hs.length, List.length_map, hostL, List.length_map, dig_len]
    have hll : (hostL n places tr x).length ≤ 20 := by rw [hostL, List.length_map, dig_len]; omega
    clear F9 N9
    intro D2 h2 tk2 F2 N2 o1
    dsimp only
    k_steps
    rename News h₀ _ _ _ => N8
    exact hret _ _ _ _ (by k_asm) (pick9 N8) ⟨_, q, rfl, hq, hsm, rfl⟩
end
end Mine
end
section
namespace Mine
theorem reset_L8 : True := by
  w_top off
  trivial
end Mine
local macro_rules | `(tactic| walk_at "no key 0") => `(tactic| fail)
local macro_rules | `(tactic| walk_at "no key 1") => `(tactic| fail)
local macro_rules | `(tactic| walk_at "no key 2") => `(tactic| fail)
local macro_rules | `(tactic| walk_at "no key 3") => `(tactic| fail)
local macro_rules | `(tactic| walk_at "no key 4") => `(tactic| fail)
local macro_rules | `(tactic| walk_at "no key 5") => `(tactic| fail)
local macro_rules | `(tactic| walk_at "no key 6") => `(tactic| fail)
local macro_rules | `(tactic| walk_at "no key 7") => `(tactic| fail)
local macro_rules | `(tactic| walk_at "no key 8") => `(tactic| fail)
local macro_rules | `(tactic| walk_at "no key 9") => `(tactic| fail)
local macro_rules | `(tactic| walk_at "no key 10") => `(tactic| fail)
local macro_rules | `(tactic| walk_at "no key 11") => `(tactic| fail)
local macro_rules | `(tactic| walk_at "no key 12") => `(tactic| fail)
local macro_rules | `(tactic| walk_at "no key 13") => `(tactic| fail)
local macro_rules | `(tactic| walk_at "no key 14") => `(tactic| fail)
local macro_rules | `(tactic| walk_at "no key 15") => `(tactic| fail)
local macro_rules | `(tactic| walk_at "no key 16") => `(tactic| fail)
local macro_rules | `(tactic| walk_at "no key 17") => `(tactic| fail)
local macro_rules | `(tactic| walk_at "no key 18") => `(tactic| fail)
local macro_rules | `(tactic| walk_at "no key 19") => `(tactic| fail)
local macro_rules | `(tactic| walk_at "no key 20") => `(tactic| fail)
local macro_rules | `(tactic| walk_at "no key 21") => `(tactic| fail)
local macro_rules | `(tactic| walk_at "no key 22") => `(tactic| fail)
local macro_rules | `(tactic| walk_at "no key 23") => `(tactic| fail)
local macro_rules | `(tactic| walk_at "no key 24") => `(tactic| fail)
local macro_rules | `(tactic| walk_at "no key 25") => `(tactic| fail)
local macro_rules | `(tactic| walk_at "no key 26") => `(tactic| fail)
local macro_rules | `(tactic| walk_at "no key 27") => `(tactic| fail)
local macro_rules | `(tactic| walk_at "no key 28") => `(tactic| fail)
local macro_rules | `(tactic| walk_at "no key 29") => `(tactic| fail)
local macro_rules | `(tactic| walk_at "no key 30") => `(tactic| fail)
local macro_rules | `(tactic| walk_at "no key 31") => `(tactic| fail)
local macro_rules | `(tactic| walk_at "no key 32") => `(tactic| fail)
local macro_rules | `(tactic| walk_at "no key 33") => `(tactic| fail)
local macro_rules | `(tactic| walk_at "no key 34") => `(tactic| fail)
local macro_rules | `(tactic| walk_at "no key 35") => `(tactic| fail)
local macro_rules | `(tactic| walk_at "no key 36") => `(tactic| fail)
local macro_rules | `(tactic| walk_at "no key 37") => `(tactic| fail)
local macro_rules | `(tactic| walk_at "no key 38") => `(tactic| fail)
local macro_rules | `(tactic| walk_at "no key 39") => `(tactic| fail)
open PySem PySem.W PySem.Spec PySem.Calls PyProof.Rows
namespace Mine
set_option maxRecDepth 100000
set_option maxHeartbeats 8000000
set_option pp.deepTerms false
set_option pp.deepTerms.threshold 5
theorem fill_9 : (fun (P : Params) => (hd.heap_39 P, PySem.Challenge.rw_xg0082_01)) = (fun P => (hd.heap_39 P, PySem.Challenge.rw_xg0082_01)) := by
  k_fill
  rfl
def undig (n : Nat) : List Int → Int
  | [] => 0
  | a :: r => a + 2 ^ n * undig n r
abbrev pos80 : Pos := ⟨59, 4, 64, 59⟩
abbrev q80 : Str := Str.ofString "_digits2int.<locals>.inner"
def GotI (st : TSt) (others : List (Addr × Obj)) (y : Int) (r : Value) (news' : List (Addr × Obj)) : Prop :=
  ∃ t q, r = .int y t ∧ tabOk q80 (some q) ∧ (∀ z, st = some z → z = q) ∧ (st = none → ∀ p ∈ others, @LT.lt Nat _ p.1 q.1) ∧ news' = tabL 80 pos80 (some q) ++ others
theorem undig_app (n : Nat) (a b : List Int) : undig n (a ++ b) = undig n a + 2 ^ (n * a.length) * undig n b := by
  induction a with
  | nil => simp [undig]
  | cons x r ih =>
    rw [List.cons_append, undig, undig, ih, List.length_cons, Nat.mul_add, Nat.mul_one, Nat.add_comm (n * r.length) n, Int.pow_add, Int.mul_add, Int.add_assoc, Int.mul_assoc]
theorem undig_lo {n : Nat} {a : List Int} (h : ∀ y ∈ a, 0 ≤ y ∧ y < 2 ^ n) : 0 ≤ undig n a := by
  induction a with
  | nil => exact Int.le_refl _
  | cons x r ih =>
    have h1 := h x (.head _)
    have h2 := ih fun y hy => h y (.tail _ hy)
    have h3 := Int.mul_nonneg (Int.le_of_lt (pow2_pos n)) h2
    rw [undig]; omega
theorem undig_hi {n : Nat} {a : List Int} (h : ∀ y ∈ a, 0 ≤ y ∧ y < 2 ^ n) : undig n a < 2 ^ (n * a.length) := by
  induction a with
  | nil => show (0 : Int) < 2 ^ (n * 0); simp
  | cons x r ih =>
    have h1 := h x (.head _)
    have h2 := ih fun y hy => h y (.tail _ hy)
    have h3 := Int.mul_le_mul_of_nonneg_left (show undig n r + 1 ≤ 2 ^ (n * r.length) by omega) (Int.le_of_lt (pow2_pos n))
    rw [Int.mul_add, Int.mul_one, ← Int.pow_add] at h3
    rw [undig, List.length_cons, Nat.mul_add, Nat.mul_one, Nat.add_comm (n * r.length) n]; omega
theorem cut_split (ns : List Int) (lo a b : Nat) : (ns.drop lo).take (a + b) = (ns.drop lo).take a ++ (ns.drop (lo + a)).take b := by
  rw [List.take_add, List.drop_drop]
theorem cut_one {ns : List Int} {lo : Nat} (h : lo < ns.length) : (ns.drop lo).take 1 = [ns.getD lo 0] := by
  rw [List.drop_eq_getElem_cons h, List.take_succ_cons, List.take_zero, List.getD_eq_getElem?_getD, List.getElem?_eq_getElem h]; rfl
theorem cut_len {ns : List Int} {lo a : Nat} (h : lo + a ≤ ns.length) : ((ns.drop lo).take a).length = a := by
  rw [List.length_take, List.length_drop]; omega
theorem cut_mem {ns : List Int} {lo a : Nat} {n : Nat} (h : ∀ y ∈ ns, 0 ≤ y ∧ y < 2 ^ n) : ∀ y ∈ (ns.drop lo).take a, 0 ≤ y ∧ y < 2 ^ n := fun y hy => h y (List.mem_of_mem_drop (List.mem_of_mem_take hy))
theorem cut_small {ns : List Int} {lo a n : Nat} (h : ∀ y ∈ ns, 0 ≤ y ∧ y < 2 ^ n) (hl : lo + a ≤ ns.length) (hn : n * a ≤ 16) : (undig n ((ns.drop lo).take a)).natAbs < 2 ^ 64 := by
  have h1 := undig_lo (cut_mem (lo := lo) (a := a) h)
  have h2 := undig_hi (cut_mem (lo := lo) (a := a) h)
  rw [cut_len hl] at h2
  have h3 := pow_small hn
  omega
section
variable {w : World} {A : Around} {E : Value → Shared → Prop} {s : Shared} {h₀ : Heap} {L : Addr} {news : List (Addr × Obj)} {prog : Program}
theorem r_true {D : Addr} {k : Nat} {vs : List Value} {Q : Bool → Shared → Prop} (N : News h₀ L s.heap news) (hm : (D, W.listOf vs.toArray k) ∈ news) (hl : 1 ≤ vs.length) (h1 : vs.length ≤ 1000)
    (h : ∀ tk, Q true { s with toks := tk }) : wpAny (model prog w) A (truthy (.ref D)) Q E s := by
  refine kgr_truthy N hm rfl rfl (by omega) ?_
  rw [show (!vs.isEmpty) = true by cases vs with | nil => simp at hl | cons _ _ => rfl]
  exact h _
theorem pullR {h : Heap} {f c3 c2 c1 : Addr × Obj} {X2 : List (Addr × Obj)} (N : News h₀ L h (f :: c3 :: c2 :: c1 :: X2)) :
    ∃ R, R = f :: c3 :: c2 :: c1 :: X2 ∧ f ∈ R ∧ c3 ∈ R ∧ c2 ∈ R ∧ c1 ∈ R ∧ (∀ p ∈ X2, p ∈ R) ∧ News h₀ L h R :=
  ⟨_, rfl, by simp, by simp, by simp, by simp, fun p hp => by simp [hp], N⟩
theorem r_item {value slice : Expr} {D : Addr} {k : Nat} {vs : List Value} {ns : List Int} {i : Int} {u : Tok} {Q : Value → Shared → Prop} (N : News h₀ L s.heap news) (hm : (D, W.listOf vs.toArray k) ∈ news) (hi : IntsAre vs ns) (h0 : 0 ≤ i) (h1 : i < ns.length) (h2 : ns.length ≤ 1000)
    (h : ∀ t, Q (.int (ns.getD i.toNat 0) t) s)
    (hs : subscripted slice false (.ref D) (.int i u) = operate [.ref D, .int i u] (getItem (.ref D) (.int i u)) := by with_unfolding_all rfl) :
    wpAny (model prog w) A (subscriptTail value slice (.ref D) (.int i u)) Q E s :=
  item_list_intsT ⟨_, N.get hm, rfl, k, rfl⟩ hi h0 h1 (by omega) h hs
end
section
local macro_rules | `(tactic| k_mem) => `(tactic| assumption)
local macro_rules | `(tactic| k_all) => `(tactic| first | assumption | (refine allNe (by assumption) ?_; first | exact Nat.le_refl _ | omega))
local macro_rules | `(tactic| walk_at "call ref") => `(tactic| (k_here; (with_reducible show wpAny _ _ (call (Value.ref _) [Value.int _ _, Value.int _ _]) _ _ _); refine hold ?_))
local macro_rules | `(tactic| walk_at "exec FunctionDef") => `(tactic| (k_here; k_dflt (refine' nestDef_K ?d0 ?k0 ?a0 ?_; (case d0 => exact rfl); (case k0 => exact rfl); (case a0 => exact rfl)); refine hold ?_))
local macro_rules | `(tactic| walk_at "truthy ref") => `(tactic| (k_here; (with_reducible show wpAny _ _ (truthy (Value.ref _)) _ _ _); k_dflt (refine' r_true ?k1 ?k2 ?k3 ?k4 ?_; (case k1 => k_asm); (case k2 => first | assumption | exact .tail _ (.tail _ (.tail _ (.tail _ (by assumption))))); (case k3 => omega); (case k4 => omega); k_whole; intro tk9)))
local macro_rules | `(tactic| walk_at "call builtin:len") => `(tactic| (k_here; k_dflt (refine' r_len ?k1 ?k2 ?k3 ?k4 ?_; (case k1 => k_asm); (case k2 => first | assumption | exact .tail _ (.tail _ (.tail _ (.tail _ (by assumption))))); (case k3 => exact rfl); (case k4 => omega); k_whole; intro t9 tk9)))
local macro_rules | `(tactic| walk_at "subscriptTail Name Name ref int") => `(tactic| (k_here; k_dflt (refine' r_item ?k1 ?k2 ?k3 ?k4 ?k5 ?k6 ?_; (case k1 => k_asm); (case k2 => first | assumption | exact .tail _ (.tail _ (.tail _ (.tail _ (by assumption))))); (case k3 => assumption); (case k4 => omega); (case k5 => omega); (case k6 => omega); k_whole; intro t9)))
local macro_rules | `(tactic| walk_at "binaryOp LShift int int") => `(tactic| (k_here; refine lshift_int_small ?la ?lb ?lc ?_; (case la => omega); (case lb => omega); (case lc => assumption)))
theorem c_d2i1 (w : World) (D : Addr) (vs : List Value) (ns : List Int) (kk : Nat) (u : Tok) (Zl others : List (Addr × Obj)) (st : TSt) (hX : Zl = tabL 80 pos80 st ++ others) (hst : tabOk q80 st) (hr : ∀ p ∈ others, p.1 ≠ 80)
    (hDo : (D, W.listOf vs.toArray kk) ∈ others) (hi : IntsAre vs ns) (hl1 : 1 ≤ ns.length) (hl8 : ns.length ≤ 8) (hb : ∀ y ∈ ns, 0 ≤ y ∧ y < 2 ^ 1) : Ctr w 30 85 [.ref D, .int 1 u] Zl (GotI st others (undig 1 ns)) := by
  intro p loose mean mg mb dp un gd cn cs a ccd cl outer A₀ base h₀ L m s Q E B F X N T hk C1 C2 hd hu hret
  have hvl := hi.length
  refine wpAny_call ?_
  k_dflt (refine' code_defC ?k1 ?k2 ?k3 ?k4 ?k5 ?kA ?kF ?kK ?k6 ?k7 ?k8 ?k9 ?kB ?kD ?_ ?c2 ?c3 ?c4; (case kA => exact rfl); (case kF => exact rfl); (case kK => assumption); (case k1 => k_asm); (case k2 => k_asm); (case k3 => k_asm); (case k4 => k_asm); (case k5 => k_asm); (case k6 => k_is); (case k7 => k_is); (case k8 => ktr_room); (case k9 => first | exact BindsTo.of_eq rfl | exact binds_K (by k_in) rfl (by k_is) rfl rfl rfl | fail "k_enter: no rule for these arguments"); (case kB => exact rfl); (case kD => decide +kernel); (case c2 => exact rfl); (case c3 => exact rfl); (case c4 => exact rfl); k_whole; intro g' L' h' tk' cells' FG' F' N' Y' B' X' T' l1; k_cells Y'; (try simp only [List.cons_append, List.nil_append] at N'); (try dsimp only); (try k_lift B'); (try k_fold))
  k_steps
  unfold Hold
  rename News _ _ _ _ => N9
  rename Fr _ _ _ _ => F9
  have h80 := lt_of_tab (by assumption) hX
  refine nest_any (X := Zl) (others := others) (st := st) (P := 80) F9 (show News _ _ _ ([_, _, _] ++ Zl) from N9) T' (CodeHd.keeps C2 (Below.stays B')) rfl hX ?hst ?hpre hr ?hpx rfl ?_
  case hst =>
    rw [show qualnameIn _ _ _ = Str.ofString "_digits2int.<locals>.inner" from by kernel_rfl]
    exact hst
  case hpre =>
    simp only [List.forall_mem_cons]
    refine ⟨?_, ?_, ?_, fun _ h => nomatch h⟩ <;> k_ne
  case hpx =>
    simp only [List.forall_mem_cons]
    refine ⟨?_, ?_, ?_, fun _ h => nomatch h⟩ <;> k_all
  intro f c' oc cvs tt ctv doc h2 tk2 X2 F2 N2 hX2 d1 d2 l1 l2 l3 hsm2
  obtain ⟨hsm, hsn⟩ := hsm2
  have hq : tabOk q80 (some (c', oc)) := by
    rw [show qualnameIn _ _ _ = Str.ofString "_digits2int.<locals>.inner" from by kernel_rfl] at d2
    exact ⟨cvs, tt, d1, d2⟩
  have hDX : (D, W.listOf vs.toArray kk) ∈ X2 := by rw [hX2]; exact List.mem_append_right _ hDo
  simp only [List.cons_append, List.nil_append] at N2
  simp only [List.forall_mem_cons] at l1 l3
  obtain ⟨l3a, l3b, l3c, -⟩ := l3
  obtain ⟨l1a, l1b, l1c, -⟩ := l1
  clear F9 N9
  k_steps
  unfold Hold
  rename News _ _ _ _ => N9
  rename Fr _ _ _ _ => F9
  obtain ⟨R, hR, hfR, h3R, h2R, h1R, hXR, N10⟩ := pullR N9
  have hcR : (c', oc) ∈ R := hXR _ (by rw [hX2]; exact .head _)
  have hDR : (D, W.listOf vs.toArray kk) ∈ R := hXR _ hDX
  refine (?H : ∀ (len : Nat) (lo hi : Int) (tlo thi : Tok) (dp un : Nat) (gd : Option (List Code)) (cn : Str) (cs : Scope) (a : Addr) (ccd : Value) (cl : List (Str × Addr)) (outer : List Env) (A₀ : Around) (h₀ : Heap) (L : Addr) (m : Str → Option Value) (s : Shared) (Q E : Value → Shared → Prop),
    Below A₀ base outer h₀ → Fr h₀ L s.heap m → (Mine.hd.heap_39 w.params).In h₀ → News h₀ L s.heap R → Top p loose mean mg mb h₀ → cs.kind = .function → dp + len + 1 < recursionLimit → un + 8 * (len + 1) < cLine →
    1 ≤ len → len ≤ 8 → 0 ≤ lo → hi = lo + len → hi ≤ ns.length →
    (∀ t h' tk', Fr h₀ L h' m → News h₀ L h' R → Q (.int (undig 1 ((ns.drop lo.toNat).take len)) t) { s with heap := h', toks := tk' }) →
    wpAny (model _ w) (ktrTop dp un gd cn cs L a ccd cl outer) (call (.ref f) [.int lo tlo, .int hi thi]) Q E s) ns.length 0 vs.length _ _ _ _ _ _ _ _ _ _ _ _ _ _ _ _ _ _ B' F9 X' N10 T' rfl ?g1 ?g2 hl1 hl8 (Int.le_refl 0) (by omega) ?g4 ?g7
  case g1 => show dp + 1 + ns.length + 1 < _; omega
  case g2 => show un + 3 + 8 * (ns.length + 1) < _; omega
  case g4 => omega
  case g7 =>
    intro t9 h9 tk9 F9 N9
    dsimp only
    k_steps
    rename News h₀ _ _ _ => N8
    subst hX2
    refine hret _ _ _ _ (by k_asm) (fun p hp => N8 p (hXR p hp)) ⟨_, (c', oc), by rw [show ((ns.drop (0 : Int).toNat).take ns.length) = ns from List.take_length], hq, hsm, hsn, rfl⟩
  clear N10 F9 N9 hret
  intro len
  induction len using Nat.strongRecOn with
  | ind len IH =>
  intro lo hi tlo thi dp un gd cn cs a ccd cl outer A₀ h₀ L m s Q E B F X N T hk hd hu g3 gL g4 g5 g6 hret
  subst g5
  have em := mid_eq lo len
  refine wpAny_call ?_
  k_dflt (refine' code_nest ?k1 ?k2 ?k3 ?k4 ?k5 ?kA ?kF ?kK ?k6 ?k7 ?k8 ?k9 ?kB ?_ ?c2 ?c3 ?c4 ?c5; (case kA => exact rfl); (case kF => exact rfl); (case kK => assumption); (case k1 => k_asm); (case k2 => k_asm); (case k3 => k_asm); (case k4 => k_asm); (case k5 => k_asm); (case k6 => k_mem); (case k7 => exact codeRec_news (by k_asm) (by k_mem) (by assumption) (by assumption)); (case k8 => ktr_room); (case k9 => exact BindsTo.of_eq rfl); (case c5 => decide); (case kB => exact locs rfl); (case c2 => exact rfl); (case c3 => exact rfl); (case c4 => exact rfl); k_whole; intro g' L' h' FG' F' N' B' X' T'; (try dsimp only); (try k_lift B'); (try k_fold))
  k_steps
  · rename lo + 1 = _ => e1
    obtain rfl : len = 1 := by omega
    have e2 := hret
    rw [cut_one (show lo.toNat < ns.length by omega)] at e2
    simp only [undig, Int.mul_zero, Int.add_zero] at e2
    exact e2 _ _ _ (by k_asm) (by k_asm)
  rename lo + 1 ≠ _ => e1
  have hlen2 : 2 ≤ len := by omega
  have eS : (((lo + (lo + (len : Int))).fdiv (2 ^ Int.toNat 1) - lo) * 1).toNat = 1 * (len / 2) := by rw [em]; omega
  unfold Hold
  rename News _ _ _ _ => N9
  rename Fr _ _ _ _ => F9
  refine IH (len - len / 2) (by omega) _ _ _ _ _ _ _ _ _ _ _ _ _ _ _ _ _ _ _ _ B' F9 X' N9 T' rfl ?b1 ?b2 ?b3 (by omega) ?b8 ?b9 ?b4 ?_
  case b1 => show dp + 1 + (len - len / 2) + 1 < _; omega
  case b2 => show un + 3 + 8 * (len - len / 2 + 1) < _; omega
  case b3 => omega
  case b8 => rw [em]; omega
  case b9 => rw [em]; omega
  case b4 => omega
  intro r1 h1 tk1 F1 N1
  have hsmall := cut_small hb (lo := ((lo + (lo + (len : Int))).fdiv (2 ^ Int.toNat 1)).toNat) (a := len - len / 2) (by rw [em]; omega) (by omega)
  clear F9 N9
  dsimp only
  k_steps
  unfold Hold
  rename News _ _ _ _ => N9
  rename Fr _ _ _ _ => F9
  refine IH (len / 2) (by omega) _ _ _ _ _ _ _ _ _ _ _ _ _ _ _ _ _ _ _ _ B' F9 X' N9 T' rfl ?a1 ?a2 ?a3 (by omega) g4 em ?a4 ?_
  case a1 => show dp + 1 + len / 2 + 1 < _; omega
  case a2 => show un + 3 + 8 * (len / 2 + 1) < _; omega
  case a3 => omega
  case a4 => rw [em]; omega
  intro r2 h2 tk2 F2 N2
  clear F9 N9
  dsimp only
  k_steps
  have e9 : undig 1 ((ns.drop ((lo + (lo + (len : Int))).fdiv (2 ^ Int.toNat 1)).toNat).take (len - len / 2)) * 2 ^ (((lo + (lo + (len : Int))).fdiv (2 ^ Int.toNat 1) - lo) * 1).toNat + undig 1 ((ns.drop lo.toNat).take (len / 2)) = undig 1 ((ns.drop lo.toNat).take len) := by
    rw [eS, em, show (lo + ((len / 2 : Nat) : Int)).toNat = lo.toNat + len / 2 by omega]
    have e := undig_app 1 ((ns.drop lo.toNat).take (len / 2)) ((ns.drop (lo.toNat + len / 2)).take (len - len / 2))
    rw [← cut_split, cut_len (by omega), show len / 2 + (len - len / 2) = len by omega] at e
    rw [e, Int.mul_comm, Int.add_comm]
  first
  | (rw [e9]; exact hret _ _ _ (by k_asm) (by k_asm))
  | trace_state
theorem c_d2i2 (w : World) (D : Addr) (vs : List Value) (ns : List Int) (kk : Nat) (u : Tok) (Zl others : List (Addr × Obj)) (st : TSt) (hX : Zl = tabL 80 pos80 st ++ others) (hst : tabOk q80 st) (hr : ∀ p ∈ others, p.1 ≠ 80)
    (hDo : (D, W.listOf vs.toArray kk) ∈ others) (hi : IntsAre vs ns) (hl1 : 1 ≤ ns.length) (hl8 : ns.length ≤ 8) (hb : ∀ y ∈ ns, 0 ≤ y ∧ y < 2 ^ 2) : Ctr w 30 85 [.ref D, .int 2 u] Zl (GotI st others (undig 2 ns)) := by
  intro p loose mean mg mb dp un gd cn cs a ccd cl outer A₀ base h₀ L m s Q E B F X N T hk C1 C2 hd hu hret
  have hvl := hi.length
  refine wpAny_call ?_
  k_dflt (refine' code_defC ?k1 ?k2 ?k3 ?k4 ?k5 ?kA ?kF ?kK ?k6 ?k7 ?k8 ?k9 ?kB ?kD ?_ ?c2 ?c3 ?c4; (case kA => exact rfl); (case kF => exact rfl); (case kK => assumption); (case k1 => k_asm); (case k2 => k_asm); (case k3 => k_asm); (case k4 => k_asm); (case k5 => k_asm); (case k6 => k_is); (case k7 => k_is); (case k8 => ktr_room); (case k9 => first | exact BindsTo.of_eq rfl | exact binds_K (by k_in) rfl (by k_is) rfl rfl rfl | fail "k_enter: no rule for these arguments"); (case kB => exact rfl); (case kD => decide +kernel); (case c2 => exact rfl); (case c3 => exact rfl); (case c4 => exact rfl); k_whole; intro g' L' h' tk' cells' FG' F' N' Y' B' X' T' l1; k_cells Y'; (try simp only [List.cons_append, List.nil_append] at N'); (try dsimp only); (try k_lift B'); (try k_fold))
  k_steps
  unfold Hold
  rename News _ _ _ _ => N9
  rename Fr _ _ _ _ => F9
  have h80 := lt_of_tab (by assumption) hX
  refine nest_any (X := Zl) (others := others) (st := st) (P := 80) F9 (show News _ _ _ ([_, _, _] ++ Zl) from N9) T' (CodeHd.keeps C2 (Below.stays B')) rfl hX ?hst ?hpre hr ?hpx rfl ?_
  case hst =>
    rw [show qualnameIn _ _ _ = Str.ofString "_digits2int.<locals>.inner" from by kernel_rfl]
    exact hst
  case hpre =>
    simp only [List.forall_mem_cons]
    refine ⟨?_, ?_, ?_, fun _ h => nomatch h⟩ <;> k_ne
  case hpx =>
    simp only [List.forall_mem_cons]
    refine ⟨?_, ?_, ?_, fun _ h => nomatch h⟩ <;> k_all
  intro f c' oc cvs tt ctv doc h2 tk2 X2 F2 N2 hX2 d1 d2 l1 l2 l3 hsm2
  obtain ⟨hsm, hsn⟩ := hsm2
  have hq : tabOk q80 (some (c', oc)) := by
    rw [show qualnameIn _ _ _ = Str.ofString "_digits2int.<locals>.inner" from by kernel_rfl] at d2
    exact ⟨cvs, tt, d1, d2⟩
  have hDX : (D, W.listOf vs.toArray kk) ∈ X2 := by rw [hX2]; exact List.mem_append_right _ hDo
  simp only [List.cons_append, List.nil_append] at N2
  simp only [List.forall_mem_cons] at l1 l3
  obtain ⟨l3a, l3b, l3c, -⟩ := l3
  obtain ⟨l1a, l1b, l1c, -⟩ := l1
  clear F9 N9
  k_steps
  unfold Hold
  rename News _ _ _ _ => N9
  rename Fr _ _ _ _ => F9
  obtain ⟨R, hR, hfR, h3R, h2R, h1R, hXR, N10⟩ := pullR N9
  have hcR : (c', oc) ∈ R := hXR _ (by rw [hX2]; exact .head _)
  have hDR : (D, W.listOf vs.toArray kk) ∈ R := hXR _ hDX
  refine (?H : ∀ (len : Nat) (lo hi : Int) (tlo thi : Tok) (dp un : Nat) (gd : Option (List Code)) (cn : Str) (cs : Scope) (a : Addr) (ccd : Value) (cl : List (Str × Addr)) (outer : List Env) (A₀ : Around) (h₀ : Heap) (L : Addr) (m : Str → Option Value) (s : Shared) (Q E : Value → Shared → Prop),
    Below A₀ base outer h₀ → Fr h₀ L s.heap m → (Mine.hd.heap_39 w.params).In h₀ → News h₀ L s.heap R → Top p loose mean mg mb h₀ → cs.kind = .function → dp + len + 1 < recursionLimit → un + 8 * (len + 1) < cLine →
    1 ≤ len → len ≤ 8 → 0 ≤ lo → hi = lo + len → hi ≤ ns.length →
    (∀ t h' tk', Fr h₀ L h' m → News h₀ L h' R → Q (.int (undig 2 ((ns.drop lo.toNat).take len)) t) { s with heap := h', toks := tk' }) →
    wpAny (model _ w) (ktrTop dp un gd cn cs L a ccd cl outer) (call (.ref f) [.int lo tlo, .int hi thi]) Q E s) ns.length 0 vs.length _ _ _ _ _ _ _ _ _ _ _ _ _ _ _ _ _ _ B' F9 X' N10 T' rfl ?g1 ?g2 hl1 hl8 (Int.le_refl 0) (by omega) ?g4 ?g7
  case g1 => show dp + 1 + ns.length + 1 < _; omega
  case g2 => show un + 3 + 8 * (ns.length + 1) < _; omega
  case g4 => omega
  case g7 =>
    intro t9 h9 tk9 F9 N9
    dsimp only
    k_steps
    rename News h₀ _ _ _ => N8
    subst hX2
    refine hret _ _ _ _ (by k_asm) (fun p hp => N8 p (hXR p hp)) ⟨_, (c', oc), by rw [show ((ns.drop (0 : Int).toNat).take ns.length) = ns from List.take_length], hq, hsm, hsn, rfl⟩
  clear N10 F9 N9 hret
  intro len
  induction len using Nat.strongRecOn with
  | ind len IH =>
  intro lo hi tlo thi dp un gd cn cs a ccd cl outer A₀ h₀ L m s Q E B F X N T hk hd hu g3 gL g4 g5 g6 hret
  subst g5
  have em := mid_eq lo len
  refine wpAny_call ?_
  k_dflt (refine' code_nest ?k1 ?k2 ?k3 ?k4 ?k5 ?kA ?kF ?kK ?k6 ?k7 ?k8 ?k9 ?kB ?_ ?c2 ?c3 ?c4 ?c5; (case kA => exact rfl); (case kF => exact rfl); (case kK => assumption); (case k1 => k_asm); (case k2 => k_asm); (case k3 => k_asm); (case k4 => k_asm); (case k5 => k_asm); (case k6 => k_mem); (case k7 => exact codeRec_news (by k_asm) (by k_mem) (by assumption) (by assumption)); (case k8 => ktr_room); (case k9 => exact BindsTo.of_eq rfl); (case c5 => decide); (case kB => exact locs rfl); (case c2 => exact rfl); (case c3 => exact rfl); (case c4 => exact rfl); k_whole; intro g' L' h' FG' F' N' B' X' T'; (try dsimp only); (try k_lift B'); (try k_fold))
  k_steps
  · rename lo + 1 = _ => e1
    obtain rfl : len = 1 := by omega
    have e2 := hret
    rw [cut_one (show lo.toNat < ns.length by omega)] at e2
    simp only [undig, Int.mul_zero, Int.add_zero] at e2
    exact e2 _ _ _ (by k_asm) (by k_asm)
  rename lo + 1 ≠ _ => e1
  have hlen2 : 2 ≤ len := by omega
  have eS : (((lo + (lo + (len : Int))).fdiv (2 ^ Int.toNat 1) - lo) * 2).toNat = 2 * (len / 2) := by rw [em]; omega
  unfold Hold
  rename News _ _ _ _ => N9
  rename Fr _ _ _ _ => F9
  refine IH (len - len / 2) (by omega) _ _ _ _ _ _ _ _ _ _ _ _ _ _ _ _ _ _ _ _ B' F9 X' N9 T' rfl ?b1 ?b2 ?b3 (by omega) ?b8 ?b9 ?b4 ?_
  case b1 => show dp + 1 + (len - len / 2) + 1 < _; omega
  case b2 => show un + 3 + 8 * (len - len / 2 + 1) < _; omega
  case b3 => omega
  case b8 => rw [em]; omega
  case b9 => rw [em]; omega
  case b4 => omega
  intro r1 h1 tk1 F1 N1
  have hsmall := cut_small hb (lo := ((lo + (lo + (len : Int))).fdiv (2 ^ Int.toNat 1)).toNat) (a := len - len / 2) (by rw [em]; omega) (by omega)
  clear F9 N9
  dsimp only
  k_steps
  unfold Hold
  rename News _ _ _ _ => N9
  rename Fr _ _ _ _ => F9
  refine IH (len / 2) (by omega) _ _ _ _ _ _ _ _ _ _ _ _ _ _ _ _ _ _ _ _ B' F9 X' N9 T' rfl ?a1 ?a2 ?a3 (by omega) g4 em ?a4 ?_
  case a1 => show dp + 1 + len / 2 + 1 < _; omega
  case a2 => show un + 3 + 8 * (len / 2 + 1) < _; omega
  case a3 => omega
  case a4 => rw [em]; omega
  intro r2 h2 tk2 F2 N2
  clear F9 N9
  dsimp only
  k_steps
  have e9 : undig 2 ((ns.drop ((lo + (lo + (len : Int))).fdiv (2 ^ Int.toNat 1)).toNat).take (len - len / 2)) * 2 ^ (((lo + (lo + (len : Int))).fdiv (2 ^ Int.toNat 1) - lo) * 2).toNat + undig 2 ((ns.drop lo.toNat).take (len / 2)) = undig 2 ((ns.drop lo.toNat).take len) := by
    rw [eS, em, show (lo + ((len / 2 : Nat) : Int)).toNat = lo.toNat + len / 2 by omega]
    have e := undig_app 2 ((ns.drop lo.toNat).take (len / 2)) ((ns.drop (lo.toNat + len / 2)).take (len - len / 2))
    rw [← cut_split, cut_len (by omega), show len / 2 + (len - len / 2) = len by omega] at e
    rw [e, Int.mul_comm, Int.add_comm]
  first
  | (rw [e9]; exact hret _ _ _ (by k_asm) (by k_asm))
  | trace_state
end
theorem c_d2i (w : World) (n : Nat) (hn : n = 1 ∨ n = 2) (D : Addr) (vs : List Value) (ns : List Int) (kk : Nat) (u : Tok) (Zl others : List (Addr × Obj)) (st : TSt) (hX : Zl = tabL 80 pos80 st ++ others) (hst : tabOk q80 st) (hr : ∀ p ∈ others, p.1 ≠ 80)
    (hDo : (D, W.listOf vs.toArray kk) ∈ others) (hi : IntsAre vs ns) (hl1 : 1 ≤ ns.length) (hl8 : ns.length ≤ 8) (hb : ∀ y ∈ ns, 0 ≤ y ∧ y < 2 ^ n) : Ctr w 30 85 [.ref D, .int n u] Zl (GotI st others (undig n ns)) := by
  rcases hn with rfl | rfl
  · exact c_d2i1 w D vs ns kk u Zl others st hX hst hr hDo hi hl1 hl8 hb
  · exact c_d2i2 w D vs ns kk u Zl others st hX hst hr hDo hi hl1 hl8 hb
end Mine
end
section
namespace Mine
theorem reset_L9 : True := by
  w_top off
  trivial
end Mine
open PySem PySem.W PySem.Spec PySem.Calls PyProof.Rows
namespace Mine
set_option maxRecDepth 100000
set_option maxHeartbeats 8000000
set_option pp.deepTerms false
set_option pp.deepTerms.threshold 5
theorem fill_10 : (fun (P : Params) => (hd.heap_39 P, PySem.Challenge.rw_xg0082_01)) = (fun P => (hd.heap_39 P, PySem.Challenge.rw_xg0082_01)) := by
  k_fill
  rfl
def spaced (n : Nat) : Str := ⟨(List.replicate n 32 ++ [9, 120, 9]).toArray⟩
abbrev spS : Str := Str.ofString " "
abbrev tbS : Str := Str.ofString "\t"
abbrev xxS : Str := Str.ofString "x"
theorem spaced_map (n : Nat) : (spaced n).cps.toList.map (fun c => (⟨#[c]⟩ : Str)) = List.replicate n spS ++ [tbS, xxS, tbS] := by
  rw [spaced, List.toList_toArray, List.map_append, List.map_replicate]
  rfl
theorem str_start {prog : Program} {w : World} {A : Around} {E : Value → Shared → Prop} {h₀ : Heap} {env : Env} {x : Str} {body : List Stmt} {Q : Flow → Shared → Prop} {s : Shared} {tx : Str} {t : Tok} {l : List Str} {m₀ : Str → Option Value} {news : List (Addr × Obj)} (hh : A.handled = none) (F : Fr h₀ env.locals s.heap m₀) (N : News h₀ env.locals s.heap news)
    (hx : tx.cps.toList.map (fun c => (⟨#[c]⟩ : Str)) = l) (rest₀ : ∀ I : Addr, (∀ p ∈ news, p.1 < I) → ∀ m₁, m₁ = m₀ → StrRest prog w A E h₀ env x body Q s I l m₁ news) :
    wpAny (model prog w) A (pyIter (.str tx t)) (fun it s₂ => LoopAtV prog w A h₀ env x body Q E it s₂) E s := iter_strUnr hh F N hx fun I hI => rest₀ I hI _ rfl
theorem news_ws {h₀ h : Heap} {L : Addr} {a b i l1 l2 t x d : Addr × Obj} {Z : List (Addr × Obj)} (N : News h₀ L h (a :: b :: i :: l1 :: l2 :: t :: x :: d :: Z)) : News h₀ L h (a :: b :: x :: d :: Z) := fun p hp => N p (by
  simp only [List.mem_cons] at hp ⊢
  rcases hp with h | h | h | h | h <;> simp [h])
abbrev wsDict (w : World) (n : Nat) (t0 ka kb kc kd ke tn tt : Tok) (D : Addr) (bv : Value) (kk : Nat) : Obj := dictOf [⟨PyData.keyHash w.params (Str.ofString "raw"), .str (Str.ofString "raw") ka, .str (spaced n) t0⟩, ⟨PyData.keyHash w.params (Str.ofString "n"), .str (Str.ofString "n") kb, .int ((n : Int) + 1) tn⟩,
  ⟨PyData.keyHash w.params (Str.ofString "nt"), .str (Str.ofString "nt") kc, .int (0 + 1) tt⟩, ⟨PyData.keyHash w.params (Str.ofString "norm"), .str (Str.ofString "norm") kd, .ref D⟩, ⟨PyData.keyHash w.params (Str.ofString "is_simple"), .str (Str.ofString "is_simple") ke, bv⟩] kk
def GotW (w : World) (n : Nat) (t0 : Tok) (Zl : List (Addr × Obj)) (r : Value) (news' : List (Addr × Obj)) : Prop :=
  ∃ x d T T1 vs ka kb kc kd ke tn tt bv kk t1 t2, r = .ref x ∧ IntsAre vs (List.replicate n 0 ++ [1]) ∧
    news' = (T, { cls := .type "tuple", data := .seq #[.ref T1, .int 0 t1] }) :: (T1, { cls := .type "tuple", data := .seq vs.toArray t2 }) :: (x, instObj 147 d) :: (d, wsDict w n t0 ka kb kc kd ke tn tt T bv kk) :: Zl
theorem apart {h₀ h : Heap} {L : Addr} {news : List (Addr × Obj)} (N : News h₀ L h news) {p q : Addr × Obj} (hp : p ∈ news) (hq : q ∈ news) (hc : p.2.cls = q.2.cls → False) : p.1 ≠ q.1 := fun e => by
  have h1 := (N _ hp).1
  rw [e, (N _ hq).1] at h1
  exact hc (congrArg Obj.cls (Option.some.inj h1).symm)
theorem unr_end3 {h₀ : Heap} {L I : Addr} {it : Obj} {rest : (Str → Option Value) → List (Addr × Obj) → Prop} {s₁ : Shared} {h' : Heap} {tk : Nat} {m' : Str → Option Value} {a b c : Addr × Obj} {news : List (Addr × Obj)} (F : Fr h₀ L h' m') (N : News h₀ L h' (a :: b :: c :: (I, it) :: news))
    (off : ∀ p ∈ news, p.1 < I) (ha : a.1 ≠ I) (r : rest m' (a :: news)) : UnrEnd h₀ L s₁ I it rest { s₁ with heap := h', toks := tk } :=
  UnrEnd.intro F N (a :: news) (fun p hp => by
    simp only [List.mem_cons] at hp ⊢
    rcases hp with h | h | h <;> simp [h]) (fun p hp => by
    rcases List.mem_cons.mp hp with rfl | hp
    · exact ha
    · exact Nat.ne_of_lt (off p hp)) r
theorem tal_eq (n : Nat) : ([] ++ (List.replicate ((n : Int) - 0 + 1).toNat [(0 : Int)]).flatten).set (n : Int).toNat (([] ++ (List.replicate ((n : Int) - 0 + 1).toNat [(0 : Int)]).flatten).getD (n : Int).toNat 0 + 1) = List.replicate n 0 ++ [1] := by
  rw [show ((n : Int) - 0 + 1).toNat = n + 1 by omega, show (n : Int).toNat = n by omega, show (List.replicate (n + 1) [(0 : Int)]).flatten = List.replicate (n + 1) 0 by simp, List.nil_append, List.replicate_succ']
  simp [List.getD]
section
local macro_rules | `(tactic| walk_at "UnrEnd") => `(tactic| exact unr_end (by k_asm) (by k_asm) (by assumption))
theorem c_ws (w : World) (n : Nat) (hn : n ≤ 64) (t0 : Tok) (Zl : List (Addr × Obj)) : Ctr w 30 147 [.str (spaced n) t0] Zl (GotW w n t0 Zl) := by
  intro p loose mean mg mb dp un gd cn cs a ccd cl outer A₀ base h₀ L m s Q E B F X N T hk C1 C2 hd hu hret
  k_dflt (refine' call_cls ?k1 ?k2 ?k3 ?k4 ?k5 ?k6 ?_; (case k1 => k_asm); (case k2 => k_asm); (case k3 => k_asm); (case k4 => k_is); (case k5 => k_is); (case k6 => k_is); k_whole; intro x' d' h' F' N' l1 l2; (try k_lt2 l2))
  k_dflt cell_enter
  k_steps
  rename Fr _ _ _ _ => lF'
  rename News _ _ _ _ => lN'
  with_unfolding_all refine str_start (by rfl) lF' lN' (spaced_map n) ?_
  clear lF' lN'
  intro i' l1 m₁ hm₁
  have l1c := l1
  dsimp only at l1
  k_lt l1
  have hcount := (congrFun hm₁ (Str.ofString "count")).trans (by (repeat' first | assumption | (apply Eq.symm; assumption) | refine (if_neg (by decide)).trans ?_ | refine (if_pos rfl).trans ?_ | rfl))
  have hnt := (congrFun hm₁ (Str.ofString "nt")).trans (by (repeat' first | assumption | (apply Eq.symm; assumption) | refine (if_neg (by decide)).trans ?_ | refine (if_pos rfl).trans ?_ | rfl))
  have hS := (congrFun hm₁ (Str.ofString "S")).trans (by (repeat' first | assumption | (apply Eq.symm; assumption) | refine (if_neg (by decide)).trans ?_ | refine (if_pos rfl).trans ?_ | rfl))
  have hT := (congrFun hm₁ (Str.ofString "T")).trans (by (repeat' first | assumption | (apply Eq.symm; assumption) | refine (if_neg (by decide)).trans ?_ | refine (if_pos rfl).trans ?_ | rfl))
  have hself := (congrFun hm₁ (Str.ofString "self")).trans (by (repeat' first | assumption | (apply Eq.symm; assumption) | refine (if_neg (by decide)).trans ?_ | refine (if_pos rfl).trans ?_ | rfl))
  obtain ⟨tb, hb⟩ : ∃ t, m₁ (Str.ofString "b") = some (.int (0 : Nat) t) := ⟨_, (congrFun hm₁ (Str.ofString "b")).trans (by (repeat' first | assumption | (apply Eq.symm; assumption) | refine (if_neg (by decide)).trans ?_ | refine (if_pos rfl).trans ?_ | rfl))⟩
  obtain ⟨tn, hn⟩ : ∃ t, m₁ (Str.ofString "n") = some (.int (0 : Nat) t) := ⟨_, (congrFun hm₁ (Str.ofString "n")).trans (by (repeat' first | assumption | (apply Eq.symm; assumption) | refine (if_neg (by decide)).trans ?_ | refine (if_pos rfl).trans ?_ | rfl))⟩
  clear hm₁
  refine (?H : ∀ (j k : Nat) (tb tn : Tok) (m' : Str → Option Value), k + j = n → m' (Str.ofString "b") = some (.int k tb) → m' (Str.ofString "n") = some (.int k tn) → m' (Str.ofString "count") = m₁ (Str.ofString "count") → m' (Str.ofString "nt") = m₁ (Str.ofString "nt") →
    m' (Str.ofString "S") = m₁ (Str.ofString "S") → m' (Str.ofString "T") = m₁ (Str.ofString "T") → m' (Str.ofString "self") = m₁ (Str.ofString "self") → StrRest _ _ _ _ _ _ _ _ _ _ _ (List.replicate j spS ++ [tbS, xxS, tbS]) m' _) n 0 _ _ _ (by omega) hb hn rfl rfl rfl rfl rfl
  intro j
  induction j with
  | zero =>
    intro k tb tn m' hkj hb hn hm1 hm2 hm3 hm4 hm5
    obtain rfl : k = n := by omega
    refine StrRest.succ (fun t1 it h' tk' F' N' => ?_)
    replace F' := Fr.tell F' (x := Str.ofString "count") ((if_neg (by decide)).trans (hm1.trans hcount))
    replace F' := Fr.tell F' (x := Str.ofString "nt") ((if_neg (by decide)).trans ((if_neg (by decide)).trans (hm2.trans hnt)))
    replace F' := Fr.tell F' (x := Str.ofString "S") ((if_neg (by decide)).trans ((if_neg (by decide)).trans ((if_neg (by decide)).trans (hm3.trans hS))))
    replace F' := Fr.tell F' (x := Str.ofString "T") ((if_neg (by decide)).trans ((if_neg (by decide)).trans ((if_neg (by decide)).trans ((if_neg (by decide)).trans (hm4.trans hT)))))
    replace F' := Fr.tell F' (x := Str.ofString "self") ((if_neg (by decide)).trans ((if_neg (by decide)).trans ((if_neg (by decide)).trans ((if_neg (by decide)).trans ((if_neg (by decide)).trans (hm5.trans hself))))))
    replace F' := Fr.tell F' (x := Str.ofString "n") (by (repeat' first | assumption | (apply Eq.symm; assumption) | refine (if_neg (by decide)).trans ?_ | refine (if_pos rfl).trans ?_ | rfl))
    replace F' := Fr.tell F' (x := Str.ofString "b") (by (repeat' first | assumption | (apply Eq.symm; assumption) | refine (if_neg (by decide)).trans ?_ | refine (if_pos rfl).trans ?_ | rfl))
    k_steps
    rename IntsAre _ _ => hi9
    rw [tal_eq] at hi9
    refine unr_end3 (by k_asm) (by k_asm) l1c (by k_ne) ?_
    refine StrRest.succ (fun t1 it h' tk' F' N' => ?_)
    k_steps
    rename News _ _ _ _ => N9
    have hdt := apart N9 (show (d', _) ∈ _ by k_mem) (.tail _ (.head _)) (fun e => absurd (Value.type.inj (show Value.type "dict" = Value.type "tuple" from e)) (by decide))
    have hdt2 := hdt.symm
    dsimp only at hdt hdt2
    k_steps
    have hlen9 := hi9.length
    rw [List.length_append, List.length_replicate] at hlen9
    refine r_len (len := k + 1) (by k_asm) (by k_mem) hlen9 (by omega) fun t9 tk9 => ?_
    dsimp only
    k_steps
    clear hlen9 hdt hdt2
    rename News h₀ _ _ _ => N8
    exact hret _ _ _ _ (by k_asm) (news_ws N8) ⟨_, _, _, _, _, _, _, _, _, _, _, _, _, _, _, _, rfl, hi9, rfl⟩
  | succ j ih =>
    intro k tb tn m' hkj hb hn hm1 hm2 hm3 hm4 hm5
    rw [List.replicate_succ, List.cons_append]
    refine StrRest.succ (fun t1 it h' tk' F' N' => ?_)
    replace F' := Fr.tell F' (x := Str.ofString "count") ((if_neg (by decide)).trans (hm1.trans hcount))
    replace F' := Fr.tell F' (x := Str.ofString "nt") ((if_neg (by decide)).trans ((if_neg (by decide)).trans (hm2.trans hnt)))
    replace F' := Fr.tell F' (x := Str.ofString "S") ((if_neg (by decide)).trans ((if_neg (by decide)).trans ((if_neg (by decide)).trans (hm3.trans hS))))
    replace F' := Fr.tell F' (x := Str.ofString "T") ((if_neg (by decide)).trans ((if_neg (by decide)).trans ((if_neg (by decide)).trans ((if_neg (by decide)).trans (hm4.trans hT)))))
    replace F' := Fr.tell F' (x := Str.ofString "self") ((if_neg (by decide)).trans ((if_neg (by decide)).trans ((if_neg (by decide)).trans ((if_neg (by decide)).trans ((if_neg (by decide)).trans (hm5.trans hself))))))
    replace F' := Fr.tell F' (x := Str.ofString "n") (by (repeat' first | assumption | (apply Eq.symm; assumption) | refine (if_neg (by decide)).trans ?_ | refine (if_pos rfl).trans ?_ | rfl))
    replace F' := Fr.tell F' (x := Str.ofString "b") (by (repeat' first | assumption | (apply Eq.symm; assumption) | refine (if_neg (by decide)).trans ?_ | refine (if_pos rfl).trans ?_ | rfl))
    k_steps
    exact unr_end (by k_asm) (by k_asm) l1c (ih (k + 1) _ _ _ (by omega) (by (repeat' first | assumption | (apply Eq.symm; assumption) | refine (if_neg (by decide)).trans ?_ | refine (if_pos rfl).trans ?_ | rfl)) (by (repeat' first | assumption | (apply Eq.symm; assumption) | refine (if_neg (by decide)).trans ?_ | refine (if_pos rfl).trans ?_ | rfl)) (by (repeat' first | assumption | (apply Eq.symm; assumption) | refine (if_neg (by decide)).trans ?_ | refine (if_pos rfl).trans ?_ | rfl)) (by (repeat' first | assumption | (apply Eq.symm; assumption) | refine (if_neg (by decide)).trans ?_ | refine (if_pos rfl).trans ?_ | rfl)) (by (repeat' first | assumption | (apply Eq.symm; assumption) | refine (if_neg (by decide)).trans ?_ | refine (if_pos rfl).trans ?_ | rfl)) (by (repeat' first | assumption | (apply Eq.symm; assumption) | refine (if_neg (by decide)).trans ?_ | refine (if_pos rfl).trans ?_ | rfl)) (by (repeat' first | assumption | (apply Eq.symm; assumption) | refine (if_neg (by decide)).trans ?_ | refine (if_pos rfl).trans ?_ | rfl)))
end
end Mine
end
section
namespace Mine
theorem reset_L10 : True := by
  w_top off
  trivial
end Mine
local macro_rules | `(tactic| walk_at "no key 0") => `(tactic| fail)
local macro_rules | `(tactic| walk_at "no key 1") => `(tactic| fail)
local macro_rules | `(tactic| walk_at "no key 2") => `(tactic| fail)
local macro_rules | `(tactic| walk_at "no key 3") => `(tactic| fail)
local macro_rules | `(tactic| walk_at "no key 4") => `(tactic| fail)
local macro_rules | `(tactic| walk_at "no key 5") => `(tactic| fail)
local macro_rules | `(tactic| walk_at "no key 6") => `(tactic| fail)
local macro_rules | `(tactic| walk_at "no key 7") => `(tactic| fail)
local macro_rules | `(tactic| walk_at "no key 8") => `(tactic| fail)
local macro_rules | `(tactic| walk_at "no key 9") => `(tactic| fail)
local macro_rules | `(tactic| walk_at "no key 10") => `(tactic| fail)
local macro_rules | `(tactic| walk_at "no key 11") => `(tactic| fail)
local macro_rules | `(tactic| walk_at "no key 12") => `(tactic| fail)
local macro_rules | `(tactic| walk_at "no key 13") => `(tactic| fail)
local macro_rules | `(tactic| walk_at "no key 14") => `(tactic| fail)
local macro_rules | `(tactic| walk_at "no key 15") => `(tactic| fail)
local macro_rules | `(tactic| walk_at "no key 16") => `(tactic| fail)
local macro_rules | `(tactic| walk_at "no key 17") => `(tactic| fail)
local macro_rules | `(tactic| walk_at "no key 18") => `(tactic| fail)
local macro_rules | `(tactic| walk_at "no key 19") => `(tactic| fail)
local macro_rules | `(tactic| walk_at "no key 20") => `(tactic| fail)
local macro_rules | `(tactic| walk_at "no key 21") => `(tactic| fail)
local macro_rules | `(tactic| walk_at "no key 22") => `(tactic| fail)
local macro_rules | `(tactic| walk_at "no key 23") => `(tactic| fail)
local macro_rules | `(tactic| walk_at "no key 24") => `(tactic| fail)
local macro_rules | `(tactic| walk_at "no key 25") => `(tactic| fail)
local macro_rules | `(tactic| walk_at "no key 26") => `(tactic| fail)
local macro_rules | `(tactic| walk_at "no key 27") => `(tactic| fail)
local macro_rules | `(tactic| walk_at "no key 28") => `(tactic| fail)
local macro_rules | `(tactic| walk_at "no key 29") => `(tactic| fail)
local macro_rules | `(tactic| walk_at "no key 30") => `(tactic| fail)
local macro_rules | `(tactic| walk_at "no key 31") => `(tactic| fail)
local macro_rules | `(tactic| walk_at "no key 32") => `(tactic| fail)
local macro_rules | `(tactic| walk_at "no key 33") => `(tactic| fail)
local macro_rules | `(tactic| walk_at "no key 34") => `(tactic| fail)
local macro_rules | `(tactic| walk_at "no key 35") => `(tactic| fail)
local macro_rules | `(tactic| walk_at "no key 36") => `(tactic| fail)
local macro_rules | `(tactic| walk_at "no key 37") => `(tactic| fail)
local macro_rules | `(tactic| walk_at "no key 38") => `(tactic| fail)
local macro_rules | `(tactic| walk_at "no key 39") => `(tactic| fail)
open PySem PySem.W PySem.Spec PySem.Calls PyProof.Rows
namespace Mine
set_option maxRecDepth 100000
set_option maxHeartbeats 8000000
set_option pp.deepTerms false
set_option pp.deepTerms.threshold 5
theorem fill_11 : (fun (P : Params) => (hd.heap_39 P, PySem.Challenge.rw_xg0082_01)) = (fun P => (hd.heap_39 P, PySem.Challenge.rw_xg0082_01)) := by
  k_fill
  rfl
section
variable {prog : Program} {w : World} {A : Around} {E : Value → Shared → Prop} {s : Shared} {env : Env} {h₀ : Heap} {x : Str} {body : List Stmt} {Q : Flow → Shared → Prop}
theorem range_start {r : Addr} {a₀ b₀ : Int} {t₀ u₀ v₀ : Tok} {m₀ : Str → Option Value} {news : List (Addr × Obj)}
    (hh : A.handled = none) (hr : IsRange s.heap r a₀ b₀ 1 t₀ u₀ v₀) (hsmall : Builtin.Range.small a₀ b₀ 1 = true) (F : Fr h₀ env.locals s.heap m₀) (N : News h₀ env.locals s.heap news)
    (rest₀ : ∀ I : Addr, (∀ p ∈ news, p.1 < I) → ∀ m₁, m₁ = m₀ → RangeRest prog w A E h₀ env x body Q s I a₀ (b₀ - a₀).toNat (b₀ - a₀).toNat 0 m₁ news) :
    wpAny (model prog w) A (pyIter (.ref r)) (fun it s₂ => LoopAtV prog w A h₀ env x body Q E it s₂) E s :=
  iter_rangeUnr hh hr hsmall (rangeSize_nat _ _) F N fun I hI => rest₀ I hI _ rfl
end
section
variable {prog : Program} {w : World} {A : Around} {E : Value → Shared → Prop} {s : Shared} {h₀ : Heap} {L : Addr} {news : List (Addr × Obj)}
theorem r_len_tup {D : Addr} {k len : Nat} {vs : List Value} {Q : Value → Shared → Prop} (N : News h₀ L s.heap news) (hm : (D, ({ cls := .type "tuple", data := .seq vs.toArray k } : Obj)) ∈ news) (hl : vs.length = len) (h1 : len ≤ 1000)
    (h : ∀ t tk, Q (.int (len : Int) t) { s with toks := tk }) : wpAny (model prog w) A (call (.builtin "len") [.ref D]) Q E s := by
  refine len_tuple (items := vs.toArray) ⟨_, N.get hm, rfl, k, rfl⟩ ?_ ?_
  · rw [List.size_toArray, hl]; omega
  · rw [List.size_toArray, hl]; exact h _ _
theorem r_item_tup {value slice : Expr} {D : Addr} {k : Nat} {vs : List Value} {ns : List Int} {i : Int} {u : Tok} {Q : Value → Shared → Prop} (N : News h₀ L s.heap news) (hm : (D, ({ cls := .type "tuple", data := .seq vs.toArray k } : Obj)) ∈ news) (hi : IntsAre vs ns) (h0 : 0 ≤ i) (h1 : i < ns.length) (h2 : ns.length ≤ 1000)
    (h : ∀ t, Q (.int (ns.getD i.toNat 0) t) s)
    (hs : subscripted slice false (.ref D) (.int i u) = operate [.ref D, .int i u] (getItem (.ref D) (.int i u)) := by with_unfolding_all rfl) (hg : ∀ r, letTemporaryGo value (.ref D) r = pure () := by intro _; with_unfolding_all rfl) :
    wpAny (model prog w) A (subscriptTail value slice (.ref D) (.int i u)) Q E s :=
  item_tuple_ints ⟨_, N.get hm, rfl, k, rfl⟩ hi h0 h1 (by omega) h hs hg
end
theorem tal_get (n j : Nat) : (List.replicate n (0 : Int) ++ [1]).getD j 0 = if j = n then 1 else 0 := by
  rw [List.getD_eq_getElem?_getD]
  rcases Nat.lt_trichotomy j n with h | h | h
  · rw [List.getElem?_append_left (by simpa using h), if_neg (by omega)]; simp [h]
  · subst h; simp
  · rw [List.getElem?_eq_none (by simp; omega), if_neg (by omega)]; rfl
theorem lvl_step {n b i : Nat} (h1 : 1 ≤ b) (h : b + i ≤ n) : (0 : Int) + ((b : Int) + (i : Int)).fdiv (b : Int) * (List.replicate n (0 : Int) ++ [1]).getD ((b : Int) + (i : Int)).toNat 0 = if b + (i + 1) ≤ n then 0 else ((n / b : Nat) : Int) := by
  rw [show ((b : Int) + (i : Int)).toNat = b + i by omega, tal_get, Int.zero_add]
  by_cases e : b + i = n
  · rw [if_pos e, if_neg (by omega), Int.mul_one, Int.fdiv_eq_ediv_of_nonneg _ (by omega), ← Int.natCast_add, e]; rfl
  · rw [if_neg e, if_pos (by omega), Int.mul_zero]
section
local macro_rules | `(tactic| k_mem) => `(tactic| assumption)
local macro_rules | `(tactic| walk_at "call builtin:len") => `(tactic| (k_here; k_dflt (refine' r_len_tup ?k1 ?k2 ?k3 ?k4 ?_; (case k1 => k_asm); (case k2 => first | assumption | exact .tail _ (by assumption)); (case k3 => assumption); (case k4 => omega); k_whole; intro t9 tk9)))
local macro_rules | `(tactic| walk_at "subscriptTail Name Name ref int") => `(tactic| (k_here; k_dflt (refine' r_item_tup ?k1 ?k2 ?k3 ?k4 ?k5 ?k6 ?_; (case k1 => k_asm); (case k2 => first | assumption | exact .tail _ (by assumption)); (case k3 => assumption); (case k4 => omega); (case k5 => (simp only [List.length_append, List.length_replicate, List.length_singleton]; omega)); (case k6 => (simp only [List.length_append, List.length_replicate, List.length_singleton]; omega)); k_whole; intro t9)))
local macro_rules | `(tactic| walk_at "pyIter ref") => `(tactic| (k_here; (with_reducible show wpAny _ _ (pyIter (Value.ref _)) (fun it s₂ => LoopAtV _ _ _ _ _ _ _ _ _ it s₂) _ _); refine hold ?_))
local macro_rules | `(tactic| walk_at "UnrEnd") => `(tactic| refine hold ?_)
theorem c_lvl (w : World) (n b : Nat) (hn : n ≤ 64) (h1 : 1 ≤ b) (h2 : b ≤ 64) (t : Tok) (Zl : List (Addr × Obj)) {x d T T1 : Addr} {vs : List Value} {t0 ka kb kc kd ke tn tt t1 : Tok} {bv : Value} {kk t2 : Nat} (hi : IntsAre vs (List.replicate n 0 ++ [1]))
    (m1 : (T, ({ cls := .type "tuple", data := .seq #[.ref T1, .int 0 t1] } : Obj)) ∈ Zl) (m2 : (T1, ({ cls := .type "tuple", data := .seq vs.toArray t2 } : Obj)) ∈ Zl) (m3 : (x, instObj 147 d) ∈ Zl) (m4 : (d, wsDict w n t0 ka kb kc kd ke tn tt T bv kk) ∈ Zl) :
    Ctr w 30 116 [.ref x, .int (b : Int) t] Zl (fun r news' => news' = Zl ∧ ∃ t', r = .int (0 + (b : Int) * (((n / b : Nat) : Int) + (0 + 1))) t') := by
  intro p loose mean mg mb dp un gd cn cs a ccd cl outer A₀ base h₀ L m s Q E B F X N T hk C1 C2 hd hu hret
  have hvl : vs.length = n + 1 := by rw [hi.length]; simp
  refine wpAny_call ?_
  k_dflt cell_enter
  k_steps
  unfold Hold
  rename Fr _ _ _ _ => lF'
  rename News _ _ _ _ => lN'
  rename IsRange _ _ _ _ _ _ _ _ => rgX
  with_unfolding_all refine range_start (by rfl) rgX (small_one (by omega) (by omega) (by omega) (by omega)) lF' lN' ?_
  clear lF' lN' rgX
  intro i' l1 m₁ hm₁
  have hcount := (congrFun hm₁ (Str.ofString "count")).trans (by (repeat' first | assumption | (apply Eq.symm; assumption) | refine (if_neg (by decide)).trans ?_ | refine (if_pos rfl).trans ?_ | rfl))
  have htr := (congrFun hm₁ (Str.ofString "trailing")).trans (by (repeat' first | assumption | (apply Eq.symm; assumption) | refine (if_neg (by decide)).trans ?_ | refine (if_pos rfl).trans ?_ | rfl))
  have htab := (congrFun hm₁ (Str.ofString "tabsize")).trans (by (repeat' first | assumption | (apply Eq.symm; assumption) | refine (if_neg (by decide)).trans ?_ | refine (if_pos rfl).trans ?_ | rfl))
  have hself := (congrFun hm₁ (Str.ofString "self")).trans (by (repeat' first | assumption | (apply Eq.symm; assumption) | refine (if_neg (by decide)).trans ?_ | refine (if_pos rfl).trans ?_ | rfl))
  have hz : n < b → n / b = 0 := fun h => Nat.div_eq_of_lt h
  obtain ⟨tb, hb⟩ : ∃ t, m₁ (Str.ofString "il") = some (.int (if b + 0 ≤ n then 0 else ((n / b : Nat) : Int)) t) := ⟨_, (congrFun hm₁ (Str.ofString "il")).trans ((show _ = some (Value.int 0 _) by (repeat' first | assumption | (apply Eq.symm; assumption) | refine (if_neg (by decide)).trans ?_ | refine (if_pos rfl).trans ?_ | rfl)).trans (by
    by_cases e : b ≤ n
    · rw [if_pos (by omega)]
    · rw [if_neg (by omega), hz (by omega)]; rfl))⟩
  clear hm₁
  refine (?H : ∀ (k i : Nat) (tb : Tok) (m' : Str → Option Value), k + i = (((n + 1 : Nat) : Int) - (b : Int)).toNat → m' (Str.ofString "il") = some (.int (if b + i ≤ n then 0 else ((n / b : Nat) : Int)) tb) → m' (Str.ofString "count") = m₁ (Str.ofString "count") →
    m' (Str.ofString "trailing") = m₁ (Str.ofString "trailing") → m' (Str.ofString "tabsize") = m₁ (Str.ofString "tabsize") → m' (Str.ofString "self") = m₁ (Str.ofString "self") → RangeRest _ _ _ _ _ _ _ _ _ _ _ _ _ k i m' _) _ 0 _ _ (by omega) hb rfl rfl rfl rfl
  intro k
  induction k with
  | zero =>
    intro i tb m' hki hb hm1 hm2 hm3 hm4
    rw [if_neg (by omega)] at hb
    refine RangeRest.zero (fun h' tk' F' N' => ?_)
    replace F' := Fr.tell F' (hm1.trans hcount)
    replace F' := Fr.tell F' ((if_neg (by decide)).trans (hm2.trans htr))
    replace F' := Fr.tell F' ((if_neg (by decide)).trans ((if_neg (by decide)).trans (hm3.trans htab)))
    replace F' := Fr.tell F' ((if_neg (by decide)).trans ((if_neg (by decide)).trans ((if_neg (by decide)).trans (hm4.trans hself))))
    replace F' := Fr.tell F' ((if_neg (by decide)).trans ((if_neg (by decide)).trans ((if_neg (by decide)).trans ((if_neg (by decide)).trans hb))))
    dsimp only
    k_steps
    exact hret _ _ _ _ (by k_asm) (by k_asm) ⟨rfl, _, rfl⟩
  | succ k ih =>
    intro i tb m' hki hb hm1 hm2 hm3 hm4
    rw [if_pos (by omega)] at hb
    refine RangeRest.succ (fun t1 h' tk' F' N' => ?_)
    replace F' := Fr.tell F' ((if_neg (by decide)).trans (hm1.trans hcount))
    replace F' := Fr.tell F' ((if_neg (by decide)).trans ((if_neg (by decide)).trans (hm2.trans htr)))
    replace F' := Fr.tell F' ((if_neg (by decide)).trans ((if_neg (by decide)).trans ((if_neg (by decide)).trans (hm3.trans htab))))
    replace F' := Fr.tell F' ((if_neg (by decide)).trans ((if_neg (by decide)).trans ((if_neg (by decide)).trans ((if_neg (by decide)).trans (hm4.trans hself)))))
    replace F' := Fr.tell F' ((if_neg (by decide)).trans ((if_neg (by decide)).trans ((if_neg (by decide)).trans ((if_neg (by decide)).trans ((if_neg (by decide)).trans hb)))))
    replace F' := Fr.tell F' (x := Str.ofString "i") (by (repeat' first | assumption | (apply Eq.symm; assumption) | refine (if_neg (by decide)).trans ?_ | refine (if_pos rfl).trans ?_ | rfl))
    k_steps
    have hg9 := tal_get n (b + i)
    rw [← show ((b : Int) + (i : Int)).toNat = b + i by omega] at hg9
    have hg0 : 0 ≤ (List.replicate n (0 : Int) ++ [1]).getD ((b : Int) + (i : Int)).toNat 0 ∧ (List.replicate n (0 : Int) ++ [1]).getD ((b : Int) + (i : Int)).toNat 0 ≤ 1 := by
      rw [hg9]; split <;> omega
    have hf0 : 0 ≤ ((b : Int) + (i : Int)).fdiv (b : Int) ∧ ((b : Int) + (i : Int)).fdiv (b : Int) ≤ 100 := by
      rw [Int.fdiv_eq_ediv_of_nonneg _ (by omega)]
      exact ⟨Int.ediv_nonneg (by omega) (by omega), Int.le_trans (Int.ediv_le_self _ (by omega)) (by omega)⟩
    refine mul_int ?_
    k_steps
    unfold Hold
    have hil := lvl_step h1 (show b + i ≤ n by omega)
    exact unr_end (by k_asm) (by k_asm) l1 (ih (i + 1) _ _ (by omega) (by (repeat' first | assumption | (apply Eq.symm; assumption) | refine (if_neg (by decide)).trans ?_ | refine (if_pos rfl).trans ?_ | rfl); rw [hil]) (by (repeat' first | assumption | (apply Eq.symm; assumption) | refine (if_neg (by decide)).trans ?_ | refine (if_pos rfl).trans ?_ | rfl)) (by (repeat' first | assumption | (apply Eq.symm; assumption) | refine (if_neg (by decide)).trans ?_ | refine (if_pos rfl).trans ?_ | rfl)) (by (repeat' first | assumption | (apply Eq.symm; assumption) | refine (if_neg (by decide)).trans ?_ | refine (if_pos rfl).trans ?_ | rfl)) (by (repeat' first | assumption | (apply Eq.symm; assumption) | refine (if_neg (by decide)).trans ?_ | refine (if_pos rfl).trans ?_ | rfl)))
end
end Mine
end
section
open PySem PySem.W PySem.Spec PySem.Calls PyProof.Rows
namespace Mine
set_option maxRecDepth 100000
set_option maxHeartbeats 8000000
set_option pp.deepTerms false
set_option pp.deepTerms.threshold 6
open LCg in
/-- one turn of a comprehension over pair lists came to its end: the ledger stands -/
def PEnd (h₀ : Heap) (L : Addr) (m : Str → Option Value) (s₂ : Shared) (led : List (Addr × Obj)) (G : Value → Prop) (y : Value) (s' : Shared) : Prop :=
  ∃ h' tk', s' = { s₂ with heap := h', toks := tk' } ∧ Fr h₀ L h' m ∧ News h₀ L h' led ∧ G y
theorem PEnd.intro {h₀ : Heap} {L : Addr} {m : Str → Option Value} {s₂ : Shared} {led : List (Addr × Obj)} {G : Value → Prop} {y : Value} {h' : Heap} {tk' : Nat} (F : Fr h₀ L h' m) (N : News h₀ L h' led) (g : G y) :
    PEnd h₀ L m s₂ led G y { s₂ with heap := h', toks := tk' } := ⟨h', tk', rfl, F, N, g⟩
section
variable {prog : Program} {w : World} {A : Around} {E : Value → Shared → Prop} {s : Shared} {h₀ : Heap} {L : Addr} {m : Str → Option Value} {env : Env}
open LCg
def Turn (prog : Program) (w : World) (A : Around) (h₀ : Heap) (L : Addr) (m : Str → Option Value) (env : Env) (elt : Expr) (x x₂ : Str) (scope : Scope) (cl : List (Str × Addr)) (s₂ : Shared) (Z : List (Addr × Obj)) (G : Nat → List Value → Prop) (i : Nat) (ys : List Value) (v₁ v₂ : Value) : Prop :=
  ∀ I oI C oC D m₂ h tk (E' : Value → Shared → Prop), NsObj oC m₂ → m₂ x = some v₁ → m₂ x₂ = some v₂ → Fr h₀ L h m → News h₀ L h ((I, oI) :: (C, oC) :: (D, lst ys) :: Z) → (∀ p ∈ Z, p.1 ≠ I ∧ p.1 ≠ C ∧ p.1 ≠ D) →
    wpAny (model prog w) A (eval elt (compEnvC scope cl C env)) (PEnd h₀ L m s₂ ((I, oI) :: (C, oC) :: (D, lst ys) :: Z) fun y => G (i + 1) (ys ++ [y])) E' { s₂ with heap := h, toks := tk }
theorem pairs_block {elt iter : Expr} {x x₂ : Str} {px px₂ tp : Pos} {tk} {scope : Scope} {cl : List (Str × Addr)} {pos : Pos} {s₂ : Shared} {I ax : Addr} {its : Array Value} {kk : Nat} {Z : List (Addr × Obj)} {G : Nat → List Value → Prop}
    {RR : Value → Addr → Result → Shared → Prop} (hh : A.handled = none) (F : Fr h₀ L s₂.heap m) (N : News h₀ L s₂.heap Z) (hm : (ax, W.listOf its kk) ∈ Z) (hsz : its.size ≤ sizeLine) (hst : s₂.heap.IsListIter I ax 0) (hax : ax ≠ I) (hIL : L ≠ I) (hI₀ : h₀.get? I = none) (off : ∀ p ∈ Z, p.1 ≠ I)
    (hcell : ∀ y ∈ scope.names, y.2 ≠ .cell) (hkind : scope.kind = .function) (hx : scope.names.lookup x = some .local) (hx₂ : scope.names.lookup x₂ = some .local) (hxx : x ≠ x₂) (g0 : G 0 [])
    (turn : ∀ i ys, i < its.size → G i ys → ∃ t v₁ v₂ k₂, its[i]? = some (.ref t) ∧ (t, W.listOf #[v₁, v₂] k₂) ∈ Z ∧ Turn prog w A h₀ L m env elt x x₂ scope cl s₂ Z G i ys v₁ v₂)
    (hRR : ∀ D C h tk m' ys, G its.size ys → Fr h₀ L h m → News h₀ L h ((D, lst ys) :: Z) → (∀ p ∈ Z, p.1 ≠ D ∧ p.1 ≠ C) → h.Ns C m' → h₀.get? C = none → h₀.get? D = none → C ≠ L → D ≠ L → C ≠ D → RR (.ref D) C (.ok .next) { s₂ with heap := h, toks := tk }) :
    wpAny (model prog w) A (newList []) (fun acc s₃ => wpAny (model prog w) A (newFunctionEnv scope env.globals cl [] env.qual none .none (some env)) (fun cenv s₄ =>
      codeAny (model prog w) A (.compStart (.ListComp elt [⟨.Tuple [.Name x px, .Name x₂ px₂] tk tp, iter, [], 0⟩] scope pos) 0 (.ref I) acc { cenv with scope := relabel scope env }) (RR acc cenv.locals) s₄) E s₃) E s₂ := by
  have Wk := Walks.list (prog := prog) (w := w) (A := A) hh I ax hax its
  have hIlt : I < s₂.heap.objs.size := by obtain ⟨o, e, _⟩ := hst; exact Heap.lt_size e
  have noneAt : ∀ a, s₂.heap.objs.size ≤ a → h₀.get? a = none := fun a ha => by
    cases e : h₀.get? a with
    | none => rfl
    | some o => exact absurd (Heap.lt_size (F.keep a o e)) (Nat.not_lt.mpr ha)
  refine wpAny_newObj_type (wpAny_newFunctionEnv hcell (by intro y hy; simp at hy) (fun h₁ hns hsb => ?_) hkind)
  dsimp only at hns hsb ⊢
  -- the list that grows, the names of the turn
  obtain ⟨H, hH⟩ : ∃ H, H = s₂.heap.push { cls := .type "list", dict := none, data := .seq ([] : List Value).toArray } := ⟨_, rfl⟩
  rw [← hH] at hns hsb ⊢
  have hC : H.objs.size = s₂.heap.objs.size + 1 := by rw [hH, Heap.size_push]
  have lowD : ∀ b, b < s₂.heap.objs.size → b ≠ s₂.heap.objs.size := fun b hb => Nat.ne_of_lt hb
  have lowC : ∀ b, b ≤ s₂.heap.objs.size → b ≠ H.objs.size := fun b hb => by rw [hC]; exact Nat.ne_of_lt (Nat.lt_succ_of_le hb)
  have kept : ∀ b o, s₂.heap.get? b = some o → h₁.get? b = some o := fun b o e => hsb.extBut b o (lowC b (Nat.le_of_lt (Heap.lt_size e))) (Heap.get?_push_of_some _ (hH ▸ Heap.get?_push_of_some _ e))
  have hD₀ := noneAt s₂.heap.objs.size (Nat.le_refl _)
  have hC₀ := noneAt H.objs.size (by rw [hC]; exact Nat.le_succ _)
  have hLD : s₂.heap.objs.size ≠ L := Ne.symm (lowD L F.ns.lt)
  have hLC : H.objs.size ≠ L := Ne.symm (lowC L (Nat.le_of_lt F.ns.lt))
  have hID : I ≠ s₂.heap.objs.size := lowD I hIlt
  have hIC : I ≠ H.objs.size := lowC I (Nat.le_of_lt hIlt)
  have hDC : s₂.heap.objs.size ≠ H.objs.size := lowC _ (Nat.le_refl _)
  have offD : ∀ p ∈ Z, p.1 ≠ s₂.heap.objs.size := fun p hp => lowD _ (Heap.lt_size (N p hp).1)
  have offC : ∀ p ∈ Z, p.1 ≠ H.objs.size := fun p hp => lowC _ (Nat.le_of_lt (Heap.lt_size (N p hp).1))
  have accN : ∀ {h : Heap} {ys : List Value}, h.get? s₂.heap.objs.size = some (lst ys) → News h₀ L h Z → News h₀ L h ((s₂.heap.objs.size, lst ys) :: Z) := fun e n p hp => by
    rcases List.mem_cons.mp hp with rfl | hp
    · exact ⟨e, hLD, hD₀⟩
    · exact n p hp
  have main : ∀ s₃ : Shared, s₃ = { s₂ with heap := h₁, toks := s₂.toks + ([] : List (Str × Value)).length } →
      codeAny (model prog w) A (.compLoop (.ListComp elt [⟨.Tuple [.Name x px, .Name x₂ px₂] tk tp, iter, [], 0⟩] scope pos) 0 (.ref I) (.ref s₂.heap.objs.size) (compEnvC scope cl H.objs.size env)) (RR (.ref s₂.heap.objs.size) H.objs.size) s₃ := by
    rintro s₃ rfl
    refine LCp.codeAny_compLoop_pair (fun k s' => ∃ h tk i ys m', s' = { s₂ with heap := h, toks := tk } ∧ i ≤ its.size ∧ k + i = its.size + 1 ∧ ys.length = i ∧ (h.IsListIter I ax i ∧ h.IsList ax its) ∧ Fr h₀ L h m ∧ h.Ns H.objs.size m' ∧ News h₀ L h ((s₂.heap.objs.size, lst ys) :: Z) ∧ G i ys) ?_
      (its.size + 1) ⟨h₁, _, 0, [], _, rfl, Nat.zero_le _, rfl, rfl, ⟨hst.at fun o e => kept _ _ e, ⟨_, kept _ _ (N.get hm), rfl, kk, rfl⟩⟩, F.keeps kept, hns,
        accN (hsb.extBut _ _ hDC (Heap.get?_push_of_some _ (hH ▸ Heap.get?_push_size _ rfl))) (N.grown kept), g0⟩
    rintro k s' ⟨h, tk', i, ys, m', rfl, hi, hk, hyl, st, F', n', N', g⟩
    rcases Nat.lt_or_eq_of_le hi with hlt | heq
    · refine Wk.item i _ _ _ hlt st fun v h₂ tk₂ hv st₂ keep₂ => ?_
      obtain ⟨t, v₁, v₂, k₂, ht, hmt, body⟩ := turn i ys hlt g
      obtain rfl : v = .ref t := Option.some.inj (hv.symm.trans ht)
      have N₂ : News h₀ L h₂ ((s₂.heap.objs.size, lst ys) :: Z) := news_but N' keep₂ fun p hp => by
        rcases List.mem_cons.mp hp with rfl | hp
        · exact Ne.symm hID
        · exact off p hp
      have F₂ := fr_but F' keep₂ hIL hI₀
      obtain ⟨oI, eI, cI, dI⟩ := st₂.1
      obtain ⟨oC, eC, nC⟩ := ns_obj (n'.at' fun o e => keep₂ _ o (by simpa using Ne.symm hIC) e)
      -- all that must stand, as one ledger
      have NI : News h₀ L h₂ ((I, oI) :: (H.objs.size, oC) :: (s₂.heap.objs.size, lst ys) :: Z) := fun p hp => by
        rcases List.mem_cons.mp hp with rfl | hp
        · exact ⟨eI, Ne.symm hIL, hI₀⟩
        · rcases List.mem_cons.mp hp with rfl | hp
          · exact ⟨eC, hLC, hC₀⟩
          · exact N₂ p hp
      refine wpAny_letOwnedTupleGo_listiter st₂.1 ?_
      refine kun_list F₂ NI ⟨_, N₂.get (List.mem_cons_of_mem _ hmt), rfl, k₂, rfl⟩ hh rfl rfl fun h₃ F₃ N₃ => ?_
      have nC₃ : h₃.Ns H.objs.size m' := nC.ns (N₃ _ (.tail _ (.head _))).1
      refine assignInOrder_cons (wpAny_assign_Name (wpAny_storeName_local (lookup_relabel_local hx) nC₃ (fun h₄ n₄ b₄ => ?_) (by simp [compEnvC, relabel, hkind])))
      refine assignInOrder_cons (wpAny_assign_Name (wpAny_storeName_local (lookup_relabel_local hx₂) n₄ (fun h₅ n₅ b₅ => ?_) (by simp [compEnvC, relabel, hkind])))
      refine assignInOrder_nil ?_
      have F₅ := (F₃.change b₄ hLC hC₀).change b₅ hLC hC₀
      have stay : ∀ b o, b ≠ H.objs.size → h₃.get? b = some o → h₅.get? b = some o := fun b o hb e => b₅.extBut b o hb (b₄.extBut b o hb e)
      obtain ⟨oC₅, eC₅, nC₅⟩ := ns_obj n₅
      have N₅ : News h₀ L h₅ ((I, oI) :: (H.objs.size, oC₅) :: (s₂.heap.objs.size, lst ys) :: Z) := fun p hp => by
        rcases List.mem_cons.mp hp with rfl | hp
        · exact ⟨stay _ _ hIC (N₃ _ (.head _)).1, Ne.symm hIL, hI₀⟩
        · rcases List.mem_cons.mp hp with rfl | hp
          · exact ⟨eC₅, hLC, hC₀⟩
          · have z := N₃ p (.tail _ (.tail _ hp))
            refine ⟨stay _ _ ?_ z.1, z.2⟩
            rcases List.mem_cons.mp hp with rfl | hp
            · exact hDC
            · exact offC p hp
      refine wpAny_mono (body I oI H.objs.size oC₅ s₂.heap.objs.size _ h₅ _ _ nC₅ (by simp [hxx]) (by simp) F₅ N₅ fun p hp => ⟨off p hp, offC p hp, offD p hp⟩) (fun y s₆ q => ?_) fun _ _ e => e
      obtain ⟨h₆, tk₆, rfl, F₆, N₆, g₆⟩ := q
      have eI₆ := (N₆ _ (.head _)).1
      have eC₆ := (N₆ _ (.tail _ (.head _))).1
      have eD₆ := (N₆ _ (.tail _ (.tail _ (.head _)))).1
      refine append_at (hsz := by show ys.toArray.size ≤ sizeLine; rw [List.size_toArray, hyl]; exact Nat.le_trans hi hsz) eD₆ fun h₇ b₇ e₇ => ?_
      have N₇ : News h₀ L h₇ Z := fun p hp => ⟨b₇.extBut _ _ (offD p hp) (N₆ p (.tail _ (.tail _ (.tail _ hp)))).1, (N₆ p (.tail _ (.tail _ (.tail _ hp)))).2⟩
      exact ⟨k - 1, by omega, h₇, tk₆, i + 1, ys ++ [y], _, rfl, hlt, by omega, by rw [List.length_append, List.length_singleton, hyl],
        ⟨⟨oI, b₇.extBut _ _ hID eI₆, cI, dI⟩, ⟨_, N₇.get hm, rfl, kk, rfl⟩⟩, F₆.change b₇ hLD hD₀, (nC₅.ns eC₆).sameBut b₇ (Ne.symm hDC), accN (e₇.trans (congrArg some (lst_snoc ys y))) N₇, g₆⟩
    · subst heq
      refine Wk.done _ _ _ st fun h₂ tk₂ keep₂ => ?_
      exact hRR _ _ h₂ tk₂ _ ys g (fr_but F' keep₂ hIL hI₀) (news_but N' keep₂ fun p hp => by
        rcases List.mem_cons.mp hp with rfl | hp
        · exact Ne.symm hID
        · exact off p hp) (fun p hp => ⟨offD p hp, offC p hp⟩) (n'.at' fun o e => keep₂ _ o (by simpa using Ne.symm hIC) e) hC₀ hD₀ hLC hLD (Ne.symm hDC)
  exact codeAny_compStart_list (main _ rfl) (Wk.self 0 _ _ _ ⟨hst.at fun o e => kept _ _ e, ⟨_, kept _ _ (N.get hm), rfl, kk, rfl⟩⟩ (main _ rfl))
def FinL (h₀ : Heap) (L : Addr) (m : Str → Option Value) (s : Shared) (Q : Value → Shared → Prop) (ys : List Value) (Z : List (Addr × Obj)) : Prop :=
  ∀ D h tk, Fr h₀ L h m → News h₀ L h ((D, lst ys) :: Z) → (∀ p ∈ Z, p.1 ≠ D) → Q (.ref D) { s with heap := h, toks := tk }
def FinLA (h₀ : Heap) (L : Addr) (m : Str → Option Value) (s : Shared) (y : Str) (Q : Flow → Shared → Prop) (ys : List Value) (Z : List (Addr × Obj)) : Prop :=
  ∀ D h tk, Fr h₀ L h (fun z => if z = y then some (.ref D) else m z) → News h₀ L h ((D, lst ys) :: Z) → (∀ p ∈ Z, p.1 ≠ D) → Q .next { s with heap := h, toks := tk }
def SrcPairs (prog : Program) (w : World) (A : Around) (h₀ : Heap) (L : Addr) (m : Str → Option Value) (env : Env) (elt : Expr) (x x₂ : Str) (scope : Scope) (cl : List (Str × Addr)) (Fin : Shared → List Value → List (Addr × Obj) → Prop) (xv : Value) (s₁ : Shared) : Prop :=
  ∃ ax its kk Z G, xv = .ref ax ∧ A.handled = none ∧ Fr h₀ L s₁.heap m ∧ News h₀ L s₁.heap Z ∧ (ax, W.listOf its kk) ∈ Z ∧ its.size ≤ sizeLine ∧ G 0 [] ∧
    (∀ g i ys, i < its.size → G i ys → ∃ t v₁ v₂ k₂, its[i]? = some (.ref t) ∧ (t, W.listOf #[v₁, v₂] k₂) ∈ Z ∧ Turn prog w A h₀ L m env elt x x₂ scope cl { s₁ with heap := g } Z G i ys v₁ v₂) ∧
    ∀ g ys, G its.size ys → Fin { s₁ with heap := g } ys Z
theorem SrcPairs.of {elt : Expr} {x x₂ : Str} {scope : Scope} {cl : List (Str × Addr)} {Fin : Shared → List Value → List (Addr × Obj) → Prop} {ax : Addr} {its : Array Value} {kk : Nat} {Z : List (Addr × Obj)} {s₁ : Shared} (G : Nat → List Value → Prop)
    (hh : A.handled = none) (F : Fr h₀ L s₁.heap m) (N : News h₀ L s₁.heap Z) (hm : (ax, W.listOf its kk) ∈ Z) (hsz : its.size ≤ sizeLine) (g0 : G 0 [])
    (turn : ∀ g i ys, i < its.size → G i ys → ∃ t v₁ v₂ k₂, its[i]? = some (.ref t) ∧ (t, W.listOf #[v₁, v₂] k₂) ∈ Z ∧ Turn prog w A h₀ L m env elt x x₂ scope cl { s₁ with heap := g } Z G i ys v₁ v₂)
    (fin : ∀ g ys, G its.size ys → Fin { s₁ with heap := g } ys Z) : SrcPairs prog w A h₀ L m env elt x x₂ scope cl Fin (.ref ax) s₁ :=
  ⟨ax, its, kk, Z, G, rfl, hh, F, N, hm, hsz, g0, turn, fin⟩
theorem pairs_start {s₁ : Shared} {ax : Addr} {its : Array Value} {kk : Nat} {Z : List (Addr × Obj)} {elt iter : Expr} {x x₂ : Str} {px px₂ tp : Pos} {tk} {scope : Scope} {cl : List (Str × Addr)} {pos : Pos} {G : Nat → List Value → Prop} {RR : Value → Addr → Result → Shared → Prop}
    (hh : A.handled = none) (F : Fr h₀ L s₁.heap m) (N : News h₀ L s₁.heap Z) (hm : (ax, W.listOf its kk) ∈ Z) (hsz : its.size ≤ sizeLine)
    (hcell : ∀ y ∈ scope.names, y.2 ≠ .cell) (hkind : scope.kind = .function) (hx : scope.names.lookup x = some .local) (hx₂ : scope.names.lookup x₂ = some .local) (hxx : x ≠ x₂) (g0 : G 0 [])
    (turn : ∀ g i ys, i < its.size → G i ys → ∃ t v₁ v₂ k₂, its[i]? = some (.ref t) ∧ (t, W.listOf #[v₁, v₂] k₂) ∈ Z ∧ Turn prog w A h₀ L m env elt x x₂ scope cl { s₁ with heap := g } Z G i ys v₁ v₂)
    (hRR : ∀ g D C h tk m' ys, G its.size ys → Fr h₀ L h m → News h₀ L h ((D, lst ys) :: Z) → (∀ p ∈ Z, p.1 ≠ D ∧ p.1 ≠ C) → h.Ns C m' → h₀.get? C = none → h₀.get? D = none → C ≠ L → D ≠ L → C ≠ D → RR (.ref D) C (.ok .next) { (({ s₁ with heap := g } : Shared)) with heap := h, toks := tk }) :
    wpAny (model prog w) A (pyIter (.ref ax)) (fun it s₂ => wpAny (model prog w) A (newList []) (fun acc s₃ => wpAny (model prog w) A (newFunctionEnv scope env.globals cl [] env.qual none .none (some env)) (fun cenv s₄ =>
      codeAny (model prog w) A (.compStart (.ListComp elt [⟨.Tuple [.Name x px, .Name x₂ px₂] tk tp, iter, [], 0⟩] scope pos) 0 it acc { cenv with scope := relabel scope env }) (RR acc cenv.locals) s₄) E s₃) E s₂) E s₁ := by
  have hl : s₁.heap.IsList ax its := ⟨_, N.get hm, rfl, kk, rfl⟩
  have up : ∀ b o, s₁.heap.get? b = some o → (s₁.heap.push { cls := .type "list_iterator", data := .fields #[.ref ax, .int 0 0] }).get? b = some o := fun b o e => Heap.get?_push_of_some _ e
  refine wpAny_pyIter_list hl ?_
  exact pairs_block (s₂ := { s₁ with heap := s₁.heap.push { cls := .type "list_iterator", data := .fields #[.ref ax, .int 0 0] } }) hh (F.keeps up) (N.grown up) hm hsz ⟨_, Heap.get?_push_size _ rfl, rfl, rfl⟩ (Nat.ne_of_lt (Heap.lt_size (N.get hm))) (Nat.ne_of_lt F.ns.lt) (next_is_new F) (fun p hp => Nat.ne_of_lt (Heap.lt_size (N p hp).1))
    hcell hkind hx hx₂ hxx g0 (turn _) (fun D C h tk m' ys => hRR _ D C h tk m' ys)
theorem ListComp_L {elt iter : Expr} {x x₂ : Str} {px px₂ tp : Pos} {tk} {scope : Scope} {cl : List (Str × Addr)} {pos : Pos} {Q : Value → Shared → Prop} (F₀ : Fr h₀ L s.heap m)
    (hclos : closureFor scope env = pure cl) (hcell : ∀ y ∈ scope.names, y.2 ≠ .cell) (hkind : scope.kind = .function)
    (hnames : ∀ y ∈ scope.names, y.2 = .local → scope.names.lookup y.1 = some .local) (hx : scope.names.lookup x = some .local) (hx₂ : scope.names.lookup x₂ = some .local) (hxx : x ≠ x₂)
    (h : wpAny (model prog w) A (eval iter env) (SrcPairs prog w A h₀ L m env elt x x₂ scope cl (fun s₂ => FinL h₀ L m s₂ Q)) E s)
    (hs : ∀ x, foldedSetIterable iter env x = pure x := by intro _; rfl) :
    wpAny (model prog w) A (eval (.ListComp elt [⟨.Tuple [.Name x px, .Name x₂ px₂] tk tp, iter, [], 0⟩] scope pos) env) Q E s := by
  rw [eval_ListComp]
  refine wpAny_comprehension_free (use := none) rfl hs hclos hkind hnames (wpAny_mono h (fun xv s₁ h₁ => ?_) fun _ _ e => e)
  obtain ⟨ax, its, kk, Z, G, rfl, hh, F, N, hm, hsz, g0, turn, fin⟩ := h₁
  refine pairs_start hh F N hm hsz hcell hkind hx hx₂ hxx g0 turn fun g D C h tk m' ys gy F' N' off hn hC₀ hD₀ hCL hDL hCD => ?_
  refine ⟨m', hn, fun h'' b => fin g ys gy D h'' tk (F'.change b hCL hC₀) (fun p hp => ?_) fun p hp => (off p hp).1⟩
  refine ⟨b.extBut _ _ ?_ (N' p hp).1, (N' p hp).2⟩
  rcases List.mem_cons.mp hp with rfl | hp
  · exact Ne.symm hCD
  · exact (off p hp).2
theorem Assign_ListComp_L {elt iter : Expr} {x x₂ y : Str} {px px₂ tp py : Pos} {tk} {scope : Scope} {cl : List (Str × Addr)} {pos spos : Pos} {Q : Flow → Shared → Prop} (F₀ : Fr h₀ L s.heap m) (hLe : env.locals = L)
    (hsw : swapsWith (.ListComp elt [⟨.Tuple [.Name x px, .Name x₂ px₂] tk tp, iter, [], 0⟩] scope pos) (some (.Name y py)) spos.line env = pure true)
    (hclos : closureFor scope env = pure cl) (hcell : ∀ z ∈ scope.names, z.2 ≠ .cell) (hkind : scope.kind = .function)
    (hnames : ∀ z ∈ scope.names, z.2 = .local → scope.names.lookup z.1 = some .local) (hx : scope.names.lookup x = some .local) (hx₂ : scope.names.lookup x₂ = some .local) (hxx : x ≠ x₂)
    (hy : env.kindOf y = some .local) (hp : (env.scope.kind == .class || (env.scope.kind == .module && env.locals != env.globals)) = false)
    (h : wpAny (model prog w) A (eval iter env) (SrcPairs prog w A h₀ L m env elt x x₂ scope cl (fun s₂ => FinLA h₀ L m s₂ y Q)) E s)
    (hs : ∀ x, foldedSetIterable iter env x = pure x := by intro _; rfl) :
    wpAny (model prog w) A (exec (.Assign [.Name y py] (.ListComp elt [⟨.Tuple [.Name x px, .Name x₂ px₂] tk tp, iter, [], 0⟩] scope pos) spos) env) Q E s := by
  subst hLe
  rw [exec_Assign_Name_used _ _ _ _ hsw]
  refine wpAny_bind (wpAny_standAt (wpAny_bind (wpAny_bind (wpAny_mono (wpAny_comprehension_free (use := some (assign (.Name y py) env)) (Q := fun _ s' => Q .next s') rfl hs hclos hkind hnames
    (wpAny_mono h (fun xv s₁ h₁ => ?_) fun _ _ e => e)) (fun _ s' hq => wpAny_pure (wpAny_pure hq)) fun _ _ e => e))))
  obtain ⟨ax, its, kk, Z, G, rfl, hh, F, N, hm, hsz, g0, turn, fin⟩ := h₁
  refine pairs_start hh F N hm hsz hcell hkind hx hx₂ hxx g0 turn fun g D C h tk m' ys gy F' N' off hn hC₀ hD₀ hCL hDL hCD => ?_
  show wpAny _ A (assign (.Name y py) env (.ref D)) _ _ _
  refine wpAny_assign_Name (wpAny_storeName_local hy F'.ns (fun h₂ n₂ b₂ => ?_) hp)
  have F₂ : Fr h₀ env.locals h₂ (fun z => if z = y then some (.ref D) else m z) := ⟨n₂, fun b o e => b₂.extBut b o (fun q => by rw [q, Heap.get?_none_of_le F'.above] at e; cases e) (F'.keep b o e), F'.above⟩
  have N₂ : News h₀ env.locals h₂ ((D, lst ys) :: Z) := fun p hp => ⟨b₂.extBut _ _ (N' p hp).2.1 (N' p hp).1, (N' p hp).2⟩
  refine ⟨m', hn.sameBut b₂ hCL, fun h'' b => fin g ys gy D h'' _ (F₂.change b hCL hC₀) (fun p hp => ?_) fun p hp => (off p hp).1⟩
  refine ⟨b.extBut _ _ ?_ (N₂ p hp).1, (N₂ p hp).2⟩
  rcases List.mem_cons.mp hp with rfl | hp
  · exact Ne.symm hCD
  · exact (off p hp).2
end
end Mine
end
section
open PySem PySem.W PySem.Spec PySem.Calls PyProof.Rows
namespace Mine
set_option maxRecDepth 100000
set_option maxHeartbeats 8000000
inductive PairsIn (Z : List (Addr × Obj)) : List Value → List (Nat × Int) → Prop
  | nil : PairsIn Z [] []
  | cons {D : Addr} {pl : Nat} {x : Int} {t1 t2 : Tok} {k : Nat} {vs : List Value} {ps : List (Nat × Int)} (h : (D, W.listOf #[.int (pl : Int) t1, .int x t2] k) ∈ Z) (r : PairsIn Z vs ps) : PairsIn Z (.ref D :: vs) ((pl, x) :: ps)
theorem PairsIn.mono {Z Z' : List (Addr × Obj)} {vs : List Value} {ps : List (Nat × Int)} (h : PairsIn Z vs ps) (hz : ∀ p ∈ Z, p ∈ Z') : PairsIn Z' vs ps := by
  induction h with
  | nil => exact .nil
  | cons h _ ih => exact .cons (hz _ h) ih
theorem PairsIn.snoc {Z : List (Addr × Obj)} {vs : List Value} {ps : List (Nat × Int)} {D : Addr} {pl : Nat} {x : Int} {t1 t2 : Tok} {k : Nat} (h : PairsIn Z vs ps) (hm : (D, W.listOf #[.int (pl : Int) t1, .int x t2] k) ∈ Z) : PairsIn Z (vs ++ [.ref D]) (ps ++ [(pl, x)]) := by
  induction h with
  | nil => exact .cons hm .nil
  | cons h _ ih => exact .cons h ih
theorem PairsIn.length {Z : List (Addr × Obj)} {vs : List Value} {ps : List (Nat × Int)} (h : PairsIn Z vs ps) : vs.length = ps.length := by
  induction h with
  | nil => rfl
  | cons _ _ ih => rw [List.length_cons, List.length_cons, ih]
theorem PairsIn.get {Z : List (Addr × Obj)} {vs : List Value} {ps : List (Nat × Int)} (h : PairsIn Z vs ps) : ∀ {i : Nat}, i < ps.length → ∃ D pl x t1 t2 k, vs[i]? = some (.ref D) ∧ ps[i]? = some (pl, x) ∧ (D, W.listOf #[.int ((pl : Nat) : Int) t1, .int x t2] k) ∈ Z := by
  induction h with
  | nil => intro i h; exact absurd h (Nat.not_lt_zero _)
  | cons h _ ih =>
    intro i hi
    cases i with
    | zero => exact ⟨_, _, _, _, _, _, rfl, rfl, h⟩
    | succ i => exact ih (Nat.lt_of_succ_lt_succ hi)
def one (n : Nat) (figs : List Int) (pl lower : Nat) : Nat × Int := (pl, undig n (List.replicate pl 0 ++ [(lower : Int)] ++ figs.drop (pl + 1)))
def fsts (n : Nat) (figs : List Int) (i : Nat) : List (Nat × Int) := (List.range i).flatMap fun pl => (List.range (figs.getD pl 0).toNat).map (one n figs pl)
theorem fsts_succ (n : Nat) (figs : List Int) (i : Nat) : fsts n figs (i + 1) = fsts n figs i ++ (List.range (figs.getD i 0).toNat).map (one n figs i) := by
  simp [fsts, List.range_succ]
theorem one_succ (n : Nat) (figs : List Int) (i j : Nat) (ps : List (Nat × Int)) : ps ++ (List.range (j + 1)).map (one n figs i) = (ps ++ (List.range j).map (one n figs i)) ++ [one n figs i j] := by
  simp [List.range_succ]
theorem apartD {h₀ h : Heap} {L : Addr} {news : List (Addr × Obj)} (N : News h₀ L h news) {p q : Addr × Obj} (hp : p ∈ news) (hq : q ∈ news) (hc : p.2.data = q.2.data → False) : p.1 ≠ q.1 := fun e => by
  have h1 := (N _ hp).1
  rw [e, (N _ hq).1] at h1
  exact hc (congrArg Obj.data (Option.some.inj h1).symm)
theorem q80_ne {h₀ h : Heap} {L : Addr} {news : List (Addr × Obj)} (N : News h₀ L h news) {q : Addr × Obj} {qual : Str} (hq : tabOk qual (some q)) (hm : q ∈ news) {a : Addr} {vs : Array Value} (ht : (a, tabObj vs) ∈ news) (hv : ∀ t, vs[1]? ≠ some (.str qual t)) : q.1 ≠ a :=
  apartD N hm ht (by
    obtain ⟨v, t, d, d2⟩ := hq
    intro e
    rw [d] at e
    cases e
    exact hv t d2)
theorem dig_get_bound {n P : Nat} (hn : n = 1 ∨ n = 2) (c : Int) (i : Nat) : 0 ≤ (dig n P c).getD i 0 ∧ (dig n P c).getD i 0 < 4 ∧ (dig n P c).getD i 0 < 2 ^ n := by
  have h : ∀ y ∈ dig n P c, 0 ≤ y ∧ y < 2 ^ n := by
    intro y hy
    obtain ⟨j, -, rfl⟩ := List.mem_map.mp hy
    exact ⟨Int.emod_nonneg _ (Int.ne_of_gt (pow2_pos n)), Int.emod_lt_of_pos _ (pow2_pos n)⟩
  have h4 : (2 : Int) ^ n ≤ 4 := by rcases hn with rfl | rfl <;> decide
  rw [List.getD_eq_getElem?_getD]
  cases e : (dig n P c)[i]? with
  | none => exact ⟨Int.le_refl _, by decide, pow2_pos n⟩
  | some y =>
    have := h y (List.mem_of_getElem? e)
    exact ⟨this.1, Int.lt_of_lt_of_le this.2 h4, this.2⟩
section
variable {prog : Program} {w : World} {A : Around} {E : Value → Shared → Prop} {s : Shared} {h₀ : Heap} {L : Addr} {m : Str → Option Value}
theorem r_append {D : Addr} {vs : List Value} {k : Nat} {x : Value} {rest : List (Addr × Obj)} {Q : Value → Shared → Prop} (F : Fr h₀ L s.heap m) (N : News h₀ L s.heap ((D, W.listOf vs.toArray k) :: rest)) (off : ∀ p ∈ rest, p.1 ≠ D) (hl : vs.length ≤ 1000)
    (h : ∀ h', Fr h₀ L h' m → News h₀ L h' ((D, W.listOf (vs ++ [x]).toArray (k + 1)) :: rest) → Q .none { s with heap := h' }) : wpAny (model prog w) A (call (.builtin "list.append") [.ref D, x]) Q E s := by
  have z := N _ (.head _)
  refine append_at (hsz := by rw [sizeLine_eq, List.size_toArray]; omega) z.1 fun h' hs e => h h' (F.change hs z.2.1 z.2.2) fun p hp => ?_
  rcases List.mem_cons.mp hp with rfl | hp
  · refine ⟨e.trans ?_, z.2⟩
    rw [show (vs ++ [x]).toArray = vs.toArray.push x by simp]
  · exact ⟨hs.extBut _ _ (off p hp) (N p (.tail _ hp)).1, (N p (.tail _ hp)).2⟩
end
end Mine
end
section
open PySem PySem.W PySem.Spec PySem.Calls PyProof.Rows
namespace Mine
set_option maxRecDepth 100000
set_option maxHeartbeats 8000000
theorem c_hostH (w : World) (n : Nat) (hn : n = 1 ∨ n = 2) (x tr : Int) (places : Nat) (t u v tv : Tok) (news : List (Addr × Obj)) (q : Addr × Obj) (hq : tabOk q73 (some q)) (mq : q ∈ news) (m73 : (73, tabObj #[rawInt 44, rawInt 4, .ref q.1]) ∈ news) (h0 : 0 ≤ x)
    (hp : places ≤ 8) (hx : x < 2 ^ (n * places)) (ht0 : 0 ≤ tr) (ht4 : tr < 4) : Ctr w 40 163 [.int x t, .int (n : Int) u, .int (places : Int) v, .int tr tv] news (fun r news' => news' = news ∧ ∃ t', r = .str (txt false (hostL n places tr x)) t') := by
  intro p loose mean mg mb dp un gd cn cs a ccd cl outer A₀ base h₀ L m s Q E B F X N T hk C1 C2 hd hu hret
  have hoth : ∀ p ∈ news.filter (fun p => decide (p.1 ≠ 73)), p.1 ≠ 73 := fun p hp => of_decide_eq_true (List.mem_filter.mp hp).2
  refine c_host w n hn x tr places t u v tv (tabL 73 pos73 (some q) ++ news.filter fun p => decide (p.1 ≠ 73)) _ (some q) rfl hq hoth h0 hp hx ht0 ht4 p loose mean mg mb dp un gd cn cs a ccd cl outer A₀ base h₀ L m s Q E B F X (fun p hp => N p ?_) T hk C1 C2 hd hu fun r news' h' tk' F' N' hgot => ?_
  · rcases List.mem_append.mp hp with hp | hp
    · simp only [tabL, List.mem_cons, List.not_mem_nil, or_false] at hp
      rcases hp with rfl | rfl
      · exact mq
      · exact m73
    · exact (List.mem_filter.mp hp).1
  · obtain ⟨t', q', hr, hq', hz, hn'⟩ := hgot
    obtain rfl : q = q' := hz q rfl
    subst hn'
    refine hret r news h' tk' F' (fun p hp => N' p ?_) ⟨rfl, t', hr⟩
    by_cases e : p.1 = 73
    · have h1 := (N p hp).1
      rw [e, (N _ m73).1] at h1
      have e2 := Option.some.inj h1
      refine List.mem_append_left _ ?_
      have : p = (73, tabObj #[rawInt 44, rawInt 4, .ref q.1]) := Prod.ext e e2.symm
      rw [this]
      exact .tail _ (.head _)
    · exact List.mem_append_right _ (List.mem_filter.mpr ⟨hp, decide_eq_true e⟩)
theorem c_up2 (w : World) (hs : List Nat) (pl : Nat) (hpl : pl ≤ hs.length) (hl : hs.length ≤ 10) (t u : Tok) : CtrS w 12 170 [.str (txt false hs) t, .int (pl : Int) u] (fun r => ∃ t', r = .str (txt (decide (0 < pl)) (hs.drop pl)) t') := by
  have h := c_up w false (hs.take pl) (hs.drop pl) t u (by rw [List.length_take, List.length_drop]; omega)
  have hlen : (hs.take pl).length = pl := by rw [List.length_take]; omega
  rw [List.take_append_drop, hlen] at h
  have e : (false || !(hs.take pl).isEmpty) = decide (0 < pl) := by
    rw [Bool.false_or]
    cases pl with
    | zero => rfl
    | succ k =>
      cases hs with
      | nil => simp at hpl
      | cons a r => simp
  rw [e] at h
  exact h
theorem c_up1 (w : World) (b : Bool) (ds : List Nat) (h1 : 1 ≤ ds.length) (hl : ds.length ≤ 10) (t u : Tok) : CtrS w 12 170 [.str (txt b ds) t, .int 1 u] (fun r => ∃ t', r = .str (txt true (ds.drop 1)) t') := by
  cases ds with
  | nil => exact absurd h1 (Nat.not_succ_le_zero _)
  | cons d r =>
    have h := c_up w b [d] r t u (by simp only [List.length_cons, List.length_nil] at hl ⊢; omega)
    simpa using h
def dom (n P : Nat) (tr : Int) (p : Nat × Int) : Str := txt (decide (0 < p.1)) ((hostL n P tr p.2).drop p.1)
inductive DomsAre (n P : Nat) (tr : Int) : List Value → List (Nat × Int) → Prop
  | nil : DomsAre n P tr [] []
  | cons {p : Nat × Int} {t : Tok} {vs : List Value} {ps : List (Nat × Int)} (r : DomsAre n P tr vs ps) : DomsAre n P tr (.str (dom n P tr p) t :: vs) (p :: ps)
theorem DomsAre.snoc {n P : Nat} {tr : Int} {vs : List Value} {ps : List (Nat × Int)} {p : Nat × Int} {t : Tok} (h : DomsAre n P tr vs ps) : DomsAre n P tr (vs ++ [.str (dom n P tr p) t]) (ps ++ [p]) := by
  induction h with
  | nil => exact .cons .nil
  | cons _ ih => exact .cons ih
theorem DomsAre.length {n P : Nat} {tr : Int} {vs : List Value} {ps : List (Nat × Int)} (h : DomsAre n P tr vs ps) : vs.length = ps.length := by
  induction h with
  | nil => rfl
  | cons _ ih => rw [List.length_cons, List.length_cons, ih]
theorem DomsAre.get {n P : Nat} {tr : Int} {vs : List Value} {ps : List (Nat × Int)} (h : DomsAre n P tr vs ps) : ∀ {i : Nat} {p : Nat × Int}, ps[i]? = some p → ∃ t, vs[i]? = some (.str (dom n P tr p) t) := by
  induction h with
  | nil => intro i p h; cases i <;> cases h
  | cons _ ih =>
    intro i p hi
    cases i with
    | zero => obtain rfl := Option.some.inj hi; exact ⟨_, rfl⟩
    | succ i => exact ih hi
theorem take_snoc {α : Type} {l : List α} {i : Nat} {a : α} (h : l[i]? = some a) : l.take (i + 1) = l.take i ++ [a] := by
  rw [List.take_succ, h]; rfl
theorem spaces_eq (c : Nat) (x : Str) (hx : x.cps = Array.replicate c 32) : x ++ Str.ofString "\tx\t" = spaced c := by
  rw [show Str.ofString "\tx\t" = ⟨#[9, 120, 9]⟩ by decide +kernel]
  show (⟨x.cps ++ #[9, 120, 9]⟩ : Str) = spaced c
  rw [hx, spaced]
  congr 1
  apply Array.toList_inj.mp
  simp
end Mine
end
section
open PySem PySem.W PySem.Spec PySem.Calls PyProof.Rows
namespace Mine
set_option maxRecDepth 100000
set_option maxHeartbeats 8000000
theorem cut_dot : ∀ (l u x y : List Nat), (∀ c ∈ l, c ≠ 46) → l ++ 46 :: x = u ++ 46 :: y → (u = l ∧ x = y) ∨ ∃ u', u = l ++ 46 :: u' ∧ x = u' ++ 46 :: y
  | [], [], x, y, _, h => .inl ⟨rfl, (List.cons.inj h).2⟩
  | [], c :: u, x, y, _, h => .inr ⟨u, by rw [← (List.cons.inj h).1]; rfl, (List.cons.inj h).2⟩
  | a :: l, [], x, y, hd, h => absurd (List.cons.inj h).1 (hd a (.head _))
  | a :: l, c :: u, x, y, hd, h => by
    have h1 := List.cons.inj h
    rcases cut_dot l u x y (fun c hc => hd c (.tail _ hc)) h1.2 with ⟨e, e2⟩ | ⟨u', e, e2⟩
    · exact .inl ⟨by rw [e, h1.1], e2⟩
    · exact .inr ⟨u', by rw [e, h1.1]; rfl, e2⟩
theorem lab_inj : ∀ a < 4, ∀ b < 4, lab a = lab b → a = b := by decide
theorem no_dot_local {u y : List Nat} (h : body [] = u ++ 46 :: y) : False := by
  have : (46 : Nat) ∈ body [] := by rw [h]; simp
  revert this; decide
theorem body_inj : ∀ {as bs : List Nat}, (∀ d ∈ as, d < 4) → (∀ d ∈ bs, d < 4) → body as = body bs → as = bs
  | [], [], _, _, _ => rfl
  | [], b :: bs, _, _, h => (no_dot_local h).elim
  | a :: as, [], _, _, h => (no_dot_local h.symm).elim
  | a :: as, b :: bs, ha, hb, h => by
    rcases cut_dot (lab a) (lab b) _ _ (lab_ne a) h with ⟨e, e2⟩ | ⟨u', e, -⟩
    · rw [lab_inj a (ha a (.head _)) b (hb b (.head _)) e.symm, body_inj (fun d hd => ha d (.tail _ hd)) (fun d hd => hb d (.tail _ hd)) e2]
    · exact absurd rfl (lab_ne b 46 (by rw [e]; simp))
theorem body_suf : ∀ {as u bs : List Nat}, (∀ d ∈ as, d < 4) → (∀ d ∈ bs, d < 4) → body as = u ++ 46 :: body bs → ∃ p, as = p ++ bs
  | [], u, bs, _, _, h => (no_dot_local h).elim
  | a :: as, u, bs, ha, hb, h => by
    rcases cut_dot (lab a) u _ _ (lab_ne a) h with ⟨-, e2⟩ | ⟨u', -, e2⟩
    · exact ⟨[a], by rw [body_inj (fun d hd => ha d (.tail _ hd)) hb e2]; rfl⟩
    · obtain ⟨p, hp⟩ := body_suf (fun d hd => ha d (.tail _ hd)) hb e2
      exact ⟨a :: p, by rw [hp]; rfl⟩
theorem body_pre : ∀ (p : List Nat) (d : Nat) (bs : List Nat), ∃ u, body (p ++ d :: bs) = u ++ 46 :: body bs
  | [], d, bs => ⟨lab d, rfl⟩
  | a :: p, d, bs => by
    obtain ⟨u, hu⟩ := body_pre p d bs
    exact ⟨lab a ++ 46 :: u, by rw [List.cons_append, body, hu]; simp⟩
theorem ends_iff (x y : Str) : Txt.endswith x y = true ↔ ∃ u, x.cps.toList = u ++ y.cps.toList := by
  unfold Txt.endswith Builtin.Str.subAt
  have hx : x.length = x.cps.toList.length := by rw [Array.length_toList]; rfl
  have hy : y.length = y.cps.toList.length := by rw [Array.length_toList]; rfl
  simp only [Bool.and_eq_true, decide_eq_true_eq, beq_iff_eq]
  constructor
  · rintro ⟨h, e⟩
    refine ⟨x.cps.toList.take (x.length - y.length), ?_⟩
    have e2 : y.cps.toList = x.cps.toList.drop (x.length - y.length) := by
      rw [← e, Array.toList_extract, List.extract_eq_take_drop]
      rw [List.take_of_length_le (by rw [List.length_drop]; omega)]
    rw [e2, List.take_append_drop]
  · rintro ⟨u, e⟩
    have hl := congrArg List.length e
    rw [List.length_append] at hl
    refine ⟨by omega, ?_⟩
    apply Array.toList_inj.mp
    rw [Array.toList_extract, List.extract_eq_take_drop, e, show x.length - y.length = u.length by omega, List.drop_left, List.take_of_length_le (by omega)]
theorem txt_inj {b : Bool} {as bs : List Nat} (ha : ∀ d ∈ as, d < 4) (hb : ∀ d ∈ bs, d < 4) : txt b as = txt b bs ↔ as = bs := by
  constructor
  · intro h
    have h2 := congrArg (fun x : Str => x.cps.toList) h
    simp only [txt_list] at h2
    exact body_inj ha hb (List.append_cancel_left h2)
  · rintro rfl; rfl
theorem mt_drop {as bs : List Nat} (ha : ∀ d ∈ as, d < 4) (hb : ∀ d ∈ bs, d < 4) {pl : Nat} (hl : bs.length + pl = as.length) : mt as (decide (0 < pl)) bs = decide (as.drop pl = bs) := by
  unfold mt
  by_cases h0 : 0 < pl
  · rw [decide_eq_true h0, if_pos rfl, Bool.eq_iff_iff, ends_iff, decide_eq_true_iff]
    simp only [txt_list, Bool.false_eq_true, if_false, if_true, List.nil_append]
    constructor
    · rintro ⟨u, hu⟩
      obtain ⟨p, rfl⟩ := body_suf (u := u) ha hb hu
      rw [List.length_append] at hl
      rw [show pl = p.length by omega, List.drop_left]
    · intro e
      have e2 : as = as.take (pl - 1) ++ as.drop (pl - 1) := (List.take_append_drop _ _).symm
      obtain ⟨d, hd⟩ : ∃ d, as.drop (pl - 1) = d :: bs := by
        rw [List.drop_eq_getElem_cons (show pl - 1 < as.length by omega), show pl - 1 + 1 = pl by omega, e]
        exact ⟨_, rfl⟩
      rw [hd] at e2
      rw [e2]
      exact body_pre _ d bs
  · obtain rfl : pl = 0 := by omega
    rw [decide_eq_false h0, if_neg Bool.false_ne_true, List.drop_zero, Bool.eq_iff_iff, beq_iff_eq, decide_eq_true_iff]
    exact txt_inj ha hb
theorem dig_drop (n pl b : Nat) (y : Int) : (dig n (pl + b) y).drop pl = dig n b (y / 2 ^ (n * pl)) := by
  rw [dig_split, List.drop_append_of_le_length (by rw [dig_len]; exact Nat.le_refl _), List.drop_of_length_le (by rw [dig_len]; exact Nat.le_refl _), List.nil_append]
theorem undig_dig (n : Nat) : ∀ (len : Nat) (y : Int), 0 ≤ y → y < 2 ^ (n * len) → undig n (dig n len y) = y
  | 0, y, h0, h1 => by
    rw [Nat.mul_zero, Int.pow_zero] at h1
    show (0 : Int) = y
    omega
  | len + 1, y, h0, h1 => by
    have hp := pow2_pos n
    have e1 : dig n 1 (y % 2 ^ (n * 1)) = [y % 2 ^ n] := by
      rw [dig_one (Int.emod_nonneg _ (Int.ne_of_gt (pow2_pos _))) (Int.emod_lt_of_pos _ (pow2_pos _)), Nat.mul_one]
    have h2 : y / 2 ^ (n * 1) < 2 ^ (n * len) := div_bound (by rw [Nat.add_comm]; exact h1)
    rw [Nat.add_comm, dig_split, e1, Nat.mul_one, List.singleton_append, undig, undig_dig n len _ (Int.ediv_nonneg h0 (Int.le_of_lt hp)) (by rw [← Nat.mul_one n] at *; simpa using h2)]
    have := Int.emod_add_mul_ediv y (2 ^ n)
    omega
theorem dig_bound {n P : Nat} (hn : n = 1 ∨ n = 2) (c : Int) : ∀ y ∈ dig n P c, 0 ≤ y ∧ y < 4 := by
  intro y hy
  obtain ⟨j, -, rfl⟩ := List.mem_map.mp hy
  have h4 : (2 : Int) ^ n ≤ 4 := by rcases hn with rfl | rfl <;> decide
  exact ⟨Int.emod_nonneg _ (Int.ne_of_gt (pow2_pos n)), Int.lt_of_lt_of_le (Int.emod_lt_of_pos _ (pow2_pos n)) h4⟩
theorem host_lt (n P : Nat) (tr x : Int) : ∀ d ∈ hostL n P tr x, d < 4 := by
  intro d hd
  obtain ⟨f, -, rfl⟩ := List.mem_map.mp hd
  have h0 := Int.emod_nonneg (f + tr) (show (4 : Int) ≠ 0 by decide)
  have h1 := Int.emod_lt_of_pos (f + tr) (show (0 : Int) < 4 by decide)
  omega
theorem host_len (n P : Nat) (tr x : Int) : (hostL n P tr x).length = P := by rw [hostL, List.length_map, dig_len]
theorem map_rot {tr : Int} : ∀ {as bs : List Int}, (∀ y ∈ as, 0 ≤ y ∧ y < 4) → (∀ y ∈ bs, 0 ≤ y ∧ y < 4) → as.map (fun f => ((f + tr) % 4).toNat) = bs.map (fun f => ((f + tr) % 4).toNat) → as = bs
  | [], [], _, _, _ => rfl
  | [], b :: bs, _, _, h => by simp at h
  | a :: as, [], _, _, h => by simp at h
  | a :: as, b :: bs, ha, hb, h => by
    rw [List.map_cons, List.map_cons] at h
    have h1 := List.cons.inj h
    have := ha a (.head _)
    have := hb b (.head _)
    have e : a = b := by have := h1.1; omega
    rw [e, map_rot (fun y hy => ha y (.tail _ hy)) (fun y hy => hb y (.tail _ hy)) h1.2]
theorem match_law {n P : Nat} (hn : n = 1 ∨ n = 2) (tr a x : Int) {pl : Nat} (hpl : pl ≤ P) (ha : 0 ≤ a) (ha2 : a < 2 ^ (n * P)) (hx : 0 ≤ x) (hx2 : x < 2 ^ (n * P)) :
    mt (hostL n P tr a) (decide (0 < pl)) ((hostL n P tr x).drop pl) = decide (a / 2 ^ (n * pl) = x / 2 ^ (n * pl)) := by
  rw [mt_drop (host_lt n P tr a) (fun d hd => host_lt n P tr x d (List.mem_of_mem_drop hd)) (by rw [List.length_drop, host_len, host_len]; omega)]
  obtain ⟨b, rfl⟩ : ∃ b, P = pl + b := ⟨P - pl, by omega⟩
  have e : ∀ y : Int, (hostL n (pl + b) tr y).drop pl = (dig n b (y / 2 ^ (n * pl))).map (fun f => ((f + tr) % 4).toNat) := fun y => by rw [hostL, ← List.map_drop, dig_drop]
  rw [e, e, decide_eq_decide]
  constructor
  · intro h
    have h2 := map_rot (dig_bound hn _) (dig_bound hn _) h
    have h3 := congrArg (undig n) h2
    have hp := Int.le_of_lt (pow2_pos (n * pl))
    rwa [undig_dig n b _ (Int.ediv_nonneg ha hp) (div_bound ha2), undig_dig n b _ (Int.ediv_nonneg hx hp) (div_bound hx2)] at h3
  · intro h; rw [h]
def good (n P c : Nat) : Bool :=
  (fsts n (dig n P c) P).all fun p => decide (p.1 < P) && decide (0 ≤ p.2) && decide (p.2 < 2 ^ (n * P)) && decide ((c : Int) / 2 ^ (n * (p.1 + 1)) = p.2 / 2 ^ (n * (p.1 + 1)))
def hits (n P c a : Nat) : Nat := ((fsts n (dig n P c) P).filter fun p => decide ((a : Int) / 2 ^ (n * p.1) = p.2 / 2 ^ (n * p.1))).length
def blocks (n P c : Nat) : Nat := ((List.range P).map fun i => c / 2 ^ (n * (i + 1))).sum
set_option maxRecDepth 1000000
theorem good1 : ∀ c < 32, good 1 5 c = true := by decide +kernel
theorem good2 : ∀ c < 64, good 2 3 c = true := by decide +kernel
theorem len1 : ∀ c : Nat, c < 32 → ((fsts 1 (dig 1 5 c) 5).length : Int) = (c : Int) - 1 * ((blocks 1 5 c : Nat) : Int) := by decide +kernel
theorem len2 : ∀ c : Nat, c < 64 → ((fsts 2 (dig 2 3 c) 3).length : Int) = (c : Int) - 3 * ((blocks 2 3 c : Nat) : Int) := by decide +kernel
def hitsN (n : Nat) (T : List (Nat × Nat)) (a : Nat) : Nat := (T.filter fun q => Nat.beq (a / 2 ^ (n * q.1)) q.2).length
def tabN (n P c : Nat) : List (Nat × Nat) := (List.range P).flatMap fun pl => (List.range (c / 2 ^ (n * pl) % 2 ^ n)).map fun l => (pl, c / 2 ^ (n * (pl + 1)) * 2 ^ n + l)
def tab (n P c : Nat) : List (Nat × Nat) := (fsts n (dig n P c) P).map fun p => (p.1, (p.2 / 2 ^ (n * p.1)).toNat)
theorem hits_tab {n P c : Nat} (a : Nat) (h : ∀ p ∈ fsts n (dig n P c) P, 0 ≤ p.2) : hits n P c a = hitsN n (tab n P c) a := by
  rw [hits, hitsN, tab, List.filter_map, List.length_map]
  congr 1
  refine List.filter_congr fun p hp => ?_
  have h0 := h p hp
  have hk : (0 : Int) ≤ p.2 / 2 ^ (n * p.1) := Int.ediv_nonneg h0 (Int.le_of_lt (pow2_pos _))
  have e : (a : Int) / 2 ^ (n * p.1) = ((a / 2 ^ (n * p.1) : Nat) : Int) := by push_cast; rfl
  show decide _ = Nat.beq (a / 2 ^ (n * p.1)) (p.2 / 2 ^ (n * p.1)).toNat
  rw [e, Bool.eq_iff_iff, decide_eq_true_iff, Nat.beq_eq]
  omega
theorem tab1 : ∀ c < 32, tab 1 5 c = tabN 1 5 c := by decide +kernel
theorem tab2 : ∀ c < 64, tab 2 3 c = tabN 2 3 c := by decide +kernel
theorem cnt_range (u v : Nat) : ∀ d : Nat, ((List.range d).filter fun l => Nat.beq u (v + l)).length = if v ≤ u ∧ u < v + d then 1 else 0
  | 0 => by rw [if_neg (by omega)]; rfl
  | d + 1 => by
    rw [List.range_succ, List.filter_append, List.length_append, cnt_range u v d]
    by_cases h : u = v + d
    · rw [if_neg (by omega), if_pos (by omega), List.filter_cons_of_pos (by rw [Nat.beq_eq]; exact h)]; rfl
    · rw [List.filter_cons_of_neg (by rw [Nat.beq_eq]; exact h)]
      by_cases h2 : v ≤ u ∧ u < v + d
      · rw [if_pos h2, if_pos (by omega)]; rfl
      · rw [if_neg h2, if_neg (by omega)]; rfl
theorem hit_step {B x y : Nat} (hB : 0 < B) : (if y / B * B ≤ x ∧ x < y / B * B + y % B then 1 else 0) + (if x / B < y / B then 1 else 0) = (if x < y then 1 else 0) := by
  have e : y / B * B + y % B = y := by rw [Nat.mul_comm]; exact Nat.div_add_mod y B
  rw [e]
  have h1 : x / B < y / B ↔ x < y / B * B := Nat.div_lt_iff_lt_mul hB
  by_cases h : x < y / B * B
  · rw [if_neg (by omega), if_pos (h1.mpr h), if_pos (by omega)]
  · rw [if_neg (fun q => h (h1.mp q))]
    by_cases h2 : x < y
    · rw [if_pos ⟨by omega, h2⟩, if_pos h2]
    · rw [if_neg (fun q => h2 q.2), if_neg h2]
theorem hits_sum (n c a : Nat) : ∀ P : Nat, hitsN n (tabN n P c) a + (if a / 2 ^ (n * P) < c / 2 ^ (n * P) then 1 else 0) = if a < c then 1 else 0
  | 0 => by
    rw [Nat.mul_zero, Nat.pow_zero, Nat.div_one, Nat.div_one]
    exact Nat.zero_add _
  | P + 1 => by
    have hd : ∀ z : Nat, z / 2 ^ (n * (P + 1)) = z / 2 ^ (n * P) / 2 ^ n := fun z => by rw [Nat.div_div_eq_div_mul, ← Nat.pow_add, Nat.mul_add, Nat.mul_one]
    have e : hitsN n (tabN n (P + 1) c) a = hitsN n (tabN n P c) a + (if c / 2 ^ (n * P) / 2 ^ n * 2 ^ n ≤ a / 2 ^ (n * P) ∧ a / 2 ^ (n * P) < c / 2 ^ (n * P) / 2 ^ n * 2 ^ n + c / 2 ^ (n * P) % 2 ^ n then 1 else 0) := by
      rw [hitsN, tabN, List.range_succ, List.flatMap_append, List.filter_append, List.length_append, ← tabN, ← hitsN]
      congr 1
      rw [List.flatMap_cons, List.flatMap_nil, List.append_nil, List.filter_map, List.length_map, ← hd c]
      exact cnt_range (a / 2 ^ (n * P)) (c / 2 ^ (n * (P + 1)) * 2 ^ n) (c / 2 ^ (n * P) % 2 ^ n)
    rw [e, hd a, hd c, Nat.add_assoc, hit_step (Nat.two_pow_pos n)]
    exact hits_sum n c a P
theorem hits_all {n P c a : Nat} (h : ∀ p ∈ fsts n (dig n P c) P, 0 ≤ p.2) (ht : tab n P c = tabN n P c) (hc : c < 2 ^ (n * P)) : hits n P c a = if a < c then 1 else 0 := by
  have h1 := hits_sum n c a P
  rw [Nat.div_eq_of_lt hc, if_neg (Nat.not_lt_zero _), Nat.add_zero] at h1
  rw [hits_tab a h, ht, h1]
theorem good_nonneg {n P c : Nat} (h : good n P c = true) : ∀ p ∈ fsts n (dig n P c) P, 0 ≤ p.2 := fun p hp => by
  have h2 := List.all_eq_true.mp h p hp
  simp only [Bool.and_eq_true, decide_eq_true_eq] at h2
  exact h2.1.1.2
theorem hits1 (c : Nat) (hc : c < 32) (a : Nat) : hits 1 5 c a = if a < c then 1 else 0 := hits_all (good_nonneg (good1 c hc)) (tab1 c hc) hc
theorem hits2 (c : Nat) (hc : c < 64) (a : Nat) : hits 2 3 c a = if a < c then 1 else 0 := hits_all (good_nonneg (good2 c hc)) (tab2 c hc) hc
end Mine
end
section
open PySem PySem.W PySem.Spec PySem.Calls PyProof.Rows
namespace Mine
set_option maxRecDepth 100000
set_option maxHeartbeats 8000000
open LCg
section
variable {prog : Program} {w : World} {A : Around} {E : Value → Shared → Prop} {s : Shared} {h₀ : Heap} {env : Env}
def ForRest (prog : Program) (w : World) (A : Around) (h₀ : Heap) (env : Env) (target : Expr) (body : List Stmt) (Q : Flow → Shared → Prop) (s : Shared) (I : Addr) (lp : Addr × Obj) : List Value → (Str → Option Value) → List (Addr × Obj) → Prop
  | [], m, news => ∀ h tk, Fr h₀ env.locals h m → News h₀ env.locals h news → Q .next { s with heap := h, toks := tk }
  | v :: r, m, news => ∀ (it : Obj) h tk, Fr h₀ env.locals h m → News h₀ env.locals h ((I, it) :: news) →
      wpAny (model prog w) A (assign target env v) (fun _ s₂ => wpAny (model prog w) A (execs body env) (UnrPost h₀ env.locals { s with heap := h, toks := tk } I it (fun m' n' => lp ∈ n' ∧ ForRest prog w A h₀ env target body Q s I lp r m' n') Q) (fun _ _ => False) s₂) (fun _ _ => False) { s with heap := h, toks := tk }
def ForSrc (prog : Program) (w : World) (A : Around) (h₀ : Heap) (env : Env) (target : Expr) (body : List Stmt) (Q : Flow → Shared → Prop) (xv : Value) (s₁ : Shared) : Prop :=
  ∃ ax vs k news m, xv = .ref ax ∧ A.handled = none ∧ Fr h₀ env.locals s₁.heap m ∧ News h₀ env.locals s₁.heap news ∧ (ax, W.listOf (List.toArray vs) k) ∈ news ∧
    ∀ I : Addr, (∀ p ∈ news, p.1 < I) → ∀ m₁, m₁ = m → ForRest prog w A h₀ env target body Q s₁ I (ax, W.listOf (List.toArray vs) k) vs m₁ news
theorem ForSrc.of {target : Expr} {body : List Stmt} {Q : Flow → Shared → Prop} {ax : Addr} {vs : List Value} {k : Nat} {news : List (Addr × Obj)} {m : Str → Option Value} {s₁ : Shared} (hh : A.handled = none) (F : Fr h₀ env.locals s₁.heap m) (N : News h₀ env.locals s₁.heap news) (hm : (ax, W.listOf (List.toArray vs) k) ∈ news)
    (rest : ∀ I : Addr, (∀ p ∈ news, p.1 < I) → ∀ m₁, m₁ = m → ForRest prog w A h₀ env target body Q s₁ I (ax, W.listOf (List.toArray vs) k) vs m₁ news) : ForSrc prog w A h₀ env target body Q (.ref ax) s₁ :=
  ⟨ax, vs, k, news, m, rfl, hh, F, N, hm, rest⟩
theorem for_list {x : Str} {px pos : Pos} {iter : Expr} {bd : List Stmt} {Q : Flow → Shared → Prop} {m₀ : Str → Option Value} (_F : Fr h₀ env.locals s.heap m₀) (h : wpAny (model prog w) A (eval iter env) (ForSrc prog w A h₀ env (.Name x px) bd Q) E s)
    (hs : ∀ x, foldedSetIterable iter env x = pure x := by intro _; rfl) : wpAny (model prog w) A (exec (.For (.Name x px) iter bd [] pos) env) Q E s := by
  refine wpAny_For (wpAny_mono h (fun xv s₁ h₁ => ?_) fun _ _ e => e) hs
  obtain ⟨ax, vs, k, news, m, rfl, hh, F, N, hm, rest⟩ := h₁
  have hl : s₁.heap.IsList ax vs.toArray := ⟨_, N.get hm, rfl, k, rfl⟩
  refine wpAny_pyIter_list hl ?_
  have up : ∀ b o, s₁.heap.get? b = some o → (s₁.heap.push { cls := .type "list_iterator", data := .fields #[.ref ax, .int 0 0] }).get? b = some o := fun b o e => Heap.get?_push_of_some _ e
  obtain ⟨I, hI⟩ : ∃ I, I = s₁.heap.objs.size := ⟨_, rfl⟩
  have hIlt : ∀ p ∈ news, p.1 < I := fun p hp => hI ▸ Heap.lt_size (N p hp).1
  have hax : ax ≠ I := Nat.ne_of_lt (hIlt _ hm)
  have hLI : env.locals ≠ I := Nat.ne_of_lt (hI ▸ F.ns.lt)
  have hI₀ : h₀.get? I = none := hI ▸ next_is_new F
  have Wk := Walks.list (prog := prog) (w := w) (A := A) hh I ax hax vs.toArray
  have hst : (s₁.heap.push { cls := .type "list_iterator", data := .fields #[.ref ax, .int 0 0] }).IsListIter I ax 0 := by rw [hI]; exact ⟨_, Heap.get?_push_size _ rfl, rfl, rfl⟩
  have rest := rest I hIlt _ rfl
  rw [← hI]
  refine codeAny_forLoop (fun n s' => ∃ h tk i m' news', s' = { s₁ with heap := h, toks := tk } ∧ i ≤ vs.length ∧ n + i = vs.length + 1 ∧ (h.IsListIter I ax i ∧ h.IsList ax vs.toArray) ∧ Fr h₀ env.locals h m' ∧ News h₀ env.locals h news' ∧ (∀ p ∈ news', p.1 ≠ I) ∧ (ax, W.listOf vs.toArray k) ∈ news' ∧
    ForRest prog w A h₀ env (.Name x px) bd Q s₁ I (ax, W.listOf vs.toArray k) (vs.drop i) m' news') ?_ (vs.length + 1) ⟨_, _, 0, m, news, rfl, Nat.zero_le _, rfl, ⟨hst, hl.push _⟩, F.keeps up, N.grown up, fun p hp => Nat.ne_of_lt (hIlt p hp), hm, by rw [List.drop_zero]; exact rest⟩
  rintro n s' ⟨h, tk, i, m', news', rfl, hi, hn, st, F', N', off, hm', R⟩
  rcases Nat.lt_or_eq_of_le hi with hlt | heq
  · refine Wk.item i _ _ _ (by simpa using hlt) st fun v h₂ tk₂ hv st₂ keep₂ => ?_
    have hv2 : vs[i]? = some v := by simpa using hv
    have hdrop : vs.drop i = v :: vs.drop (i + 1) := by
      rw [List.drop_eq_getElem_cons hlt]
      congr 1
      exact Option.some.inj ((List.getElem?_eq_getElem hlt).symm.trans hv2)
    rw [hdrop] at R
    obtain ⟨oI, eI, cI, dI⟩ := st₂.1
    have N₂ : News h₀ env.locals h₂ news' := news_but N' keep₂ off
    have NI : News h₀ env.locals h₂ ((I, oI) :: news') := fun p hp => by
      rcases List.mem_cons.mp hp with rfl | hp
      · exact ⟨eI, Ne.symm hLI, hI₀⟩
      · exact N₂ p hp
    have body := R oI h₂ tk₂ (fr_but F' keep₂ hLI hI₀) NI
    refine wpAny_mono body (fun _ s₃ b₃ => wpAny_mono b₃ (fun f s₄ p => ?_) fun _ _ e => e.elim) fun _ _ e => e.elim
    have next : UnrEnd h₀ env.locals { s₁ with heap := h₂, toks := tk₂ } I oI (fun m' n' => (ax, W.listOf vs.toArray k) ∈ n' ∧ ForRest prog w A h₀ env (.Name x px) bd Q s₁ I (ax, W.listOf vs.toArray k) (vs.drop (i + 1)) m' n') s₄ →
        ∃ m, m < n ∧ ∃ h tk i m' news', s₄ = { s₁ with heap := h, toks := tk } ∧ i ≤ vs.length ∧ m + i = vs.length + 1 ∧ (h.IsListIter I ax i ∧ h.IsList ax vs.toArray) ∧ Fr h₀ env.locals h m' ∧ News h₀ env.locals h news' ∧ (∀ p ∈ news', p.1 ≠ I) ∧ (ax, W.listOf vs.toArray k) ∈ news' ∧
          ForRest prog w A h₀ env (.Name x px) bd Q s₁ I (ax, W.listOf vs.toArray k) (vs.drop i) m' news' := by
      rintro ⟨h₅, tk₅, m₅, n₅, rfl, F₅, N₅, off₅, hm₅, R₅⟩
      exact ⟨n - 1, by omega, h₅, tk₅, i + 1, m₅, n₅, rfl, hlt, by omega, ⟨⟨oI, (N₅ _ (.head _)).1, cI, dI⟩, ⟨_, (N₅ _ (.tail _ hm₅)).1, rfl, k, rfl⟩⟩, F₅, fun p hp => N₅ p (.tail _ hp), off₅, hm₅, R₅⟩
    cases f with
    | next => exact next p
    | cont => exact next p
    | brk => exact p
    | ret v => exact p
  · subst heq
    refine Wk.done _ _ _ (by simpa using st) fun h₂ tk₂ keep₂ => ?_
    rw [List.drop_length] at R
    exact wpAny_execs_nil (R h₂ tk₂ (fr_but F' keep₂ hLI hI₀) (news_but N' keep₂ off))
end
end Mine
end
section
open PySem PySem.W PySem.Spec PySem.Calls PyProof.Rows
namespace Mine
set_option maxRecDepth 100000
set_option maxHeartbeats 8000000
section
variable {prog : Program} {w : World} {A : Around} {E : Value → Shared → Prop} {s : Shared} {h₀ : Heap} {L : Addr} {m : Str → Option Value} {env : Env}
open LCg LCt
theorem comp_rest {elt : Expr} {x : Str} {scope : Scope} {cl : List (Str × Addr)} {Fin : List Value → List (Addr × Obj) → Prop} {ax : Addr} {its : Array Value} {Z : List (Addr × Obj)} (G : Nat → List Value → Prop) (hS : SrcAt h₀ ax its Z) (g0 : G 0 [])
    (turn : ∀ i ys v I oI C oC D m₂ h tk (E' : Value → Shared → Prop), its[i]? = some v → G i ys → NsObj oC m₂ → m₂ x = some v → Fr h₀ L h m → News h₀ L h ((I, oI) :: (C, oC) :: (D, lst ys) :: Z) → (∀ p ∈ Z, p.1 ≠ I ∧ p.1 ≠ C ∧ p.1 ≠ D) →
      wpAny (model prog w) A (eval elt (compEnvC scope cl C env)) (PEnd h₀ L m s ((I, oI) :: (C, oC) :: (D, lst ys) :: Z) fun y => G (i + 1) (ys ++ [y])) E' { s with heap := h, toks := tk })
    (fin : ∀ ys, G its.size ys → Fin ys Z) : CompRest prog w A h₀ L m env elt x scope cl s (SrcAt h₀ ax its) (fun i v => its[i]? = some v) Fin its.size 0 [] Z := by
  refine (?H : ∀ (k i : Nat) (ys : List Value), k + i = its.size → G i ys → CompRest prog w A h₀ L m env elt x scope cl s (SrcAt h₀ ax its) (fun i v => its[i]? = some v) Fin k i ys Z) its.size 0 [] rfl g0
  intro k
  induction k with
  | zero => intro i ys hi hg; obtain rfl : i = its.size := by omega
            exact CompRest.zero (fin ys hg)
  | succ k ih =>
    intro i ys hi hg
    refine CompRest.succ fun v I oI C oC D m₂ h tk E' hv hC hx F N off ne => ?_
    refine wpAny_mono (turn i ys v I oI C oC D m₂ h tk E' hv hg hC hx F N (Off3.mem off)) (fun y s₆ q => ?_) fun _ _ e => e
    obtain ⟨h₆, tk₆, rfl, F₆, N₆, g₆⟩ := q
    exact CompEnd.intro (s₁ := { s with heap := h, toks := tk }) F₆ N₆ Z (fun p hp => hp) off hS (ih (i + 1) _ (by omega) g₆)
theorem comp_restT {ct elt : Expr} {x : Str} {scope : Scope} {cl : List (Str × Addr)} {Fin : List Value → List (Addr × Obj) → Prop} {ax : Addr} {its : Array Value} {Z : List (Addr × Obj)} (G : Nat → List Value → Prop) (hS : SrcAt h₀ ax its Z) (g0 : G 0 [])
    (turn : ∀ i ys v I oI C oC D m₂ h tk (E' : Value → Shared → Prop), its[i]? = some v → G i ys → NsObj oC m₂ → m₂ x = some v → Fr h₀ L h m → News h₀ L h ((I, oI) :: (C, oC) :: (D, lst ys) :: Z) → (∀ p ∈ Z, p.1 ≠ I ∧ p.1 ≠ C ∧ p.1 ≠ D) →
      wpAny (model prog w) A (isTrue ct (compEnvC scope cl C env) (eval ct (compEnvC scope cl C env))) (fun ok s' => if ok = true then
        wpAny (model prog w) A (eval elt (compEnvC scope cl C env)) (PEnd h₀ L m s ((I, oI) :: (C, oC) :: (D, lst ys) :: Z) fun y => G (i + 1) (ys ++ [y])) E' s'
        else PEnd h₀ L m s ((I, oI) :: (C, oC) :: (D, lst ys) :: Z) (fun _ => G (i + 1) ys) Value.none s') E' { s with heap := h, toks := tk })
    (fin : ∀ ys, G its.size ys → Fin ys Z) : CompRestT prog w A h₀ L m env ct elt x scope cl s (SrcAt h₀ ax its) (fun i v => its[i]? = some v) Fin its.size 0 [] Z := by
  refine (?H : ∀ (k i : Nat) (ys : List Value), k + i = its.size → G i ys → CompRestT prog w A h₀ L m env ct elt x scope cl s (SrcAt h₀ ax its) (fun i v => its[i]? = some v) Fin k i ys Z) its.size 0 [] rfl g0
  intro k
  induction k with
  | zero => intro i ys hi hg; obtain rfl : i = its.size := by omega
            exact CompRestT.zero (fin ys hg)
  | succ k ih =>
    intro i ys hi hg
    refine CompRestT.succ fun v I oI C oC D m₂ h tk E' hv hC hx F N off ne => ?_
    refine wpAny_mono (turn i ys v I oI C oC D m₂ h tk E' hv hg hC hx F N (Off3.mem off)) (fun ok s₅ q => ?_) fun _ _ e => e
    cases ok with
    | true =>
      simp only [if_true] at q ⊢
      refine wpAny_mono q (fun y s₆ q => ?_) fun _ _ e => e
      obtain ⟨h₆, tk₆, rfl, F₆, N₆, g₆⟩ := q
      exact CompEnd.intro (s₁ := { s with heap := h, toks := tk }) F₆ N₆ Z (fun p hp => hp) off hS (ih (i + 1) _ (by omega) g₆)
    | false =>
      simp only [Bool.false_eq_true, if_false] at q ⊢
      obtain ⟨h₆, tk₆, rfl, F₆, N₆, g₆⟩ := q
      exact CompEnd.intro (s₁ := { s with heap := h, toks := tk }) F₆ N₆ Z (fun p hp => hp) off hS (ih (i + 1) _ (by omega) g₆)
end
/-! lists of bools -/
def bl (bs : List Bool) : List Value := bs.map Value.bool
theorem reads_bl (h : Heap) : ∀ bs : List Bool, ReadsAll h (bl bs) (bs.map PyData.bool) []
  | [] => .nil
  | b :: r => by simpa [bl] using ReadsAll.cons (Reads.bool (h := h) b) (reads_bl h r)
theorem canLayAll_bl : ∀ bs : List Bool, PyData.canLayAll0 (bs.map PyData.bool) = true
  | [] => rfl
  | _ :: r => by simp [PyData.canLayAll0, PyData.canLay0, canLayAll_bl r]
theorem depthAll_bl : ∀ bs : List Bool, PyData.depthAll (bs.map PyData.bool) = 0
  | [] => rfl
  | _ :: r => by simp [PyData.depthAll, PyData.depth, depthAll_bl r]
theorem shaped_bl (bs : List Bool) : SeqAt.shaped (.list (bs.map PyData.bool)) = true := by
  simp [SeqAt.shaped, PyData.canLay0, PyData.depth, canLayAll_bl, depthAll_bl]
theorem eqv_bl : ∀ bs : List Bool, PyData.eqvAll (bs.map PyData.bool) (bs.map PyData.bool) = true
  | [] => by simp [PyData.eqvAll]
  | b :: r => by cases b <;> simp [PyData.eqvAll, PyData.eqv, eqv_bl r]
section
variable {prog : Program} {w : World} {A : Around} {E : Value → Shared → Prop} {s : Shared} {h₀ : Heap} {L : Addr} {news : List (Addr × Obj)}
theorem r_nebl {a b : Addr} {bs : List Bool} {k l : Nat} {Q : Value → Shared → Prop} (N : News h₀ L s.heap news) (ha : (a, W.listOf (bl bs).toArray k) ∈ news) (hb : (b, W.listOf (bl bs).toArray l) ∈ news) (hu : A.units + 64 < cLine)
    (h : Q (.bool false) s) : wpAny (model prog w) A (compareOp .NotEq (.ref a) (.ref b)) Q E s := by
  refine ne_dataH (Reads.list (N.get ha) rfl rfl (by simpa using reads_bl s.heap bs)) (Reads.list (N.get hb) rfl rfl (by simpa using reads_bl s.heap bs)) (shaped_bl bs) (shaped_bl bs) hu ?_
  rw [show PyData.eqv (.list (bs.map PyData.bool)) (.list (bs.map PyData.bool)) = true by rw [PyData.eqv]; exact eqv_bl bs]
  exact h
theorem sub_bool {b : Bool} {Q : Option Int → Shared → Prop} (h : Q (some (if b then 1 else 0)) s) : wpAny (model prog w) A (Builtin.List.listSubscript? (.bool b)) Q E s := by
  unfold Builtin.List.listSubscript?
  refine wpAny_bind (wpAny_specialOf (T := "bool") (PySem.typeIs_bool s b) F.slot_bool_index.lookup ?_)
  show wpAny _ A (asIndex (.bool b) >>= _) Q E s
  refine wpAny_bind (wpAny_of_eq (a := if b then 1 else 0) rfl ?_)
  show wpAny _ A (if (!Builtin.List.listFitsIndex (if b then 1 else 0)) = true then _ else _) Q E s
  rw [if_neg (by cases b <;> decide)]
  exact wpAny_pure h
/-- a list read at an index that stands for the place j, whatever value the index is: first the built-in itself, then the brackets -/
theorem read_by {l : Addr} {its : Array Value} {iv x : Value} {j : Nat} {R : Value → Shared → Prop} (hl : s.heap.IsList l its) (hx : its[j]? = some x)
    (at_j : ∀ T : Option Int → Shared → Prop, T (some (j : Int)) s → wpAny (model prog w) A (Builtin.List.listSubscript? iv) T E s) (h : R x s) :
    wpAny (model prog w) A (Builtin.«list.__getitem__» ⟨[.ref l, iv], []⟩) (fun fin s' => ∃ v, fin = .done (.ret v) ∧ R v s') E s := by
  obtain ⟨ob, e1, -, nn, e2⟩ := id hl
  have got : wpAny (model prog w) A (do return (← seqItemAt l j).map (j, ·)) (fun (r : Option (Nat × Value)) s' => r = some (j, x) ∧ s' = s) E s :=
    wpAny_bind (wpAny_seqItemAt e1 e2 (wpAny_pure ⟨by rw [hx]; rfl, rfl⟩))
  refine wpAny_bind (wpAny_of_eq (a := (Value.ref l, iv)) rfl (wpAny_bind (at_j _ ?_)))
  refine wpAny_bind (wpAny_mono got (fun r s' q => ?_) fun _ _ e => e)
  rw [q.1, q.2]
  exact wpAny_pure ⟨x, rfl, h⟩
theorem item_by {l : Addr} {its : Array Value} {iv x : Value} {j : Nat} {Q : Value → Shared → Prop} (hl : s.heap.IsList l its) (hx : its[j]? = some x)
    (at_j : ∀ T : Option Int → Shared → Prop, T (some (j : Int)) s → wpAny (model prog w) A.in1 (Builtin.List.listSubscript? iv) T E s) (h : Q x s) : wpAny (model prog w) A (getItem (.ref l) iv) Q E s := by
  have called : wpAny (model prog w) A (callSpecial? (.ref l) (Str.ofString "__getitem__") [iv]) (fun r s' => r = some x ∧ s' = s) E s :=
    wpAny_callSpecial?_slot hl.typeIs slot_list_getitem (wpAny_call_entry slot_list_getitem hl.typeIs entry_list_getitem (read_by hl hx at_j ⟨rfl, rfl⟩) (args_list_getitem _ _))
  refine wpAny_holding (wpAny_bind (wpAny_sequenceKey hl.typeIs (by decide) (wpAny_bind (wpAny_mono called (fun r s' q => ?_) fun _ _ e => e))))
  rw [q.1, q.2]
  exact wpAny_pure h
theorem get_bool {l : Addr} {items : Array Value} {b : Bool} {x : Value} {Q : Value → Shared → Prop} (hl : s.heap.IsList l items)
    (hx : items[(if b then 1 else 0 : Nat)]? = some x) (h : Q x s) : wpAny (model prog w) A (getItem (.ref l) (.bool b)) Q E s :=
  item_by hl hx (fun R hR => sub_bool (by cases b <;> exact hR)) h
theorem r_pick {value slice : Expr} {l : Addr} {items : Array Value} {k : Nat} {b : Bool} {x : Value} {Q : Value → Shared → Prop} (N : News h₀ L s.heap news) (hm : (l, W.listOf items k) ∈ news)
    (hx : items[(if b then 1 else 0 : Nat)]? = some x) (h : Q x s)
    (hs : subscripted slice false (.ref l) (.bool b) = operate [.ref l, .bool b] (getItem (.ref l) (.bool b)) := by with_unfolding_all rfl) :
    wpAny (model prog w) A (subscriptTail value slice (.ref l) (.bool b)) Q E s := by
  have hl : s.heap.IsList l items := ⟨_, N.get hm, rfl, k, rfl⟩
  refine kba_turn (value' := PySem.Expr.Name (PySem.Str.ofString "_") ⟨0, 0, 0, 0⟩) (fun _ => rfl) ?_
  exact subscriptTail_builtin hl.typeIs slot_list_getitem.lookup (get_bool hl hx h) hs
end
/-! the counts -/
def ans (n : Nat) (a : Nat) (ps : List (Nat × Int)) : List Bool := ps.map fun p => decide ((a : Int) / 2 ^ (n * p.1) = p.2 / 2 ^ (n * p.1))
theorem ans_count (n a : Nat) (ps : List (Nat × Int)) : ((ans n a ps).filter id).length = (ps.filter fun p => decide ((a : Int) / 2 ^ (n * p.1) = p.2 / 2 ^ (n * p.1))).length := by
  rw [ans, List.filter_map, List.length_map]; rfl
theorem hit_law {n P W c a : Nat} (hc : (n = 1 ∧ P = 5 ∧ W = 32) ∨ (n = 2 ∧ P = 3 ∧ W = 64)) (hcW : c < W) : ((ans n a (fsts n (dig n P (c : Int)) P)).filter id).length = if a < c then 1 else 0 := by
  rw [ans_count]
  rcases hc with ⟨rfl, rfl, rfl⟩ | ⟨rfl, rfl, rfl⟩
  · exact hits1 c hcW a
  · exact hits2 c hcW a
theorem ans_law {n P W a : Nat} (haW : a < W) (hn : n = 1 ∨ n = 2) (eW : (W : Int) = 2 ^ (n * P)) (tr : Int) {p : Nat × Int} (hp1 : p.1 < P) (hp2 : 0 ≤ p.2) (hp3 : p.2 < 2 ^ (n * P)) :
    mt (hostL n P tr (a : Int)) (decide (0 < p.1)) ((hostL n P tr p.2).drop p.1) = decide ((a : Int) / 2 ^ (n * p.1) = p.2 / 2 ^ (n * p.1)) :=
  match_law hn tr (a : Int) p.2 (by omega) (by omega) (by rw [← eW]; omega) hp2 hp3
theorem ans_snoc {n a : Nat} {ps : List (Nat × Int)} {i : Nat} {p : Nat × Int} (h : ps[i]? = some p) : bl (ans n a (ps.take (i + 1))) = bl (ans n a (ps.take i)) ++ [.bool (decide ((a : Int) / 2 ^ (n * p.1) = p.2 / 2 ^ (n * p.1)))] := by
  rw [take_snoc h, ans, List.map_append, bl, List.map_append]; rfl
theorem bl_filter_snoc {bs : List Bool} {i : Nat} {b : Bool} (h : bs[i]? = some b) : bl ((bs.take (i + 1)).filter id) = if b then bl ((bs.take i).filter id) ++ [.bool true] else bl ((bs.take i).filter id) := by
  rw [take_snoc h, List.filter_append, bl, List.map_append]
  cases b <;> simp [bl]
theorem bl_get {bs : List Bool} {k : Nat} {v : Value} (h : (bl bs).toArray[k]? = some v) : ∃ b, bs[k]? = some b ∧ v = .bool b := by
  rw [List.getElem?_toArray, bl, List.getElem?_map] at h
  cases e : bs[k]? with
  | none => rw [e] at h; cases h
  | some b => rw [e] at h; exact ⟨b, rfl, (Option.some.inj h).symm⟩
section
variable {prog : Program} {w : World} {A : Around} {E : Value → Shared → Prop} {s : Shared} {h₀ : Heap} {L : Addr} {news : List (Addr × Obj)}
theorem r_pick2 {value slice : Expr} {l : Addr} {x y : Int} {t u : Tok} {k : Nat} {b : Bool} {Q : Value → Shared → Prop} (N : News h₀ L s.heap news) (hm : (l, W.listOf #[.int x t, .int y u] k) ∈ news)
    (h : ∀ v, Q (.int (if b then y else x) v) s)
    (hs : subscripted slice false (.ref l) (.bool b) = operate [.ref l, .bool b] (getItem (.ref l) (.bool b)) := by with_unfolding_all rfl) :
    wpAny (model prog w) A (subscriptTail value slice (.ref l) (.bool b)) Q E s := by
  cases b with
  | true => exact r_pick N hm rfl (h u) hs
  | false => exact r_pick N hm rfl (h t) hs
end
end Mine
namespace Mine
theorem shr_eq (n pl : Nat) (y : Int) : y.fdiv (2 ^ ((n : Int) * (pl : Int)).toNat) = y / 2 ^ (n * pl) := by
  rw [show (n : Int) * (pl : Int) = ((n * pl : Nat) : Int) by push_cast; rfl, Int.toNat_natCast, Int.fdiv_eq_ediv_of_nonneg _ (Int.le_of_lt (pow2_pos _))]
theorem count_false {len a c : Nat} (h : len = if a < c then 1 else 0) : (((len : Nat) : Int) != (if decide ((a : Int) < (c : Int)) = true then 1 else 0)) = false := by
  rw [h]
  by_cases hac : a < c
  · rw [if_pos hac, if_pos (decide_eq_true (by omega))]; rfl
  · rw [if_neg hac, if_neg (by rw [decide_eq_true_eq]; omega)]; rfl
end Mine
namespace Mine
theorem filt_t {bs : List Bool} {i : Nat} (h : bs[i]? = some true) : bl ((bs.take i).filter id) ++ [.bool true] = bl ((bs.take (i + 1)).filter id) := by
  rw [bl_filter_snoc h, if_pos rfl]
theorem filt_f {bs : List Bool} {i : Nat} (h : bs[i]? = some false) : bl ((bs.take i).filter id) = bl ((bs.take (i + 1)).filter id) := by
  rw [bl_filter_snoc h, if_neg (by decide)]
end Mine
namespace Mine
theorem ans_snoc2 {n a : Nat} {ps : List (Nat × Int)} {i pl : Nat} {x : Int} (h : ps[i]? = some (pl, x)) : bl (ans n a (ps.take i)) ++ [.bool ((a : Int) / 2 ^ (n * pl) == x / 2 ^ (n * pl))] = bl (ans n a (ps.take (i + 1))) := by
  rw [ans_snoc h]; rfl
end Mine
end
section
namespace Mine
theorem reset_M2 : True := by
  w_top off
  trivial
end Mine
open PySem PySem.W PySem.Spec PySem.Calls PyProof.Rows
namespace Mine
set_option maxRecDepth 100000
set_option maxHeartbeats 8000000
set_option pp.deepTerms false
set_option pp.deepTerms.threshold 6
section
variable {prog : Program} {w : World} {A : Around} {E : Value → Shared → Prop} {s : Shared} {h₀ : Heap} {L : Addr} {news : List (Addr × Obj)} {m : Str → Option Value}
theorem r_sum {l : Addr} {vs : List Value} {k : Nat} {ns : List Int} {Q : Value → Shared → Prop} (hh : A.handled = none) (F : Fr h₀ L s.heap m) (N : News h₀ L s.heap news) (hm : (l, W.listOf vs.toArray k) ∈ news) (hi : IntsAre vs ns)
    (h : ∀ h' tk t', Fr h₀ L h' m → News h₀ L h' news → Q (.int ns.sum t') { s with heap := h', toks := tk }) :
    wpAny (model prog w) A (call (.builtin "sum") [.ref l]) Q E s := sumK hh F N ⟨_, N.get hm, rfl, k, rfl⟩ hi h
end
theorem width_is (S : Int) : ∃ n : Nat, (n = 1 ∨ n = 2) ∧ 1 + S.fmod 2 = (n : Int) := by
  have h := Int.fmod_eq_emod_of_nonneg S (show (0 : Int) ≤ 2 by omega)
  rcases (show S % 2 = 0 ∨ S % 2 = 1 by omega) with e | e
  · exact ⟨1, .inl rfl, by rw [h, e]; rfl⟩
  · exact ⟨2, .inr rfl, by rw [h, e]; rfl⟩
theorem places_is {n : Nat} (hn : n = 1 ∨ n = 2) : ∃ P W : Nat, ((n = 1 ∧ P = 5 ∧ W = 32) ∨ (n = 2 ∧ P = 3 ∧ W = 64)) ∧ 7 - 2 * (n : Int) = (P : Int) ∧ 0 ≤ (n : Int) * (P : Int) ∧ (n : Int) * (P : Int) ≤ 1000000 ∧ (1 : Int) * 2 ^ ((n : Int) * (P : Int)).toNat = (W : Int) ∧ (W : Int) = 2 ^ (n * P) := by
  rcases hn with rfl | rfl
  · exact ⟨5, 32, by decide⟩
  · exact ⟨3, 64, by decide⟩
theorem count_is {W : Nat} (hW : W = 32 ∨ W = 64) (x : Int) : ∃ c : Nat, c < W ∧ x.fmod (W : Int) = (c : Int) := by
  have h0 := fmod_lo x (show (0 : Int) < (W : Int) by omega)
  have h1 := fmod_hi x (show (0 : Int) < (W : Int) by omega)
  exact ⟨(x.fmod W).toNat, by omega, by omega⟩
theorem turn_is (x : Int) : ∃ c : Int, 0 ≤ c ∧ c < 4 ∧ x.fmod 4 = c := ⟨_, fmod_lo x (by decide), fmod_hi x (by decide), rfl⟩
theorem ints_pick {vs : List Value} {ns : List Int} (hi : IntsAre vs ns) (idx : List Nat) : IntsAre (idx.filterMap (vs.toArray[·]?)) (idx.filterMap (ns[·]?)) := by
  induction idx with
  | nil => exact .nil
  | cons i r ih =>
    by_cases h : i < ns.length
    · obtain ⟨t, ht⟩ := hi.get i _ (List.getElem?_eq_getElem h)
      rw [List.filterMap_cons_some (b := .int ns[i] t) (by simpa using ht), List.filterMap_cons_some (List.getElem?_eq_getElem h)]
      exact .cons _ _ ih
    · have h2 := hi.length
      rw [List.filterMap_cons_none (by simp; omega), List.filterMap_cons_none (by simp; omega)]
      exact ih
theorem pick_ints {vs : List Value} {ns : List Int} (hi : IntsAre vs ns) (lo hi' st : Option Int) : ∃ ws ms, slicePick vs.toArray lo hi' st = ws.toArray ∧ IntsAre ws ms ∧ (∀ y ∈ ms, y ∈ ns) ∧ ws.length ≤ vs.length := by
  refine ⟨_, _, rfl, ints_pick hi _, fun y hy => ?_, ?_⟩
  · obtain ⟨i, -, hi2⟩ := List.mem_filterMap.mp hy
    exact List.mem_of_getElem? hi2
  · have q := slicePick_size_le vs.toArray lo hi' st
    rw [slicePick] at q
    simpa using q
theorem count2_is {W : Nat} (hW : (0 : Int) < (W : Int)) (x : Int) : ∃ c : Nat, c < W ∧ x.fmod (W : Int) = (c : Int) := by
  have h0 := fmod_lo x hW
  have h1 := fmod_hi x hW
  exact ⟨(x.fmod W).toNat, by omega, by omega⟩
theorem led0 {h₀ h : Heap} {L : Addr} {sl num lt c6 c5 c4 c3 c2 c1 t80 : Addr × Obj} (N : News h₀ L h [sl, num, lt, c6, c5, c4, c3, c2, c1, (73, tabObj #[]), t80]) : News h₀ L h (tabL 73 pos73 none ++ [num, c6, c5, c4, c3, c2, c1, t80]) := fun p hp => N p (by
  simp only [tabL, List.singleton_append, List.mem_cons, List.not_mem_nil, or_false] at hp ⊢
  rcases hp with h | h | h | h | h | h | h | h | h <;> simp [h])
theorem led1 {h₀ h : Heap} {L : Addr} {fi f q num c6 c5 c4 c3 c2 c1 : Addr × Obj} (N : News h₀ L h (fi :: f :: (tabL 73 pos73 (some q) ++ [num, c6, c5, c4, c3, c2, c1, (80, tabObj #[])]))) (lt : ∀ p ∈ f :: (tabL 73 pos73 (some q) ++ [num, c6, c5, c4, c3, c2, c1, (80, tabObj #[])]), @LT.lt Nat _ p.1 fi.1) (hq : tabOk q73 (some q))
    (h80 : ∀ p ∈ [num, c6, c5, c4, c3, c2, c1], p.1 ≠ 80) (hf : ∀ p ∈ tabL 73 pos73 (some q) ++ [num, c6, c5, c4, c3, c2, c1, (80, tabObj #[])], p.1 ≠ f.1) :
    ∃ base, News h₀ L h (fi :: (tabL 80 pos80 none ++ base)) ∧ base = [f, q, (73, tabObj #[rawInt 44, rawInt 4, .ref q.1]), num, c6, c5, c4, c3, c2, c1] ∧ (∀ p ∈ base, @LT.lt Nat _ p.1 fi.1) ∧ @LT.lt Nat _ 80 fi.1 ∧ (∀ p ∈ base, p.1 ≠ 80) ∧
      f ∈ base ∧ q ∈ base ∧ (73, tabObj #[rawInt 44, rawInt 4, .ref q.1]) ∈ base ∧ num ∈ base ∧ c6 ∈ base ∧ c5 ∈ base ∧ c4 ∈ base ∧ c3 ∈ base ∧ c2 ∈ base ∧ c1 ∈ base := by
  refine ⟨_, fun p hp => N p ?_, rfl, fun p hp => lt p ?_, lt (80, tabObj #[]) ?_, ?_, ?_⟩
  · simp only [tabL, List.cons_append, List.nil_append, List.mem_cons, List.not_mem_nil, or_false] at hp ⊢
    rcases hp with h | h | h | h | h | h | h | h | h | h | h | h <;> simp [h]
  · simp only [tabL, List.cons_append, List.nil_append, List.mem_cons, List.not_mem_nil, or_false] at hp ⊢
    rcases hp with h | h | h | h | h | h | h | h | h | h <;> simp [h]
  · simp [tabL]
  · have m80 : ((80, tabObj #[]) : Addr × Obj) ∈ fi :: f :: (tabL 73 pos73 (some q) ++ [num, c6, c5, c4, c3, c2, c1, (80, tabObj #[])]) := by simp
    have hq80 : q.1 ≠ 80 := q80_ne N hq (by simp [tabL]) m80 (by intro t h; cases h)
    have hf80 : f.1 ≠ 80 := fun e => hf (80, tabObj #[]) (by simp) e.symm
    simp only [List.forall_mem_cons] at h80 ⊢
    exact ⟨hf80, hq80, by decide, h80⟩
  · simp
theorem ledQ {h₀ h : Heap} {L : Addr} {fi : Addr × Obj} {st : TSt} {O base : List (Addr × Obj)} {vs : List Value} {ps : List (Nat × Int)} (N : News h₀ L h (fi :: (tabL 80 pos80 st ++ O))) (hb : ∀ p ∈ base, p ∈ O) (hps : PairsIn O vs ps) :
    ∃ Zq, News h₀ L h Zq ∧ fi ∈ Zq ∧ (∀ p ∈ base, p ∈ Zq) ∧ PairsIn Zq vs ps ∧ ∃ v, (80, tabObj v) ∈ Zq := by
  refine ⟨_, N, .head _, fun p hp => .tail _ (List.mem_append_right _ (hb p hp)), hps.mono fun p hp => .tail _ (List.mem_append_right _ hp), ?_⟩
  cases st with
  | none => exact ⟨_, .tail _ (List.mem_append_left _ (.head _))⟩
  | some q => exact ⟨_, .tail _ (List.mem_append_left _ (.tail _ (.head _)))⟩
theorem good_all {n P W c : Nat} (hc : (n = 1 ∧ P = 5 ∧ W = 32) ∨ (n = 2 ∧ P = 3 ∧ W = 64)) (hcW : c < W) : ∀ p ∈ fsts n (dig n P (c : Int)) P, p.1 < P ∧ 0 ≤ p.2 ∧ p.2 < 2 ^ (n * P) ∧ (c : Int) / 2 ^ (n * (p.1 + 1)) = p.2 / 2 ^ (n * (p.1 + 1)) := by
  have hg : good n P c = true := by
    rcases hc with ⟨rfl, rfl, rfl⟩ | ⟨rfl, rfl, rfl⟩
    · exact good1 c hcW
    · exact good2 c hcW
  intro p hp
  have h := List.all_eq_true.mp hg p hp
  simp only [Bool.and_eq_true, decide_eq_true_eq] at h
  exact ⟨h.1.1.1, h.1.1.2, h.1.2, h.2⟩
theorem mul_spaces : ∀ c : Nat, c < 64 → Txt.mul (Str.ofString " ") (c : Int) ++ Str.ofString "\tx\t" = spaced c := by decide +kernel
theorem ledR {h₀ h : Heap} {L : Addr} {e1 e2 e3 e4 e5 : Addr × Obj} {Z : List (Addr × Obj)} (N : News h₀ L h (e1 :: e2 :: e3 :: e4 :: e5 :: Z)) : ∃ Zr, News h₀ L h Zr ∧ e1 ∈ Zr ∧ e2 ∈ Zr ∧ e3 ∈ Zr ∧ e4 ∈ Zr ∧ e5 ∈ Zr ∧ ∀ p ∈ Z, p ∈ Zr :=
  ⟨_, N, by simp, by simp, by simp, by simp, by simp, fun p hp => by simp [hp]⟩
def blocksTo (n c i : Nat) : Nat := ((List.range i).map fun j => c / 2 ^ (n * (j + 1))).sum
theorem blocksTo_succ (n c i : Nat) : blocksTo n c (i + 1) = blocksTo n c i + c / 2 ^ (n * (i + 1)) := by
  simp [blocksTo, List.range_succ]
theorem blk (b c : Nat) (hb : 1 ≤ b) : (0 + (b : Int) * (((c / b : Nat) : Int) + (0 + 1))).fdiv (b : Int) = ((c / b : Nat) : Int) + 1 := by
  rw [Int.fdiv_eq_ediv_of_nonneg _ (by omega), Int.zero_add, Int.zero_add, Int.mul_ediv_cancel_left _ (by omega)]
theorem place_pow {n i : Nat} : (1 : Int) * 2 ^ ((n : Int) * (1 + (i : Int))).toNat = ((2 ^ (n * (i + 1)) : Nat) : Int) := by
  rw [show (n : Int) * (1 + (i : Int)) = ((n * (i + 1) : Nat) : Int) by push_cast; rw [Int.add_comm], Int.toNat_natCast, Int.one_mul]
  push_cast; rfl
theorem place_nonneg {n i : Nat} : 0 ≤ (n : Int) * (1 + (i : Int)) := Int.mul_nonneg (by omega) (by omega)
theorem place_le {n P i : Nat} (h : n * P ≤ 8) (hi : i < P) : (n : Int) * (1 + (i : Int)) ≤ 1000000 := by
  have h2 : n * (i + 1) ≤ n * P := Nat.mul_le_mul_left n hi
  rw [show (n : Int) * (1 + (i : Int)) = ((n * (i + 1) : Nat) : Int) by push_cast; rw [Int.add_comm]]
  omega
theorem place_b {n P W i : Nat} (eW : (W : Int) = 2 ^ (n * P)) (hW : W ≤ 64) (hi : i < P) : 1 ≤ 2 ^ (n * (i + 1)) ∧ 2 ^ (n * (i + 1)) ≤ 64 := by
  have h1 : 1 ≤ 2 ^ (n * (i + 1)) := Nat.one_le_two_pow
  have h2 : 2 ^ (n * (i + 1)) ≤ 2 ^ (n * P) := Nat.pow_le_pow_right (by decide) (Nat.mul_le_mul_left n hi)
  have h3 : W = 2 ^ (n * P) := by exact_mod_cast eW
  omega
theorem len_law {n P W c : Nat} (hc : (n = 1 ∧ P = 5 ∧ W = 32) ∨ (n = 2 ∧ P = 3 ∧ W = 64)) (hcW : c < W) : ∃ B : Nat, (1 : Int) * 2 ^ ((n : Int)).toNat = (B : Int) ∧ B ≤ 4 ∧ ((fsts n (dig n P (c : Int)) P).length : Int) = (c : Int) - ((B : Int) - 1) * ((blocksTo n c P : Nat) : Int) := by
  rcases hc with ⟨rfl, rfl, rfl⟩ | ⟨rfl, rfl, rfl⟩
  · have h := len1 c hcW
    exact ⟨2, by decide, by decide, h⟩
  · have h := len2 c hcW
    exact ⟨4, by decide, by decide, h⟩
theorem shut_law {n P W c : Nat} (hc : (n = 1 ∧ P = 5 ∧ W = 32) ∨ (n = 2 ∧ P = 3 ∧ W = 64)) (hcW : c < W) (hn : n = 1 ∨ n = 2) (eW : (W : Int) = 2 ^ (n * P)) (tr : Int) {p : Nat × Int} (hp : p ∈ fsts n (dig n P (c : Int)) P) :
    mt (hostL n P tr (c : Int)) true (((hostL n P tr p.2).drop p.1).drop 1) = true := by
  have h := good_all hc hcW p hp
  have h2 := match_law (pl := p.1 + 1) hn tr (c : Int) p.2 (by omega) (by omega) (by rw [← eW]; omega) h.2.1 h.2.2.1
  rw [decide_eq_true (Nat.succ_pos p.1)] at h2
  rw [List.drop_drop, h2]
  exact decide_eq_true h.2.2.2
section
variable {prog : Program} {w : World} {A : Around} {E : Value → Shared → Prop} {s : Shared} {env : Env} {h₀ : Heap} {x : Str} {body : List Stmt} {Q : Flow → Shared → Prop}
theorem list_start {ax : Addr} {vs : List Value} {k : Nat} {m₀ : Str → Option Value} {news : List (Addr × Obj)}
    (hh : A.handled = none) (F : Fr h₀ env.locals s.heap m₀) (N : News h₀ env.locals s.heap news) (hm : (ax, W.listOf vs.toArray k) ∈ news)
    (rest₀ : ∀ I : Addr, (∀ p ∈ news, p.1 < I) → ∀ m₁, m₁ = m₀ → ListRest prog w A E h₀ env x body Q s I (ax, W.listOf vs.toArray k) vs m₁ news) :
    wpAny (model prog w) A (pyIter (.ref ax)) (fun it s₂ => LoopAtV prog w A h₀ env x body Q E it s₂) E s :=
  iter_listUnr hh F N hm rfl rfl fun I hI => rest₀ I hI _ rfl
end
section
variable {prog : Program} {w : World} {A : Around} {E : Value → Shared → Prop} {s : Shared}
theorem r_upper {b : Bool} {ds : List Nat} {t : Tok} {Q : Value → Shared → Prop} (hl : ds.length ≤ 20) (h : ∀ t' k, Q (.str (Txt.upper (txt b ds)) t') { s with toks := k }) : wpAny (model prog w) A (call (.builtin "str.upper") [.str (txt b ds) t]) Q E s :=
  KXw.upper rfl (by rw [up_len]; exact fit_txt b (by omega)) h
end
def Flag : Prop := True
section
variable {prog : Program} {w : World} {A : Around} {E : Value → Shared → Prop} {s : Shared} {h₀ : Heap} {L : Addr} {news : List (Addr × Obj)} {m : Str → Option Value}
theorem r_slice3 {value slice : Expr} {l : Addr} {vs : List Value} {ns : List Int} {k : Nat} {x y z : Int} {t1 t2 t3 : Tok} {ops : List Value} {Q : Value → Shared → Prop} (F : Fr h₀ L s.heap m) (N : News h₀ L s.heap news) (hm : (l, W.listOf vs.toArray k) ∈ news) (hi : IntsAre vs ns) (hz : z ≠ 0) (hl : vs.length ≤ 1000)
    (h : ∀ D ws ms h', Fr h₀ L h' m → News h₀ L h' ((D, W.listOf (List.toArray ws) 0) :: news) → (∀ p ∈ news, p.1 < D) → IntsAre ws ms → ws.length ≤ vs.length → Q (.ref D) { s with heap := h' })
    (hs : subscripted slice false (.ref l) (.ref s.heap.objs.size) = operate ops (getItem (.ref l) (.ref s.heap.objs.size))) (ht : ∀ r, letTemporaryGo value (.ref l) r = pure ()) :
    wpAny (model prog w) A (subscriptTail value slice (.ref l) (.ref s.heap.objs.size)) Q E { s with heap := s.heap.push { cls := .type "slice", data := .fields #[.int x t1, .int y t2, .int z t3] } } := by
  obtain ⟨ws, ms, e, hw, -, hwl⟩ := pick_ints hi (some x) (some y) (some z)
  exact kmk_slice3_lit (zs := ws) F N ⟨_, N.get hm, rfl, k, rfl⟩ (.int _ _) (.int _ _) (.int _ _) (by simpa using hz) (by rw [e]) (fun D h' F' N' l1 => h D ws ms h' F' N' l1 hw hwl) hs ht (by rw [sizeLine_eq, List.size_toArray]; omega)
end
theorem asked_ok {W : Nat} : ∀ {vs : List Value} {ns : List Int}, IntsAre vs ns → (∀ y ∈ ns, 0 ≤ y ∧ y < (W : Int)) → ∀ v ∈ vs, ∃ (a : Nat) (t : Tok), v = .int (a : Int) t ∧ a < W
  | _, _, .nil, _ => fun v hv => nomatch hv
  | _, _, .cons k t r, h => fun v hv => by
    rcases List.mem_cons.mp hv with rfl | hv
    · have := h k (.head _)
      exact ⟨k.toNat, t, by rw [Int.toNat_of_nonneg this.1], by omega⟩
    · exact asked_ok r (fun y hy => h y (.tail _ hy)) v hv
section
variable {prog : Program} {w : World} {A : Around} {s : Shared} {h₀ : Heap} {env : Env} {target : Expr} {body : List Stmt} {Q : Flow → Shared → Prop} {I : Addr} {lp : Addr × Obj}
theorem ForRest.nil {m : Str → Option Value} {news : List (Addr × Obj)} (h : ∀ h tk, Fr h₀ env.locals h m → News h₀ env.locals h news → Q .next { s with heap := h, toks := tk }) : ForRest prog w A h₀ env target body Q s I lp [] m news := h
theorem ForRest.cons {v : Value} {r : List Value} {m : Str → Option Value} {news : List (Addr × Obj)} (h : ∀ (it : Obj) h tk, Fr h₀ env.locals h m → News h₀ env.locals h ((I, it) :: news) →
      wpAny (model prog w) A (assign target env v) (fun _ s₂ => wpAny (model prog w) A (execs body env) (UnrPost h₀ env.locals { s with heap := h, toks := tk } I it (fun m' n' => lp ∈ n' ∧ ForRest prog w A h₀ env target body Q s I lp r m' n') Q) (fun _ _ => False) s₂) (fun _ _ => False) { s with heap := h, toks := tk }) :
    ForRest prog w A h₀ env target body Q s I lp (v :: r) m news := h
end
theorem split2 {h₀ h : Heap} {L : Addr} {x a b : Addr × Obj} {Z : List (Addr × Obj)} (N : News h₀ L h (x :: Z)) (ha : a ∈ Z) (hb : b ∈ Z) (hab : a.1 ≠ b.1) (hx : ∀ p ∈ Z, @LT.lt Nat _ p.1 x.1) :
    ∃ Z', News h₀ L h (x :: a :: b :: Z') ∧ (∀ p ∈ Z', p.1 ≠ a.1) ∧ (∀ p ∈ Z', p.1 ≠ b.1) ∧ (∀ p ∈ Z', @LT.lt Nat _ p.1 x.1) ∧ ∀ p ∈ Z, p.1 ≠ a.1 → p.1 ≠ b.1 → p ∈ Z' := by
  refine ⟨Z.filter fun p => decide (p.1 ≠ a.1) && decide (p.1 ≠ b.1), fun p hp => N p ?_, fun p hp => ?_, fun p hp => ?_, fun p hp => hx p (List.mem_filter.mp hp).1, fun p hp h1 h2 => List.mem_filter.mpr ⟨hp, by simp [h1, h2]⟩⟩
  · rcases List.mem_cons.mp hp with rfl | hp
    · exact .head _
    · rcases List.mem_cons.mp hp with rfl | hp
      · exact .tail _ ha
      · rcases List.mem_cons.mp hp with rfl | hp
        · exact .tail _ hb
        · exact .tail _ (List.mem_filter.mp hp).1
  · have h := (List.mem_filter.mp hp).2
    simp only [Bool.and_eq_true, decide_eq_true_eq] at h
    exact h.1
  · have h := (List.mem_filter.mp hp).2
    simp only [Bool.and_eq_true, decide_eq_true_eq] at h
    exact h.2
theorem cell_apart {h₀ h : Heap} {L : Addr} {a p : Addr × Obj} {Z : List (Addr × Obj)} {c : Option Value} (N : News h₀ L h Z) (ha : a ∈ Z) (hp : p ∈ Z) (da : a.2.data = .cell c) (dp : ∀ v, p.2.data ≠ .cell v) : p.1 ≠ a.1 :=
  apartD N hp ha fun e => dp c (e.trans da)
theorem PairsIn.filter {Z Z' : List (Addr × Obj)} {vs : List Value} {ps : List (Nat × Int)} (h : PairsIn Z vs ps) (hz : ∀ p ∈ Z, (∀ v, p.2.data ≠ .cell v) → p ∈ Z') : PairsIn Z' vs ps := by
  induction h with
  | nil => exact .nil
  | cons h _ ih => exact .cons (hz _ h fun v e => nomatch e) ih
section
variable {prog : Program} {w : World} {A : Around} {E : Value → Shared → Prop} {s : Shared} {h₀ : Heap} {L : Addr} {news : List (Addr × Obj)} {m : Str → Option Value}
theorem r_from {value slice : Expr} {l : Addr} {vs : List Value} {ns : List Int} {k : Nat} {x : Int} {t : Tok} {Q : Value → Shared → Prop} (F : Fr h₀ L s.heap m) (N : News h₀ L s.heap news) (hm : (l, W.listOf vs.toArray k) ∈ news) (hi : IntsAre vs ns) (hx : 0 ≤ x) (hl : vs.length ≤ 1000)
    (h : ∀ D ws h', Fr h₀ L h' m → News h₀ L h' ((D, W.listOf (List.toArray ws) 0) :: news) → (∀ p ∈ news, p.1 < D) → IntsAre ws (ns.drop x.toNat) → Q (.ref D) { s with heap := h' })
    (hs : subscripted slice false (.ref l) (.ref s.heap.objs.size) = operate [.ref s.heap.objs.size, .ref l] (getItem (.ref l) (.ref s.heap.objs.size))) (ht : ∀ r, letTemporaryGo value (.ref l) r = pure ()) :
    wpAny (model prog w) A (subscriptTail value slice (.ref l) (.ref s.heap.objs.size)) Q E { s with heap := s.heap.push { cls := .type "slice", data := .fields #[.int x t, .none, .none] } } :=
  kmk_slice_ints F N ⟨_, N.get hm, rfl, k, rfl⟩ (.int _ _) .none hi (kmk_from hi hx) rfl (fun D ws h' F' N' l1 hI _ _ => h D ws h' F' N' l1 hI) hs ht (by rw [sizeLine_eq, List.size_toArray]; omega)
end
theorem led2 {h₀ h : Heap} {L : Addr} {a b c d : Addr × Obj} {T O : List (Addr × Obj)} (N : News h₀ L h (a :: b :: c :: d :: (T ++ O))) : News h₀ L h (T ++ (a :: b :: c :: d :: O)) := fun p hp => N p (by
  simp only [List.mem_append, List.mem_cons] at hp ⊢
  rcases hp with h | h | h | h | h | h <;> simp [h])
theorem led3 {h₀ h : Heap} {L : Addr} {a b c d : Addr × Obj} {T O : List (Addr × Obj)} (N : News h₀ L h (T ++ (a :: b :: c :: d :: O))) : News h₀ L h (b :: c :: d :: (T ++ O)) := fun p hp => N p (by
  simp only [List.mem_append, List.mem_cons] at hp ⊢
  rcases hp with h | h | h | h | h <;> simp [h])
theorem led4 {h₀ h : Heap} {L : Addr} {a b c d : Addr × Obj} {Z : List (Addr × Obj)} (N : News h₀ L h (a :: b :: c :: d :: Z)) : News h₀ L h (d :: a :: b :: c :: Z) := fun p hp => N p (by
  simp only [List.mem_cons] at hp ⊢
  rcases hp with h | h | h | h | h <;> simp [h])
theorem tab_off {st : TSt} {q8 : Addr × Obj} {others O' : List (Addr × Obj)} {e : Addr × Obj} (hsm : ∀ z, st = some z → z = q8) (hsn : st = none → ∀ p ∈ O', @LT.lt Nat _ p.1 q8.1) (hm : e ∈ O') (off : ∀ p ∈ tabL 80 pos80 st ++ others, p.1 ≠ e.1) :
    ∀ p ∈ tabL 80 pos80 (some q8) ++ others, p.1 ≠ e.1 := by
  intro p hp
  rcases List.mem_append.mp hp with hp | hp
  · cases st with
    | none =>
      simp only [tabL, List.mem_cons, List.not_mem_nil, or_false] at hp
      rcases hp with rfl | rfl
      · exact Nat.ne_of_gt (hsn rfl e hm)
      · exact off (80, tabObj #[]) (by simp [tabL])
    | some z =>
      obtain rfl := hsm z rfl
      exact off p (List.mem_append_left _ hp) |> fun h => by
        simp only [tabL, List.mem_cons, List.not_mem_nil, or_false] at hp ⊢
        exact h
  · exact off p (List.mem_append_right _ hp)
theorem fsts_len {n P : Nat} (hn : n = 1 ∨ n = 2) (c : Int) : ∀ i : Nat, (fsts n (dig n P c) i).length ≤ 3 * i
  | 0 => Nat.le_refl _
  | i + 1 => by
    have h := fsts_len (P := P) hn c i
    have h2 := dig_get_bound (P := P) hn c i
    rw [fsts_succ, List.length_append, List.length_map, List.length_range]
    omega
theorem one_snd (n : Nat) (figs : List Int) (i j : Nat) : undig n (List.replicate i 0 ++ [(j : Int)] ++ List.drop ((i : Int) + 1).toNat figs) = (one n figs i j).2 := by
  rw [show ((i : Int) + 1).toNat = i + 1 by omega]; rfl
theorem one_bound {n P : Nat} (hn : n = 1 ∨ n = 2) (c : Int) (i j : Nat) (hj : (j : Int) < 2 ^ n) : ∀ y ∈ List.replicate i 0 ++ [(j : Int)] ++ List.drop ((i : Int) + 1).toNat (dig n P c), 0 ≤ y ∧ y < 2 ^ n := by
  intro y hy
  simp only [List.mem_append, List.mem_replicate, List.mem_singleton] at hy
  rcases hy with (⟨-, rfl⟩ | rfl) | hy
  · exact ⟨Int.le_refl _, pow2_pos n⟩
  · exact ⟨Int.natCast_nonneg _, hj⟩
  · obtain ⟨k, -, rfl⟩ := List.mem_map.mp (List.mem_of_mem_drop hy)
    exact ⟨Int.emod_nonneg _ (Int.ne_of_gt (pow2_pos n)), Int.emod_lt_of_pos _ (pow2_pos n)⟩
theorem unr_inner {h₀ : Heap} {L I2 : Addr} {it : Obj} {rest : (Str → Option Value) → List (Addr × Obj) → Prop} {s₁ : Shared} {h' : Heap} {tk : Nat} {m' : Str → Option Value} {fi Dp i1 : Addr × Obj} {T O : List (Addr × Obj)} (F : Fr h₀ L h' m') (N : News h₀ L h' (fi :: Dp :: (I2, it) :: i1 :: (T ++ O)))
    (o1 : i1.1 ≠ I2) (o2 : fi.1 ≠ I2) (o3 : Dp.1 ≠ I2) (o4 : ∀ p ∈ T ++ O, p.1 ≠ I2) (r : rest m' (i1 :: fi :: (T ++ (Dp :: O)))) : UnrEnd h₀ L s₁ I2 it rest { s₁ with heap := h', toks := tk } :=
  UnrEnd.intro F N _ (fun p hp => by
    simp only [List.mem_append, List.mem_cons] at hp ⊢
    rcases hp with h | h | h | h | h | h <;> simp [h]) (fun p hp => by
    simp only [List.mem_append, List.mem_cons] at hp o4
    rcases hp with rfl | rfl | h | rfl | h
    · exact o1
    · exact o2
    · exact o4 p (.inl h)
    · exact o3
    · exact o4 p (.inr h)) r
theorem off_mid {T O : List (Addr × Obj)} {e : Addr × Obj} {a : Addr} (h : ∀ p ∈ T ++ O, p.1 ≠ a) (he : e.1 ≠ a) : ∀ p ∈ T ++ (e :: O), p.1 ≠ a := fun p hp => by
  simp only [List.mem_append, List.mem_cons] at hp h
  rcases hp with hp | rfl | hp
  · exact h p (.inl hp)
  · exact he
  · exact h p (.inr hp)
theorem lt2 {a b : Addr × Obj} {D : Addr} {Z : List (Addr × Obj)} (h : ∀ p ∈ a :: b :: Z, @LT.lt Nat _ p.1 D) : ∀ p ∈ Z, @LT.lt Nat _ p.1 D := fun p hp => h p (.tail _ (.tail _ hp))
theorem lt3 {a b c : Addr × Obj} {D : Addr} {Z : List (Addr × Obj)} (h : ∀ p ∈ a :: b :: c :: Z, @LT.lt Nat _ p.1 D) : ∀ p ∈ Z, @LT.lt Nat _ p.1 D := fun p hp => h p (.tail _ (.tail _ (.tail _ hp)))
theorem drop2 {h₀ h : Heap} {L : Addr} {d a b : Addr × Obj} {Z : List (Addr × Obj)} (N : News h₀ L h (d :: a :: b :: Z)) : News h₀ L h (d :: Z) := fun p hp => N p (by
  rcases List.mem_cons.mp hp with h | h
  · rw [h]; exact .head _
  · exact .tail _ (.tail _ (.tail _ h)))
theorem drop3 {h₀ h : Heap} {L : Addr} {d a b c : Addr × Obj} {Z : List (Addr × Obj)} (N : News h₀ L h (d :: a :: b :: c :: Z)) : News h₀ L h (d :: Z) := fun p hp => N p (by
  rcases List.mem_cons.mp hp with h | h
  · rw [h]; exact .head _
  · exact .tail _ (.tail _ (.tail _ (.tail _ h))))
section
local macro_rules | `(tactic| walk_at "call type:range") => `(tactic| (k_here; (rename Fr _ _ _ _ => F'); (rename News _ _ _ _ => N'); first | (with_unfolding_all refine range1_rows F' N' ?_; intro _ _ _ _ _ _ _ _ _) | (with_unfolding_all refine range2_rows F' N' ?_; intro _ _ _ _ _ _ _ _ _)))
local macro_rules | `(tactic| k_mem) => `(tactic| first | assumption | exact .tail _ (by assumption) | exact .tail _ (.tail _ (by assumption)) | exact .tail _ (.tail _ (.tail _ (by assumption))) | exact .tail _ (.tail _ (.tail _ (.tail _ (by assumption)))) | exact .tail _ (.tail _ (.tail _ (.tail _ (.tail _ (by assumption))))))
local macro_rules | `(tactic| walk_at "subscriptTail Name Name ref int") => `(tactic| (k_here; k_dflt (refine' r_item ?k1 ?k2 ?k3 ?k4 ?k5 ?k6 ?_; (case k1 => k_asm); (case k2 => k_mem); (case k3 => assumption); (case k4 => omega); (case k5 => omega); (case k6 => omega); k_whole; intro t9)))
local macro_rules | `(tactic| walk_at "subscriptTail Name Slice ref ref") => `(tactic| (k_here; (with_reducible show wpAny _ _ (subscriptTail _ (PySem.Expr.Slice (some _) none none _) (Value.ref _) (Value.ref _)) _ _ _); k_dflt (refine' r_from ?F ?N ?l ?i ?x ?z ?_ ?s ?t; (case F => k_asm); (case N => k_asm); (case l => k_mem); (case i => assumption); (case x => omega); (case z => omega); (case s => with_unfolding_all rfl); (case t => kmk_pure)); intro D' ws' h' F' N' l1 hI'))
local macro_rules | `(tactic| walk_at "UnrEnd") => `(tactic| refine hold ?_)
local macro_rules | `(tactic| walk_at "call builtin:list.append") => `(tactic| (k_here; refine hold ?_))
local macro_rules | `(tactic| walk_at "binaryOp Add ref ref") => `(tactic| (k_here; (with_reducible show wpAny _ _ (binaryOp _ (Value.ref _) (Value.ref _)) _ _ _); refine hold ?_))
local macro_rules | `(tactic| walk_at "binaryOp Mult ref int") => `(tactic| (k_here; (with_reducible show wpAny _ _ (binaryOp _ (Value.ref _) (Value.int _ _)) _ _ _); k_dflt (refine' r_zeros ?k1 ?k2 ?k3 ?k4 ?k5 ?_; (case k1 => k_asm); (case k2 => k_asm); (case k3 => exact .head _); (case k4 => rfl); (case k5 => omega); k_whole; intro D' h' F' N' l1)))
local macro_rules | `(tactic| walk_at "exec Assign cons ListComp") => `(tactic| (k_here; lcp_look; lcg_calm; k_dflt (refine Assign_ListComp_L (F₀ := by k_asm) (by rfl) (by with_unfolding_all rfl) (by with_unfolding_all rfl) (by decide) (by rfl) (by decide) (by rfl) (by rfl) (by decide) (by rfl) (by rfl) ?_)))
local macro_rules | `(tactic| walk_at "eval ListComp") => `(tactic| (k_here; lcp_look; lcg_calm; k_dflt (refine ListComp_L (F₀ := by k_asm) (by with_unfolding_all rfl) (by decide) (by rfl) (by decide) (by rfl) (by rfl) (by decide) ?_)))
local macro_rules | `(tactic| walk_at "exec For Name BinOp cons nil") => `(tactic| (k_here; (with_reducible rename Flag => hfl9); (with_reducible rename Fr _ _ _ _ => lF'); with_unfolding_all refine for_list lF' ?_))
local macro_rules | `(tactic| walk_at "exec For") => `(tactic| (k_here; (with_reducible rename Flag => hfl9); (with_reducible rename Fr _ _ _ _ => lF'); with_unfolding_all refine for_list lF' ?_))
local macro_rules | `(tactic| walk_at "subscriptTail Name Slice ref ref") => `(tactic| (k_here; (with_reducible rename Flag => hfl9); refine hold ?_))
local macro_rules | `(tactic| walk_at "CompSrc") => `(tactic| ((with_reducible rename Flag => hfl9); refine hold ?_))
local macro_rules | `(tactic| walk_at "binaryOp RShift int int") => `(tactic| (k_here; (with_reducible rename Flag => hfl9); refine hold ?_))
local macro_rules | `(tactic| walk_at "compareOp NotEq ref ref") => `(tactic| (k_here; (with_reducible rename Flag => hfl9); refine hold ?_))
local macro_rules | `(tactic| walk_at "last subscriptTail") => `(tactic| (k_here; (with_reducible rename Flag => hfl9); refine hold ?_))
local macro_rules | `(tactic| walk_at "CompSrcT") => `(tactic| ((with_reducible rename Flag => hfl9); refine hold ?_))
local macro_rules | `(tactic| walk_at "PEnd") => `(tactic| ((with_reducible rename Flag => hfl9); refine hold ?_))
local macro_rules | `(tactic| walk_at "FinA") => `(tactic| ((with_reducible rename Flag => hfl9); refine hold ?_))
local macro_rules | `(tactic| walk_at "FinE") => `(tactic| ((with_reducible rename Flag => hfl9); refine hold ?_))
local macro_rules | `(tactic| walk_at "CompEnd") => `(tactic| ((with_reducible rename Flag => hfl9); refine hold ?_))
local macro_rules | `(tactic| walk_at "eval ListComp") => `(tactic| (k_here; (with_reducible rename Flag => hfl9); refine hold ?_))
local macro_rules | `(tactic| walk_at "exec Assign cons ListComp") => `(tactic| (k_here; (with_reducible rename Flag => hfl9); k_dflt (refine LCg.Assign_ListComp_U (F₀ := by k_asm) (by rfl) (by with_unfolding_all rfl) (by with_unfolding_all rfl) (by decide) (by rfl) (by decide) (by rfl) (by rfl) (by rfl) ?_)))
local macro_rules | `(tactic| k_all) => `(tactic| first | assumption | (refine allNe (by assumption) ?_; first | exact Nat.le_refl _ | omega))
local macro_rules | `(tactic| walk_at "call builtin:str.upper") => `(tactic| (k_here; (with_reducible show wpAny _ _ (call (Value.builtin "str.upper") [Value.str (txt _ _) _]) _ _ _); refine r_upper (by rw [host_len]; omega) ?_; intro _ _))
local macro_rules | `(tactic| walk_at "compareOp NotEq int int") => `(tactic| (k_here; refine hold ?_))
local macro_rules | `(tactic| walk_at "call builtin:len") => `(tactic| (k_here; k_dflt (refine' r_len ?k1 ?k2 ?k3 ?k4 ?_; (case k1 => k_asm); (case k2 => k_mem); (case k3 => exact rfl); (case k4 => omega); k_whole; intro t9 tk9)))
local macro_rules | `(tactic| walk_at "call ref") => `(tactic| (k_here; (with_reducible show wpAny _ _ (call (Value.ref _) (_ :: _)) _ _ _); refine hold ?_))
local macro_rules | `(tactic| walk_at "call builtin:sum") => `(tactic| (k_here; refine hold ?_))
local macro_rules | `(tactic| walk_at "pyIter ref") => `(tactic| (k_here; (with_reducible show wpAny _ _ (pyIter (Value.ref _)) (fun it s₂ => LoopAtV _ _ _ _ _ _ _ _ _ it s₂) _ _); refine hold ?_))
local macro_rules | `(tactic| walk_at "binaryOp LShift int int") => `(tactic| (k_here; refine hold ?_))
theorem law : PySem.Challenge.rw_xg0082_01.Holds := hd (by
  w_strict (k_go0; (all_goals try k_fold); k_steps
            unfold Hold
            rename IntsAre ys _ => hys0
            obtain ⟨nums, hys, hpos, hl63⟩ : ∃ nums, IntsAre ys nums ∧ (∀ y ∈ nums, 0 ≤ y) ∧ nums.length ≤ 63 := ⟨_, hys0, fun y hy => by
              obtain ⟨z, -, rfl⟩ := List.mem_map.mp hy
              exact fmod_lo z (by decide), by rw [List.length_map, List.length_take]; omega⟩
            clear hys0
            rename News _ _ _ _ => N9
            rename Fr _ _ _ _ => F9
            refine r_sum rfl F9 N9 (.head _) hys ?_
            clear F9 N9
            intro h1 tk1 t1 F1 N1
            obtain ⟨S, hS⟩ : ∃ S, S = nums.sum := ⟨_, rfl⟩
            rw [← hS]
            obtain ⟨n, hn, en⟩ := width_is S
            dsimp only
            k_steps
            unfold Hold
            obtain ⟨P, W, hc, eP, hs0, hs1, eW, eW2⟩ := places_is hn
            simp only [en, eP] at *
            rename News _ _ _ _ => N9
            rename Fr _ _ _ _ => F9
            refine r_sum rfl F9 N9 (.head _) hys ?_
            clear F9 N9
            intro h2 tk2 t2 F2 N2
            rw [← hS]
            dsimp only
            k_steps
            unfold Hold
            obtain ⟨tr, htr0, htr4, etr⟩ := turn_is (S.fdiv 2)
            have hW0 : (W : Int) ≠ 0 := by omega
            have hW1 : (0 : Int) < (W : Int) := by omega
            simp only [etr] at *
            clear hS etr
            refine lshift_int_small hs0 hs1 (by decide) ?_
            rw [eW]
            dsimp only
            k_steps
            unfold Hold
            obtain ⟨ws, ms, ews, hws, -, hwl⟩ := pick_ints hys none none (some 2)
            rename News _ _ _ _ => N9
            rename Fr _ _ _ _ => F9
            rw [ews] at N9
            refine r_sum rfl F9 N9 (.head _) hws ?_
            clear F9 N9
            intro h3 tk3 t3 F3 N3
            obtain ⟨S2, hS2⟩ : ∃ S, S = ms.sum := ⟨_, rfl⟩
            rw [← hS2]
            clear hS2 hws hwl ews
            obtain ⟨c, hcW, ec⟩ := count2_is hW1 (11 + S2)
            dsimp only
            k_steps
            unfold Hold
            simp only [ec] at *
            clear ec
            rename News _ _ _ _ => N9
            rename Fr _ _ _ _ => F9
            have hnP : n * P ≤ 8 ∧ P ≤ 8 ∧ 1 ≤ P := by rcases hc with ⟨rfl, rfl, rfl⟩ | ⟨rfl, rfl, rfl⟩ <;> decide
            have hcx : (c : Int) < 2 ^ (n * P) := by rw [← eW2]; omega
            refine Ctr.use (c_fig _ n hn c P _ _ _ _ _ none rfl trivial ?r73 (by omega) (by omega) hcx) (by k_asm) F9 (by k_asm) (led0 N9) (by k_asm) rfl (by assumption) (by assumption) ?g1 ?g2 ?_
            case g1 => decide +kernel
            case g2 => decide +kernel
            case r73 =>
              simp only [List.forall_mem_cons]
              refine ⟨?_, ?_, ?_, ?_, ?_, ?_, ?_, ?_, fun _ h => nomatch h⟩ <;> k_ne
            clear F9 N9
            intro r9 n9 h9 tk9 F9 N9 hgot
            obtain ⟨Df, fv, fk, q, hr9, hfi, hq73, hDf, -, hn9⟩ := hgot
            subst hr9 hn9
            dsimp only
            k_steps
            unfold Hold
            rename IsRange _ _ _ _ _ _ _ _ => rgX
            rename News _ _ _ _ => N9
            rename Fr _ _ _ _ => F9
            obtain ⟨base, NB, -, hblt, h80f, hb80, mf, mq, m73, mn, m6, m5, m4, m3, m2, m1⟩ := led1 N9 (tb_ltOf (by assumption)) hq73 (by simp only [List.forall_mem_cons]; refine ⟨?_, ?_, ?_, ?_, ?_, ?_, ?_, fun _ h => nomatch h⟩ <;> k_ne) hDf
            refine range_start rfl rgX (small_one (by omega) (by omega) (by omega) (by omega)) F9 NB ?_
            clear F9 N9 NB rgX
            intro I1 hI1 m₁ hm₁
            have hfirsts := (congrFun hm₁ (Str.ofString "firsts")).trans (if_pos rfl)
            have hfigures := (congrFun hm₁ (Str.ofString "figures")).trans ((if_neg (by decide)).trans (if_pos rfl))
            have hcount := (congrFun hm₁ (Str.ofString "count")).trans ((if_neg (by decide)).trans ((if_neg (by decide)).trans (if_pos rfl)))
            have hnumbers := (congrFun hm₁ (Str.ofString "numbers")).trans ((if_neg (by decide)).trans ((if_neg (by decide)).trans ((if_neg (by decide)).trans (if_pos rfl))))
            clear hm₁
            have hvl : fv.length = P := by rw [hfi.length, dig_len]
            refine (?H : ∀ (k i : Nat) (st : TSt) (others : List (Addr × Obj)) (vs : List Value) (kf : Nat) (m' : Str → Option Value), k + i = P → tabOk q80 st → (∀ p ∈ base, p ∈ others) → (∀ p ∈ others, p.1 ≠ 80) → (∀ p ∈ tabL 80 pos80 st ++ others, p.1 ≠ _) → (∀ p ∈ tabL 80 pos80 st ++ others, p.1 ≠ I1) → PairsIn others vs (fsts n (dig n P c) i) →
              m' (Str.ofString "firsts") = m₁ (Str.ofString "firsts") → m' (Str.ofString "figures") = m₁ (Str.ofString "figures") → m' (Str.ofString "count") = m₁ (Str.ofString "count") → m' (Str.ofString "numbers") = m₁ (Str.ofString "numbers") →
              RangeRest _ _ _ _ _ _ _ _ _ _ _ _ _ k i m' ((_, PySem.W.listOf vs.toArray kf) :: (tabL 80 pos80 st ++ others))) _ 0 none base [] 0 _ (by omega) trivial (fun p hp => hp) hb80 ?o1 (fun p hp => Nat.ne_of_lt (hI1 p (.tail _ hp))) .nil rfl rfl rfl rfl
            case o1 =>
              intro p hp
              rcases List.mem_append.mp hp with hp | hp
              · rw [List.mem_singleton.mp hp]; exact Nat.ne_of_lt h80f
              · exact Nat.ne_of_lt (hblt p hp)
            intro k
            induction k with
            | zero =>
              intro i st others vs kf m' hki hst hbo ho80 hofi hoI hps hm1 hm2 hm3 hm4
              refine RangeRest.zero (fun h' tk' F' N' => ?_)
              obtain rfl : i = P := by omega
              replace F' := Fr.tell F' (x := Str.ofString "numbers") (hm4.trans hnumbers)
              replace F' := Fr.tell F' (x := Str.ofString "count") ((if_neg (by decide)).trans (hm3.trans hcount))
              replace F' := Fr.tell F' (x := Str.ofString "firsts") ((if_neg (by decide)).trans ((if_neg (by decide)).trans (hm1.trans hfirsts)))
              have hvl2 := hps.length
              have hfl := fsts_len (P := i) hn (c : Int) i
              have hgood := good_all hc hcW
              obtain ⟨Zq, NZ, zfi, zb, zps, v80, z80⟩ := ledQ N' hbo hps
              clear N' hbo ho80 hofi hoI hps hst
              have z1 := zb _ m1
              have z2 := zb _ m2
              have z3 := zb _ m3
              have z4 := zb _ m4
              have z5 := zb _ m5
              have z6 := zb _ m6
              have zq := zb _ mq
              have z73 := zb _ m73
              have zn := zb _ mn
              clear zb m1 m2 m3 m4 m5 m6 mq m73 mn mf
              dsimp only
              k_steps
              rename News _ _ _ _ => N9
              rename Fr _ _ _ _ => F9
              refine SrcPairs.of (fun k ys => DomsAre n i tr ys ((fsts n (dig n i c) i).take k)) rfl F9 N9 zfi ?size .nil ?turn ?fin
              case size => rw [sizeLine_eq, List.size_toArray]; omega
              case turn =>
                clear F9 N9
                intro g k ys hk hG
                rw [List.size_toArray] at hk
                obtain ⟨D, pl, x, t1, t2, kk, hv, hp, hm⟩ := zps.get (i := k) (by omega)
                refine ⟨D, _, _, kk, by simpa using hv, hm, ?_⟩
                intro I oI C oC Da m₂ h tk E' hC hx hy F' N' off
                have hgp := hgood _ (List.mem_of_getElem? hp)
                dsimp only at hgp
                k_steps
                unfold Hold
                refine Ctr.use (c_hostH _ n hn x tr i _ _ _ _ _ q hq73 (.tail _ (.tail _ (.tail _ zq))) (.tail _ (.tail _ (.tail _ z73))) hgp.2.1 (by omega) hgp.2.2.1 htr0 htr4) (by k_asm) F' (by k_asm) N' (by k_asm) rfl (by assumption) (by assumption) (by decide +kernel) (by decide +kernel) ?_
                intro r9 n9 h9 tk9 F9 N9 hgot
                obtain ⟨hn9, t9, hr9⟩ := hgot
                subst hn9 hr9
                clear F' N'
                dsimp only
                k_steps
                unfold Hold
                refine CtrS.use (c_up2 _ (hostL n i tr x) pl (by rw [host_len]; omega) (by rw [host_len]; omega) _ _) (by k_asm) F9 (by k_asm) N9 (by k_asm) rfl (by assumption) (by assumption) (by decide +kernel) (by decide +kernel) ?_
                intro r8 h8 tk8 F8 N8 hgot
                obtain ⟨t8, hr8⟩ := hgot
                subst hr8
                dsimp only
                k_steps
                refine PEnd.intro F8 N8 ?_
                show DomsAre _ _ _ _ _
                rw [take_snoc hp]
                exact DomsAre.snoc (p := (pl, x)) hG
              case fin =>
                clear F9 N9
                intro g ys hG Dd h tk F' N' off
                rw [List.size_toArray, List.take_of_length_le (by omega)] at hG
                have hyl := hG.length
                dsimp only
                k_steps
                unfold Hold
                rw [mul_spaces c (by omega)]
                refine Ctr.use (c_ws _ c (by omega) _ _) (by k_asm) F' (by k_asm) N' (by k_asm) rfl (by assumption) (by assumption) (by decide +kernel) (by decide +kernel) ?_
                clear F' N'
                intro r9 n9 h9 tk9 F9 N9 hgot
                obtain ⟨xw, dw, T, T1, vs2, ka, kb, kc, kd, ke, tn, tt, bv, kk, t1w, t2w, hr9, hvs2, hn9⟩ := hgot
                subst hn9 hr9
                obtain ⟨Zr, NR, y1, y2, y3, y4, yd, yz⟩ := ledR N9
                clear N9
                replace z1 := yz _ z1
                replace z2 := yz _ z2
                replace z3 := yz _ z3
                replace z4 := yz _ z4
                replace z5 := yz _ z5
                replace z6 := yz _ z6
                replace zq := yz _ zq
                replace z73 := yz _ z73
                replace z80 := yz _ z80
                replace zn := yz _ zn
                replace zfi := yz _ zfi
                replace zps := zps.mono yz
                clear yz off
                dsimp only
                k_steps
                unfold Hold
                rename IsRange _ _ _ _ _ _ _ _ => rgX
                rename News _ _ _ _ => N9
                rename Fr _ _ _ _ => F9
                refine range_start rfl rgX (small_one (by omega) (by omega) (by omega) (by omega)) F9 N9 ?_
                clear F9 N9 rgX
                intro I3 hI3 m₃ hm₃
                have g1 := (congrFun hm₃ (Str.ofString "indent")).trans ((if_neg (by decide)).trans (if_pos rfl))
                have g2 := (congrFun hm₃ (Str.ofString "domains")).trans ((if_neg (by decide)).trans ((if_neg (by decide)).trans (if_pos rfl)))
                have g3 := (congrFun hm₃ (Str.ofString "firsts")).trans ((if_neg (by decide)).trans ((if_neg (by decide)).trans ((if_neg (by decide)).trans (if_pos rfl))))
                have g4 := (congrFun hm₃ (Str.ofString "count")).trans ((if_neg (by decide)).trans ((if_neg (by decide)).trans ((if_neg (by decide)).trans ((if_neg (by decide)).trans (if_pos rfl)))))
                have g5 := (congrFun hm₃ (Str.ofString "numbers")).trans ((if_neg (by decide)).trans ((if_neg (by decide)).trans ((if_neg (by decide)).trans ((if_neg (by decide)).trans ((if_neg (by decide)).trans (if_pos rfl))))))
                obtain ⟨tb0, g6⟩ : ∃ t, m₃ (Str.ofString "blocks") = some (.int ((blocksTo n c 0 : Nat) : Int) t) := ⟨_, (congrFun hm₃ (Str.ofString "blocks")).trans (if_pos rfl)⟩
                clear hm₃
                refine (?H3 : ∀ (k3 j : Nat) (tb : Tok) (m' : Str → Option Value), k3 + j = (((i : Int) + 1) - 1).toNat → m' (Str.ofString "blocks") = some (.int ((blocksTo n c j : Nat) : Int) tb) → m' (Str.ofString "indent") = m₃ (Str.ofString "indent") → m' (Str.ofString "domains") = m₃ (Str.ofString "domains") →
                  m' (Str.ofString "firsts") = m₃ (Str.ofString "firsts") → m' (Str.ofString "count") = m₃ (Str.ofString "count") → m' (Str.ofString "numbers") = m₃ (Str.ofString "numbers") → RangeRest _ _ _ _ _ _ _ _ _ _ _ _ _ k3 j m' Zr) _ 0 tb0 _ rfl g6 rfl rfl rfl rfl rfl
                intro k3
                induction k3 with
                | zero =>
                  intro j tb m' hkj hb hq1 hq2 hq3 hq4 hq5
                  obtain rfl : j = i := by omega
                  refine RangeRest.zero (fun h' tk' F' N' => ?_)
                  replace F' := Fr.tell F' (x := Str.ofString "numbers") (hq5.trans g5)
                  replace F' := Fr.tell F' (x := Str.ofString "count") ((if_neg (by decide)).trans (hq4.trans g4))
                  replace F' := Fr.tell F' (x := Str.ofString "firsts") ((if_neg (by decide)).trans ((if_neg (by decide)).trans (hq3.trans g3)))
                  replace F' := Fr.tell F' (x := Str.ofString "domains") ((if_neg (by decide)).trans ((if_neg (by decide)).trans ((if_neg (by decide)).trans (hq2.trans g2))))
                  replace F' := Fr.tell F' (x := Str.ofString "blocks") ((if_neg (by decide)).trans ((if_neg (by decide)).trans ((if_neg (by decide)).trans ((if_neg (by decide)).trans hb))))
                  clear g1 g2 g3 g4 g5 g6 y1 y2 y3 y4 hvs2
                  dsimp only
                  k_steps
                  unfold Hold
                  obtain ⟨B, hB, hB4, hlaw⟩ := len_law hc hcW
                  refine lshift_int_small (by omega) (by omega) (by decide) ?_
                  rw [hB]
                  dsimp only
                  k_steps
                  unfold Hold
                  refine ne_int ?_
                  rw [hyl, ← hlaw, bne_self_eq_false]
                  dsimp only
                  k_steps
                  unfold Hold
                  rename News _ _ _ _ => N9
                  rename Fr _ _ _ _ => F9
                  refine Ctr.use (c_hostH _ n hn (c : Int) tr j _ _ _ _ _ q hq73 zq z73 (by omega) (by omega) hcx htr0 htr4) (by k_asm) F9 (by k_asm) N9 (by k_asm) rfl (by assumption) (by assumption) (by decide +kernel) (by decide +kernel) ?_
                  clear F9 N9
                  intro r9 n9 h9 tk9 F9 N9 hgot
                  obtain ⟨hn9, ts, hr9⟩ := hgot
                  subst hn9 hr9
                  dsimp only
                  k_steps
                  unfold Hold
                  rename News _ _ _ _ => N9
                  rename Fr _ _ _ _ => F9
                  refine list_start rfl F9 N9 yd ?_
                  clear F9 N9
                  intro I4 hI4 m₄ hm₄
                  have f1 := (congrFun hm₄ (Str.ofString "shut")).trans (if_pos rfl)
                  have f2 := (congrFun hm₄ (Str.ofString "domains")).trans ((if_neg (by decide)).trans ((if_neg (by decide)).trans (if_pos rfl)))
                  have f3 := (congrFun hm₄ (Str.ofString "firsts")).trans ((if_neg (by decide)).trans ((if_neg (by decide)).trans ((if_neg (by decide)).trans (if_pos rfl))))
                  have f4 := (congrFun hm₄ (Str.ofString "count")).trans ((if_neg (by decide)).trans ((if_neg (by decide)).trans ((if_neg (by decide)).trans ((if_neg (by decide)).trans (if_pos rfl)))))
                  have f5 := (congrFun hm₄ (Str.ofString "numbers")).trans ((if_neg (by decide)).trans ((if_neg (by decide)).trans ((if_neg (by decide)).trans ((if_neg (by decide)).trans ((if_neg (by decide)).trans (if_pos rfl))))))
                  clear hm₄
                  refine (?H4 : ∀ (l : List Value) (ps : List (Nat × Int)) (m' : Str → Option Value), DomsAre n j tr l ps → (∀ p ∈ ps, p ∈ fsts n (dig n j (c : Int)) j) → m' (Str.ofString "shut") = m₄ (Str.ofString "shut") → m' (Str.ofString "domains") = m₄ (Str.ofString "domains") →
                    m' (Str.ofString "firsts") = m₄ (Str.ofString "firsts") → m' (Str.ofString "count") = m₄ (Str.ofString "count") → m' (Str.ofString "numbers") = m₄ (Str.ofString "numbers") → ListRest _ _ _ _ _ _ _ _ _ _ _ _ l m' n9) ys _ _ hG (fun p hp => hp) rfl rfl rfl rfl rfl
                  intro l
                  induction l with
                  | nil =>
                    intro ps m' hd hsub hs1 hs2 hs3 hs4 hs5
                    refine ListRest.zero (fun h' tk' F' N' => ?_)
                    replace F' := Fr.tell F' (x := Str.ofString "numbers") (hs5.trans f5)
                    replace F' := Fr.tell F' (x := Str.ofString "count") ((if_neg (by decide)).trans (hs4.trans f4))
                    replace F' := Fr.tell F' (x := Str.ofString "firsts") ((if_neg (by decide)).trans ((if_neg (by decide)).trans (hs3.trans f3)))
                    replace F' := Fr.tell F' (x := Str.ofString "domains") ((if_neg (by decide)).trans ((if_neg (by decide)).trans ((if_neg (by decide)).trans (hs2.trans f2))))
                    clear f1 f2 f3 f4 f5
                    dsimp only
                    have hflag : Flag := trivial
                    have hysl := hys.length
                    k_steps
                    unfold Hold
                    refine LCg.ListComp_U (F₀ := by k_asm) (by with_unfolding_all rfl) (by decide) (by rfl) (by decide) (by rfl) ?_
                    k_steps
                    unfold Hold
                    rename News _ _ _ _ => N9
                    rename Fr _ _ _ _ => F9
                    refine r_slice3 F9 N9 (.tail _ zn) hys (by decide) (by omega) ?_ (by with_unfolding_all rfl) (by kmk_pure)
                    clear F9 N9
                    intro D5 ws5 ms5 h5 F5 N5 l5 hws5 hwl5
                    dsimp only
                    k_steps
                    unfold Hold
                    refine LCg.CompSrc.ledger rfl F5 N5 (.head _) ?hsz fun g2 => ?_
                    case hsz => rw [List.size_toArray, sizeLine_eq]; omega
                    refine kcf_list (fun k => k.fmod (W : Int)) hws5 (fun k' t' I' oI' C' oC' D' m' ys' h' tk' E' hk' hC' hx' F' N' off' ne' hMark' => ?_) ?_
                    · k_steps
                      unfold Hold
                      exact LCg.CompEnd.intro F' N' _ (fun p hp => hp) off' (.inr ⟨_, .head _, rfl, _, rfl⟩) ⟨rfl, _, rfl⟩
                    · intro ys6 hi6 D6 h6 tk6 F6 N6 o6
                      clear F5 N5
                      have hl6 := hi6.length
                      rw [List.length_map, ← hws5.length] at hl6
                      dsimp only
                      k_steps
                      unfold Hold
                      refine r_add (vs := [_, _, _]) F6 N6 (.tail _ (.tail _ (.head _))) (.head _) (by simp only [List.length_cons, List.length_nil]; omega) fun D7 h7 F7 N7 l7 => ?_
                      have l7b := lt3 l7
                      replace N7 := drop3 N7
                      clear F6 N6 l7
                      obtain ⟨Zs, NS, so6, so5, slt, sin⟩ := split2 N7 z6 z5 (by show @Ne Nat _ _; dsimp only; omega) l7b
                      have cdata : ∀ p ∈ n9, (∀ v, p.2.data ≠ .cell v) → p ∈ Zs := fun p hp hd => sin p hp (cell_apart N7 (.tail _ z6) (.tail _ hp) (by assumption) hd) (cell_apart N7 (.tail _ z5) (.tail _ hp) (by assumption) hd)
                      have s1 := sin _ z1 (by show @Ne Nat _ _; dsimp only; omega) (by show @Ne Nat _ _; dsimp only; omega)
                      have s2 := sin _ z2 (by show @Ne Nat _ _; dsimp only; omega) (by show @Ne Nat _ _; dsimp only; omega)
                      have s3 := sin _ z3 (by show @Ne Nat _ _; dsimp only; omega) (by show @Ne Nat _ _; dsimp only; omega)
                      have s4 := sin _ z4 (by show @Ne Nat _ _; dsimp only; omega) (by show @Ne Nat _ _; dsimp only; omega)
                      have s73 := cdata _ z73 (fun v e => nomatch e)
                      have s80 := cdata _ z80 (fun v e => nomatch e)
                      have sd := cdata _ yd (fun v e => nomatch e)
                      have sfi := cdata _ zfi (fun v e => nomatch e)
                      have sps := zps.filter cdata
                      have sq := cdata _ zq (fun v e => by obtain ⟨vq, tq, dq, -⟩ := hq73; rw [dq] at e; cases e)
                      dsimp only
                      refine ForSrc.of rfl F7 NS (.head _) ?_
                      intro I5 hI5 m₅ hm₅
                      have e1 := (congrFun hm₅ (Str.ofString "domains")).trans (if_pos rfl)
                      have e2 := (congrFun hm₅ (Str.ofString "firsts")).trans ((if_neg (by decide)).trans (if_pos rfl))
                      have e3 := (congrFun hm₅ (Str.ofString "count")).trans ((if_neg (by decide)).trans ((if_neg (by decide)).trans (if_pos rfl)))
                      clear hm₅
                      refine (?H5 : ∀ (l : List Value) (o5 o6 : Obj) (m' : Str → Option Value), (∃ v, o5.data = .cell v) → (∃ v, o6.data = .cell v) → (∀ v ∈ l, ∃ (a : Nat) (t : Tok), v = .int (a : Int) t ∧ a < W) → m' (Str.ofString "domains") = m₅ (Str.ofString "domains") → m' (Str.ofString "firsts") = m₅ (Str.ofString "firsts") → m' (Str.ofString "count") = m₅ (Str.ofString "count") →
                        ForRest _ _ _ _ _ _ _ _ _ _ _ l m' (_ :: (_, o6) :: (_, o5) :: Zs)) _ _ _ _ ⟨_, by assumption⟩ ⟨_, by assumption⟩ (asked_ok (.cons _ _ (.cons _ _ (.cons _ _ hi6))) (fun y hy => ?hin)) rfl rfl rfl
                      case hin =>
                        simp only [List.mem_cons, List.mem_map] at hy
                        rcases hy with rfl | rfl | rfl | ⟨z, -, rfl⟩
                        · exact ⟨Int.le_refl 0, hW1⟩
                        · exact ⟨by omega, by omega⟩
                        · exact ⟨fmod_lo _ hW1, fmod_hi _ hW1⟩
                        · exact ⟨fmod_lo _ hW1, fmod_hi _ hW1⟩
                      have q1 := hI5 _ (.tail _ (.tail _ (.head _)))
                      have q2 := hI5 _ (.tail _ (.head _))
                      have q3 := l7b _ z5
                      have q4 := l7b _ z6
                      dsimp only at so5 so6 q1 q2 q3 q4
                      intro l
                      induction l with
                      | nil =>
                        intro o5 o6 m' h5 h6 hall hr1 hr2 hr3
                        refine ForRest.nil (fun h' tk' F' N' => ?_)
                        dsimp only
                        k_steps
                      | cons v l ih5 =>
                        intro o5 o6 m' h5 h6 hall hr1 hr2 hr3
                        refine ForRest.cons (fun it h' tk' F' N' => ?_)
                        obtain ⟨a, ta, rfl, haW⟩ := hall v (.head _)
                        obtain ⟨v5, h5⟩ := h5
                        obtain ⟨v6, h6⟩ := h6
                        replace F' := Fr.tell F' (x := Str.ofString "count") (hr3.trans e3)
                        replace F' := Fr.tell F' (x := Str.ofString "firsts") ((if_neg (by decide)).trans (hr2.trans e2))
                        replace F' := Fr.tell F' (x := Str.ofString "domains") ((if_neg (by decide)).trans ((if_neg (by decide)).trans (hr1.trans e1)))
                        refine wpAny_assign_Name ?_
                        with_unfolding_all refine' storeX_C ?F ?N ?c ?U ?d ?_ ?ka ?kb
                        case ka => rfl
                        case kb => rfl
                        case F => k_asm
                        case N => k_asm
                        case c => rfl
                        case U =>
                          refine' UpdF.tail ?n1 (UpdF.tail ?n2 (UpdF.tail ?n3 (UpdF.head ?n4)))
                          case n1 => exact Nat.ne_of_gt q1
                          case n2 => exact Nat.ne_of_gt q3
                          case n3 => show @Ne Nat _ _; omega
                          case n4 => exact so5
                        case d => exact h5
                        intro h' o5' F' N' h5'
                        dsimp only at N' ⊢
                        k_steps
                        unfold Hold
                        rename News _ _ _ _ => N9
                        rename Fr _ _ _ _ => F9
                        refine Ctr.use (c_hostH _ n hn (a : Int) tr j _ _ _ _ _ q hq73 (.tail _ (.tail _ (.tail _ (.tail _ sq)))) (.tail _ (.tail _ (.tail _ (.tail _ s73)))) (by omega) (by omega) (by rw [← eW2]; omega) htr0 htr4) (by k_asm) F9 (by k_asm) N9 (by k_asm) rfl (by assumption) (by assumption) (by decide +kernel) (by decide +kernel) ?_
                        clear F9 N9
                        intro r9 n9' h9 tk9 F9 N9 hgot
                        obtain ⟨hn9', th', hr9⟩ := hgot
                        subst hn9' hr9
                        dsimp only
                        k_steps
                        rename News _ _ _ _ => N9
                        rename Fr _ _ _ _ => F9
                        with_unfolding_all refine' storeX_C ?F ?N ?c ?U ?d ?_ ?ka ?kb
                        case ka => rfl
                        case kb => rfl
                        case F => exact F9
                        case N => exact N9
                        case c => rfl
                        case U =>
                          refine' UpdF.tail ?n1 (UpdF.tail ?n2 (UpdF.head ?n3))
                          case n1 => exact Nat.ne_of_gt q2
                          case n2 => exact Nat.ne_of_gt q4
                          case n3 => exact List.forall_mem_cons.mpr ⟨by show @Ne Nat _ _; omega, so6⟩
                        case d => exact h6
                        clear F9 N9
                        intro h' o6' F' N' h6'
                        dsimp only at N' ⊢
                        clear h5 h6
                        k_steps
                        unfold Hold
                        rename News _ _ _ _ => N9
                        rename Fr _ _ _ _ => F9
                        refine LCg.CompSrc.ledger rfl F9 N9 (.tail _ (.tail _ (.tail _ (.tail _ sd)))) ?hsz5 fun g3 => ?_
                        case hsz5 => rw [List.size_toArray, sizeLine_eq]; omega
                        clear F9 N9
                        refine comp_rest (fun k ws => ws = bl (ans n a ((fsts n (dig n j (c : Int)) j).take k))) (.inr ⟨_, .tail _ (.tail _ (.tail _ (.tail _ sd))), rfl, _, rfl⟩) rfl ?turn5 ?fin5
                        case turn5 =>
                          intro k ws v I oI C oC Da m₂ h tk E' hv hws hC hx F' N' off
                          have hv2 : ys[k]? = some v := by simpa using hv
                          obtain ⟨hk, -⟩ := List.getElem?_eq_some_iff.mp hv2
                          obtain ⟨p, hp⟩ : ∃ p, (fsts n (dig n j (c : Int)) j)[k]? = some p := ⟨_, List.getElem?_eq_getElem (by rw [← hyl]; exact hk)⟩
                          obtain ⟨td, htd⟩ := hG.get hp
                          obtain rfl := Option.some.inj (hv2.symm.trans htd)
                          have hgp := hgood p (List.mem_of_getElem? hp)
                          subst hws
                          k_steps
                          unfold Hold
                          rename News _ _ _ _ => N9
                          rename Fr _ _ _ _ => F9
                          refine CtrS.use (c_match _ (hostL n j tr (a : Int)) ((hostL n j tr p.2).drop p.1) (decide (0 < p.1)) _ _ (by rw [host_len]; omega) (by rw [List.length_drop, host_len]; omega)) (by k_asm) F9 (by k_asm) N9 (by k_asm) rfl (by assumption) (by assumption) (by decide +kernel) (by decide +kernel) ?_
                          clear F9 N9
                          intro r8 h8 tk8 F9 N9 hr8
                          rw [ans_law haW hn eW2 tr hgp.1 hgp.2.1 hgp.2.2.1] at hr8
                          subst hr8
                          exact PEnd.intro F9 N9 (ans_snoc hp).symm
                        case fin5 =>
                          intro ws hws
                          rw [List.size_toArray, List.take_of_length_le (by omega)] at hws
                          subst hws
                          intro D8 h8 tk8 F8 N8 o8
                          dsimp only
                          k_steps
                          unfold Hold
                          refine LCt.ListComp_T (F₀ := by k_asm) (by with_unfolding_all rfl) (by decide) (by rfl) (by decide) (by rfl) ?_
                          k_steps
                          unfold Hold
                          refine LCt.CompSrcT.ledger rfl F8 N8 (.head _) ?hsz6 fun g4 => ?_
                          case hsz6 => rw [List.size_toArray, sizeLine_eq, bl, List.length_map, ans, List.length_map]; omega
                          clear F8 N8
                          refine comp_restT (fun k ws => ws = bl (((ans n a (fsts n (dig n j (c : Int)) j)).take k).filter id)) (.inr ⟨_, .head _, rfl, _, rfl⟩) rfl ?turn6 ?fin6
                          case turn6 =>
                            intro k ws v I oI C oC Da m₂ h tk E' hv hws hC hx F' N' off
                            obtain ⟨b, hb, rfl⟩ := bl_get hv
                            subst hws
                            cases b with
                            | true =>
                              k_steps
                              unfold Hold
                              exact PEnd.intro F' N' (filt_t hb)
                            | false =>
                              k_steps
                              unfold Hold
                              exact PEnd.intro F' N' (filt_f hb)
                          case fin6 =>
                            intro ws hws
                            rw [List.size_toArray, List.take_of_length_le (by rw [bl, List.length_map]; exact Nat.le_refl _)] at hws
                            have hwl : ws.length = if a < c then 1 else 0 := by rw [hws, bl, List.length_map]; exact hit_law hc hcW
                            have hwl1 : ws.length ≤ 1 := by rw [hwl]; split <;> omega
                            clear hws
                            intro D9 h9 tk9 F9 N9 o9
                            dsimp only
                            k_steps
                            unfold Hold
                            rename News _ _ _ _ => N9
                            rename Fr _ _ _ _ => F9
                            refine r_pick2 N9 (.head _) (fun t9 => ?_)
                            dsimp only
                            k_steps
                            unfold Hold
                            refine ne_int ?_
                            rw [count_false hwl]
                            try dsimp only
                            k_steps
                            unfold Hold
                            refine ListComp_L (F₀ := by k_asm) (by with_unfolding_all rfl) (by decide) (by rfl) (by decide) (by rfl) (by rfl) (by decide) ?_
                            k_steps
                            rename News _ _ _ _ => N9
                            rename Fr _ _ _ _ => F9
                            refine SrcPairs.of (fun k us => us = bl (ans n a ((fsts n (dig n j (c : Int)) j).take k))) rfl F9 N9 (.tail _ (.tail _ (.tail _ (.tail _ (.tail _ (.tail _ (.tail _ sfi))))))) ?sz7 rfl ?turn7 ?fin7
                            case sz7 => rw [sizeLine_eq, List.size_toArray]; omega
                            case turn7 =>
                              clear F9 N9
                              intro g k us hk hus
                              rw [List.size_toArray] at hk
                              obtain ⟨Dp, pl, x, t1, t2, kk, hv, hp, hm⟩ := sps.get (i := k) (by omega)
                              refine ⟨Dp, _, _, kk, by simpa using hv, .tail _ (.tail _ (.tail _ (.tail _ (.tail _ (.tail _ (.tail _ hm)))))), ?_⟩
                              intro I oI C oC Da m₂ h tk E' hC hx hy F' N' off
                              subst hus
                              k_steps
                              unfold Hold
                              refine rshift_int (Int.mul_nonneg (by omega) (by omega)) ?_
                              rw [shr_eq]
                              try dsimp only
                              k_steps
                              unfold Hold
                              refine rshift_int (Int.mul_nonneg (by omega) (by omega)) ?_
                              rw [shr_eq]
                              try dsimp only
                              k_steps
                              unfold Hold
                              exact PEnd.intro F' N' (ans_snoc2 hp)
                            case fin7 =>
                              clear F9 N9
                              intro g us hus Db h tk F' N' off
                              rw [List.size_toArray, List.take_of_length_le (by omega)] at hus
                              subst hus
                              dsimp only
                              k_steps
                              unfold Hold
                              refine r_nebl N' (.tail _ (.tail _ (.tail _ (.head _)))) (.head _) (by first | units_room | exact Nat.le_of_ble_eq_true rfl) ?_
                              try dsimp only
                              k_steps
                              unfold Hold
                              refine UnrEnd.intro F' N' ((D7, _) :: (_, o6') :: (_, o5') :: Zs) (fun p hp => .tail _ (.tail _ (.tail _ (.tail _ hp)))) ?off7 ⟨.head _, ih5 o5' o6' _ ⟨_, h5'⟩ ⟨_, h6'⟩ (fun v hv => hall v (.tail _ hv)) ?d1 ?d2 ?d3⟩
                              case off7 =>
                                intro p hp
                                rcases List.mem_cons.mp hp with rfl | hp
                                · exact Nat.ne_of_lt (hI5 _ (.head _))
                                · rcases List.mem_cons.mp hp with rfl | hp
                                  · exact Nat.ne_of_lt q2
                                  · rcases List.mem_cons.mp hp with rfl | hp
                                    · exact Nat.ne_of_lt q1
                                    · exact Nat.ne_of_lt (hI5 _ (.tail _ (.tail _ (.tail _ hp))))
                              case d1 => exact (if_neg (by decide)).trans ((if_pos rfl).trans e1.symm)
                              case d2 => exact (if_neg (by decide)).trans ((if_neg (by decide)).trans ((if_pos rfl).trans e2.symm))
                              case d3 => exact (if_neg (by decide)).trans ((if_neg (by decide)).trans ((if_neg (by decide)).trans ((if_pos rfl).trans e3.symm)))
                  | cons v l ih4 =>
                    intro ps m' hd hsub hs1 hs2 hs3 hs4 hs5
                    refine ListRest.succ (fun it h' tk' hit F' N' => ?_)
                    cases hd with
                    | @cons p t vs ps hd =>
                    have hpm := hsub p (.head _)
                    have hpg := hgood p hpm
                    have hmt := shut_law hc hcW hn eW2 tr hpm
                    replace F' := Fr.tell F' (x := Str.ofString "shut") ((if_neg (by decide)).trans (hs1.trans f1))
                    k_steps
                    unfold Hold
                    rename News _ _ _ _ => N9
                    rename Fr _ _ _ _ => F9
                    refine CtrS.use (c_up1 _ (decide (0 < p.1)) ((hostL n j tr p.2).drop p.1) (by rw [List.length_drop, host_len]; omega) (by rw [List.length_drop, host_len]; omega) _ _) (by k_asm) F9 (by k_asm) N9 (by k_asm) rfl (by assumption) (by assumption) (by decide +kernel) (by decide +kernel) ?_
                    clear F9 N9
                    intro r8 h8 tk8 F9 N9 hgot
                    obtain ⟨t8, hr8⟩ := hgot
                    subst hr8
                    dsimp only
                    k_steps
                    unfold Hold
                    refine CtrS.use (c_match _ (hostL n j tr (c : Int)) (((hostL n j tr p.2).drop p.1).drop 1) true _ _ (by rw [host_len]; omega) (by rw [List.length_drop, List.length_drop, host_len]; omega)) (by k_asm) F9 (by k_asm) N9 (by k_asm) rfl (by assumption) (by assumption) (by decide +kernel) (by decide +kernel) ?_
                    clear F9 N9
                    intro r8 h8 tk8 F9 N9 hr8
                    rw [hmt] at hr8
                    subst hr8
                    dsimp only
                    k_steps
                    unfold Hold
                    refine unr_end F9 N9 hI4 ⟨yd, ih4 ps _ hd (fun p hp => hsub p (.tail _ hp)) ((if_pos rfl).trans f1.symm) ?d1 ?d2 ?d3 ?d4⟩
                    case d1 => exact (if_neg (by decide)).trans ((if_neg (by decide)).trans hs2)
                    case d2 => exact (if_neg (by decide)).trans ((if_neg (by decide)).trans hs3)
                    case d3 => exact (if_neg (by decide)).trans ((if_neg (by decide)).trans hs4)
                    case d4 => exact (if_neg (by decide)).trans ((if_neg (by decide)).trans hs5)
                | succ k3 ih3 =>
                  intro j tb m' hkj hb hq1 hq2 hq3 hq4 hq5
                  refine RangeRest.succ (fun t1 h' tk' F' N' => ?_)
                  replace F' := Fr.tell F' (x := Str.ofString "indent") ((if_neg (by decide)).trans (hq1.trans g1))
                  replace F' := Fr.tell F' (x := Str.ofString "blocks") ((if_neg (by decide)).trans ((if_neg (by decide)).trans hb))
                  k_steps
                  unfold Hold
                  refine lshift_int_small place_nonneg (place_le hnP.1 (by omega)) (by decide) ?_
                  rw [place_pow]
                  obtain ⟨hb1, hb2⟩ := place_b eW2 (show W ≤ 64 by omega) (show j < i by omega)
                  have hsucc := blocksTo_succ n c j
                  obtain ⟨bb, hbb⟩ : ∃ bb, bb = 2 ^ (n * (j + 1)) := ⟨_, rfl⟩
                  rw [← hbb] at hb1 hb2 hsucc ⊢
                  dsimp only
                  k_steps
                  unfold Hold
                  rename News _ _ _ _ => N9
                  rename Fr _ _ _ _ => F9
                  refine Ctr.use (c_lvl _ c bb (by omega) hb1 hb2 _ _ hvs2 (.tail _ y1) (.tail _ y2) (.tail _ y3) (.tail _ y4)) (by k_asm) F9 (by k_asm) N9 (by k_asm) rfl (by assumption) (by assumption) (by decide +kernel) (by decide +kernel) ?_
                  clear F9 N9
                  intro r9 n9 h9 tk9 F9 N9 hgot
                  obtain ⟨hn9, t9, hr9⟩ := hgot
                  subst hn9 hr9
                  have hbk := blk bb c hb1
                  have hbz : (bb : Int) ≠ 0 := by omega
                  dsimp only
                  k_steps
                  unfold Hold
                  rename News _ _ _ _ => N9
                  rename Fr _ _ _ _ => F9
                  have e9 : ((blocksTo n c j : Nat) : Int) + (0 + (bb : Int) * (((c / bb : Nat) : Int) + (0 + 1))).fdiv (bb : Int) - 1 = ((blocksTo n c (j + 1) : Nat) : Int) := by rw [hbk, hsucc, Int.natCast_add]; omega
                  refine unr_end F9 N9 hI3 (ih3 (j + 1) _ _ (by omega) ((if_pos rfl).trans (by rw [e9])) ((if_neg (by decide)).trans ((if_neg (by decide)).trans ((if_neg (by decide)).trans ((if_pos rfl).trans g1.symm)))) ?d1 ?d2 ?d3 ?d4)
                  case d1 => exact (if_neg (by decide)).trans ((if_neg (by decide)).trans ((if_neg (by decide)).trans ((if_neg (by decide)).trans ((if_neg (by decide)).trans hq2))))
                  case d2 => exact (if_neg (by decide)).trans ((if_neg (by decide)).trans ((if_neg (by decide)).trans ((if_neg (by decide)).trans ((if_neg (by decide)).trans hq3))))
                  case d3 => exact (if_neg (by decide)).trans ((if_neg (by decide)).trans ((if_neg (by decide)).trans ((if_neg (by decide)).trans ((if_neg (by decide)).trans hq4))))
                  case d4 => exact (if_neg (by decide)).trans ((if_neg (by decide)).trans ((if_neg (by decide)).trans ((if_neg (by decide)).trans ((if_neg (by decide)).trans hq5))))
            | succ k ih =>
              intro i st others vs kf m' hki hst hbo ho80 hofi hoI hps hm1 hm2 hm3 hm4
              refine RangeRest.succ (fun t1 h' tk' F' N' => ?_)
              simp only [Int.zero_add] at F'
              have hdl : (dig n P (c : Int)).length = P := dig_len _ _ _
              obtain ⟨g, hg, hg4, hgn⟩ : ∃ g : Nat, (dig n P (c : Int)).getD ((i : Int).toNat) 0 = (g : Int) ∧ g < 4 ∧ (g : Int) < 2 ^ n := by
                have hgb := dig_get_bound (P := P) hn c ((i : Int).toNat)
                exact ⟨((dig n P (c : Int)).getD ((i : Int).toNat) 0).toNat, by omega, by omega, by omega⟩
              replace F' := Fr.tell F' (x := Str.ofString "firsts") ((if_neg (by decide)).trans (hm1.trans hfirsts))
              replace F' := Fr.tell F' (x := Str.ofString "figures") ((if_neg (by decide)).trans ((if_neg (by decide)).trans (hm2.trans hfigures)))
              obtain ⟨Zt, hZt⟩ : ∃ Zt, Zt = tabL 80 pos80 st ++ others := ⟨_, rfl⟩
              rw [← hZt] at N' hofi hoI
              have inZ : ∀ p ∈ base, p ∈ Zt := fun p hp => by rw [hZt]; exact List.mem_append_right _ (hbo p hp)
              have zf := inZ _ mf
              have z1 := inZ _ m1
              have z2 := inZ _ m2
              k_steps
              unfold Hold
              rename IsRange _ _ _ _ _ _ _ _ => rgX
              rw [hg] at rgX
              rename News _ _ _ _ => N9
              rename Fr _ _ _ _ => F9
              refine range_start rfl rgX (small_one (by omega) (by omega) (by omega) (by omega)) F9 N9 ?_
              clear F9 N9 rgX
              intro I2 hI2 m₂ hm₂
              have hfirsts2 := (congrFun hm₂ (Str.ofString "firsts")).trans ((if_neg (by decide)).trans (if_pos rfl))
              have hfigures2 := (congrFun hm₂ (Str.ofString "figures")).trans (if_pos rfl)
              have hplace2 := (congrFun hm₂ (Str.ofString "place")).trans ((if_neg (by decide)).trans ((if_neg (by decide)).trans (if_pos rfl)))
              have hcount2 := ((congrFun hm₂ (Str.ofString "count")).trans ((if_neg (by decide)).trans ((if_neg (by decide)).trans (if_neg (by decide))))).trans hm3
              have hnumbers2 := ((congrFun hm₂ (Str.ofString "numbers")).trans ((if_neg (by decide)).trans ((if_neg (by decide)).trans (if_neg (by decide))))).trans hm4
              clear hm₂
              subst hZt
              refine (?H2 : ∀ (k2 j : Nat) (st : TSt) (others : List (Addr × Obj)) (vs : List Value) (kf : Nat) (m' : Str → Option Value), k2 + j = ((g : Int) - 0).toNat → tabOk q80 st → (∀ p ∈ base, p ∈ others) → (∀ p ∈ others, p.1 ≠ 80) → (∀ p ∈ tabL 80 pos80 st ++ others, p.1 ≠ _) → (∀ p ∈ tabL 80 pos80 st ++ others, p.1 ≠ I1) → (∀ p ∈ tabL 80 pos80 st ++ others, p.1 ≠ I2) →
                PairsIn others vs (fsts n (dig n P c) i ++ (List.range j).map (one n (dig n P c) i)) →
                m' (Str.ofString "firsts") = m₂ (Str.ofString "firsts") → m' (Str.ofString "figures") = m₂ (Str.ofString "figures") → m' (Str.ofString "count") = m₂ (Str.ofString "count") → m' (Str.ofString "numbers") = m₂ (Str.ofString "numbers") → m' (Str.ofString "place") = m₂ (Str.ofString "place") →
                RangeRest _ _ _ _ _ _ _ _ _ _ _ _ _ k2 j m' ((I1, _) :: (_, PySem.W.listOf vs.toArray kf) :: (tabL 80 pos80 st ++ others))) (((g : Int) - 0).toNat) 0 st others vs kf _ rfl hst hbo ho80 hofi hoI (fun p hp => Nat.ne_of_lt (hI2 p (.tail _ (.tail _ hp)))) (by rw [List.range_zero, List.map_nil, List.append_nil]; exact hps) rfl rfl rfl rfl rfl
              have hfI1 := hI1 _ (.head _)
              have hI12 := hI2 _ (.head _)
              have hfI2 := hI2 _ (.tail _ (.head _))
              clear inZ zf z1 z2 hofi hoI hps hst hbo ho80
              intro k2
              induction k2 with
              | zero =>
                intro j st others vs kf m'' hkj hst hbo ho80 hofi hoI hoI2 hps hn1 hn2 hn3 hn4 hn5
                refine RangeRest.zero (fun h' tk' F' N' => ?_)
                dsimp only
                k_steps
                unfold Hold
                rename Fr _ _ _ _ => F9
                obtain rfl : j = g := by omega
                refine UnrEnd.intro F9 N' _ (fun _ hp => hp) ?off (ih (i + 1) st others vs kf _ (by omega) hst hbo ho80 hofi hoI ?psG (hn1.trans (hfirsts2.trans hfirsts.symm)) (hn2.trans (hfigures2.trans hfigures.symm)) (hn3.trans hcount2) (hn4.trans hnumbers2))
                case off =>
                  intro p hp
                  rcases List.mem_cons.mp hp with rfl | hp
                  · exact Nat.ne_of_lt hfI1
                  · exact hoI p hp
                case psG =>
                  rw [fsts_succ, show ((dig n P (c : Int)).getD i 0).toNat = j by
                    rw [show ((i : Int).toNat) = i by omega] at hg
                    rw [hg]; omega]
                  exact hps
              | succ k2 ih2 =>
                intro j st others vs kf m'' hkj hst hbo ho80 hofi hoI hoI2 hps hn1 hn2 hn3 hn4 hn5
                refine RangeRest.succ (fun t2 h' tk' F' N' => ?_)
                simp only [Int.zero_add] at F'
                replace F' := Fr.tell F' (x := Str.ofString "firsts") ((if_neg (by decide)).trans (hn1.trans hfirsts2))
                replace F' := Fr.tell F' (x := Str.ofString "figures") ((if_neg (by decide)).trans ((if_neg (by decide)).trans (hn2.trans hfigures2)))
                replace F' := Fr.tell F' (x := Str.ofString "place") ((if_neg (by decide)).trans ((if_neg (by decide)).trans ((if_neg (by decide)).trans (hn5.trans hplace2))))
                obtain ⟨Zt, hZt⟩ : ∃ Zt, Zt = tabL 80 pos80 st ++ others := ⟨_, rfl⟩
                rw [← hZt] at N' hofi hoI hoI2
                have inZ : ∀ p ∈ base, p ∈ Zt := fun p hp => by rw [hZt]; exact List.mem_append_right _ (hbo p hp)
                have zf := inZ _ mf
                have z1 := inZ _ m1
                have z2 := inZ _ m2
                k_steps
                unfold Hold
                rename News _ _ _ _ => N9
                rename Fr _ _ _ _ => F9
                refine r_add (ws := [_]) F9 N9 (.tail _ (.head _)) (.head _) (by rw [List.length_replicate, List.length_singleton]; omega) fun D3 h3 F3 N3 l3 => ?_
                have l3b := lt3 l3
                clear F9 N9 l3
                replace N3 := drop3 N3
                dsimp only
                k_steps
                unfold Hold
                rename News _ _ _ _ => N9
                rename Fr _ _ _ _ => F9
                rename IntsAre _ (List.drop _ _) => hd9
                have hd9l := hd9.length
                rw [List.length_drop] at hd9l
                refine r_add F9 N9 (.tail _ (.head _)) (.head _) (by rw [List.length_append, List.length_replicate, List.length_singleton]; omega) fun D4 h4 F4 N4 l4 => ?_
                have l4b := lt2 l4
                clear F9 N9 l4
                replace N4 := drop2 N4
                dsimp only
                k_steps
                unfold Hold
                subst hZt
                refine Ctr.use (c_d2i _ n hn D4 _ _ _ _ _ _ st rfl hst ?o80 (.head _) (((ints_rep _ _).append (.cons _ _ .nil)).append hd9) ?hl1 ?hl8 (one_bound hn c i j (by omega))) (by k_asm) F4 (by k_asm) (led2 N4) (by k_asm) rfl (by assumption) (by assumption) ?e1 ?e2 ?_
                case e1 => decide +kernel
                case e2 => decide +kernel
                case hl1 => simp only [List.length_append, List.length_singleton]; omega
                case hl8 => simp only [List.length_append, List.length_singleton, List.length_replicate, List.length_drop]; omega
                have hI280 : @LT.lt Nat _ 80 I2 := Nat.lt_trans (Nat.lt_trans h80f hfI1) hI12
                have hI180 : @LT.lt Nat _ 80 I1 := Nat.lt_trans h80f hfI1
                have hD480 : @LT.lt Nat _ 80 D4 := Nat.lt_trans hI280 (l4b _ (.head _))
                case o80 =>
                  simp only [List.forall_mem_cons]
                  exact ⟨Nat.ne_of_gt hD480, Nat.ne_of_gt hI280, Nat.ne_of_gt hI180, Nat.ne_of_gt h80f, ho80⟩
                rw [one_snd]
                clear F4 N4
                intro r9 n9 h9 tk9 F9 N9 hgot
                obtain ⟨t9, q8, hr9, hq8, hsm8, hsn8, hn9⟩ := hgot
                subst hr9 hn9
                replace N9 := led3 N9
                have off2 := tab_off hsm8 hsn8 (.tail _ (.head _)) hoI2
                have off1 := tab_off hsm8 hsn8 (.tail _ (.tail _ (.head _))) hoI
                have offf := tab_off hsm8 hsn8 (.tail _ (.tail _ (.tail _ (.head _)))) hofi
                obtain ⟨Z2, hZ2⟩ : ∃ Z2, Z2 = tabL 80 pos80 (some q8) ++ others := ⟨_, rfl⟩
                rw [← hZ2] at N9 off1 off2 offf
                clear zf z1 z2
                dsimp only
                k_steps
                unfold Hold
                rename News _ _ _ _ => N9
                rename Fr _ _ _ _ => F9
                rename _ ∧ _ ∧ _ ∧ AllLt _ Z2 => hlt9
                obtain ⟨hl1, hl2, hl3, hl4⟩ := hlt9
                have hl5 := tb_ltOf hl4
                have hvs : vs.length ≤ 1000 := by
                  rw [hps.length, List.length_append, List.length_map, List.length_range]
                  have := fsts_len (P := P) hn (c : Int) i
                  omega
                refine r_append F9 (led4 N9) ?offA hvs ?_
                case offA =>
                  simp only [List.forall_mem_cons]
                  exact ⟨Nat.ne_of_gt hl3, Nat.ne_of_gt hfI2, Nat.ne_of_gt hfI1, offf⟩
                clear F9 N9
                intro h10 F10 N10
                dsimp only
                k_steps
                unfold Hold
                rename Fr _ _ _ _ => F9
                rename News _ _ _ _ => N9
                subst hZ2
                refine unr_inner F9 N9 (Nat.ne_of_lt hI12) (Nat.ne_of_lt hfI2) (Nat.ne_of_gt hl1) off2 (ih2 (j + 1) (some q8) _ _ _ _ (by omega) hq8 (fun p hp => .tail _ (hbo p hp)) ?o80 (off_mid offf (Nat.ne_of_gt hl3)) (off_mid off1 (Nat.ne_of_gt hl2)) (off_mid off2 (Nat.ne_of_gt hl1)) ?psG ?n1 ?n2 ?n3 ?n4 ?n5)
                case o80 =>
                  simp only [List.forall_mem_cons]
                  exact ⟨Nat.ne_of_gt (Nat.lt_trans h80f hl3), ho80⟩
                case psG =>
                  rw [one_succ]
                  exact (hps.mono fun p hp => .tail _ hp).snoc (.head _)
                case n1 => exact (if_neg (by decide)).trans ((if_neg (by decide)).trans ((if_pos rfl).trans hfirsts2.symm))
                case n2 => exact (if_neg (by decide)).trans ((if_pos rfl).trans hfigures2.symm)
                case n3 => exact (if_neg (by decide)).trans ((if_neg (by decide)).trans ((if_neg (by decide)).trans ((if_neg (by decide)).trans hn3)))
                case n4 => exact (if_neg (by decide)).trans ((if_neg (by decide)).trans ((if_neg (by decide)).trans ((if_neg (by decide)).trans hn4)))
                case n5 => exact (if_pos rfl).trans hplace2.symm))
end
end Mine
end
theorem PySem.Challenge.cw_xg0082_01_holds : PySem.Challenge.rw_xg0082_01.Holds := by
  exact Mine.law
