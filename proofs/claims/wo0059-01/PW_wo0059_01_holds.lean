import PyProof.Rows.All
import Wide.All
import OpenK.AllK
import Wide.FinOn
import PySem.Challenge.RW_wo0059_01
set_option Elab.async false
set_option compiler.extract_closed false
section
open PySem PySem.W PyProof.Rows
set_option Elab.async false
namespace Mine
set_option maxRecDepth 100000 in
set_option maxHeartbeats 8000000 in
open_top hd for PySem.Challenge.rw_wo0059_01
end Mine
end
section
open PySem PySem.W PyProof.Rows PySem.Calls PySem.Builtin PySem.Builtin.Re
set_option Elab.async false
set_option maxRecDepth 100000
namespace Mine
theorem plainAttrs_pat : PlainAttrs "re.Pattern" :=
  ⟨⟨"object.__getattribute__", by rw [typeLookup_type, builtinLookup_eq_fast]; kernel_rfl, by decide +kernel⟩, by rw [typeLookup_type, builtinLookup_eq_fast]; kernel_rfl⟩
theorem slot_pat_search : Slot "re.Pattern" "search" "re.Pattern.search" :=
  .of (owner := "re.Pattern") (n := "search") (by rw [typeLookup_type, builtinLookup_eq_fast]; kernel_rfl) (by decide +kernel) (by decide +kernel) (by decide +kernel)
    (by first | exact .inl (by decide +kernel) | exact .inr (by decide +kernel)) (by rw [isSubtype_type]; kernel_rfl)
theorem type_pat_search : typeOf (.builtin "re.Pattern.search") = pure (.type "method_descriptor") := by show builtinType _ = _; rw [builtinType_eq_fast]; kernel_rfl
theorem entry_pat_search : entryFor table "re.Pattern.search" = some Builtin.«re.Pattern.search» := entryFor_of_tree (by kernel_rfl)
theorem args_pat_search (a b : Value) : argsOk "re.Pattern.search" ⟨[a, b], []⟩ := by unfold argsOk; kernel_rfl
theorem named_pat_search (v : Value) : reNamed "re.Pattern.search" "search" ["string", "pos", "endpos"] 1 [v] [] = pure [some v, none, none] := by kernel_rfl
section
variable {M : Model} {A : Around} {E : Value → Shared → Prop} {s : Shared}
theorem rules_loop (c : Nat → Bool) (t : Nat → String) : ∀ (l : List Nat) {Q : PUnit → Shared → Prop}, Q ⟨⟩ s →
    wpAny M A (forIn l (⟨⟩ : PUnit) fun i (_ : PUnit) => (if c i = true then do rule (t i); pure (ForInStep.yield PUnit.unit) else pure (ForInStep.yield PUnit.unit) : Sem (ForInStep PUnit))) Q E s
  | [], _, h => wpAny_pure h
  | i :: r, _, h => by
    rw [List.forIn_cons]
    refine wpAny_bind ?_
    split
    · exact wpAny_bind (wpAny_rule (wpAny_pure (rules_loop c t r h)))
    · exact wpAny_pure (rules_loop c t r h)
theorem run_failed {m m' : Sre.M} {Q : Option Sre.M → Shared → Prop} (h1 : m.runFor 4 = m') (h2 : m'.outcome = some .failed) (h : Q none s) : wpAny M A (reRunToEnd m) Q E s := by
  unfold reRunToEnd
  refine wpAny_bind ?_
  have e : (2 : Nat) ^ 64 = (2 ^ 64 - 1) + 1 := by decide
  rw [e, reDrive]
  show wpAny M A (if (m.runFor 4).outcome.isSome = true then pure (m.runFor 4) else _) _ E s
  rw [h1, h2]
  simp only [Option.isSome_some, if_true]
  refine wpAny_pure ?_
  refine wpAny_bind ?_
  refine rules_loop (fun i => m'.seen.has i) (fun i => Sre.names.getD i "") _ ?_
  show wpAny M A (match m'.outcome with
  | some .matched => pure (some m')
  | some .failed => pure none
  | some (.stuck why) => unsupported s!"_sre:{why}"
  | none => unsupported "internal:sre:no-outcome") Q E s
  rw [h2]
  exact wpAny_pure h
end
/-- no sign of the text is in the first set -/
theorem admitted_none (m : Sre.M) (bad : ∀ i, i < m.lim → ∀ seen, ∃ seen', Sre.inSet m.code (m.text.getD i 0) m.code.size 5 true seen = .ok (false, seen')) :
    ∀ fuel s seen, ∃ seen', Sre.M.admitted m fuel s seen = .ok (none, seen') := by
  intro fuel
  induction fuel with
  | zero => intro s seen; exact ⟨_, rfl⟩
  | succ n ih =>
    intro s seen
    unfold Sre.M.admitted
    by_cases h : s ≥ m.lim
    · rw [if_pos h]; exact ⟨_, rfl⟩
    · rw [if_neg h]
      obtain ⟨s', e⟩ := bad s (by omega) seen
      rw [e]
      exact ih _ _
theorem say_failed (m : Sre.M) (h1 : m.outcome = none) (h2 : m.frames = []) : ((m.say false).runFor 4).outcome = some .failed := by
  have e1 : (m.say false).outcome = none := h1
  have e2 : (m.say false).step.outcome = some .failed := by
    unfold Sre.M.step
    have e3 : (m.say false).frames = [] := h2
    rw [e1]
    simp only [Option.isSome_none, Bool.false_eq_true, if_false]
    rw [e3]
    rfl
  have e4 : ∀ n, ((m.say false).step.runFor n).outcome = some .failed := by
    intro n
    cases n with
    | zero => exact e2
    | succ n => unfold Sre.M.runFor; rw [e2]; simp only [Option.isSome_some, if_true]; exact e2
  show (if (m.say false).outcome.isSome then m.say false else Sre.M.runFor 3 (m.say false).step).outcome = _
  rw [e1]
  exact e4 3
theorem attempt_failed (m : Sre.M) (k : Nat) (b : Bool) (h1 : m.outcome = none) (h2 : m.frames = []) (hs : m.hasFirstSet = true)
    (bad : ∀ i, i < m.lim → ∀ seen, ∃ seen', Sre.inSet m.code (m.text.getD i 0) m.code.size 5 true seen = .ok (false, seen')) :
    ((m.attemptFrom k b).runFor 4).outcome = some .failed := by
  unfold Sre.M.attemptFrom
  rw [hs]
  simp only [Bool.not_true, Bool.false_eq_true, if_false]
  obtain ⟨s', e⟩ := admitted_none m bad (m.lim + 1 - k) k m.seen
  rw [e]
  exact say_failed _ h1 h2
theorem search_failed {code text : Array Nat} (hf : ∀ m : Sre.M, m.code = code → m.hasFirstSet = true)
    (bad : ∀ i, i < text.size → ∀ seen, ∃ seen', Sre.inSet code (text.getD i 0) code.size 5 true seen = .ok (false, seen')) :
    ((Sre.forSearch code text 0 0 text.size false).runFor 4).outcome = some .failed := by
  unfold Sre.forSearch
  simp only []
  split
  · exact say_failed _ rfl rfl
  · exact attempt_failed _ _ _ rfl rfl (hf _ rfl) bad
abbrev codeN : Array Nat := #[14, 10, 4, 1, 1, 22, 0, 31, 16, 127, 0, 13, 7, 22, 0, 31, 16, 127, 0, 1]
abbrev codeV : Array Nat := #[14, 14, 4, 1, 1, 9, 4294966783, 0, 0, 2147483648, 0, 0, 0, 0, 0, 13, 11, 9, 4294966783, 0, 0, 2147483648, 0, 0, 0, 0, 0, 1]
theorem firstN (m : Sre.M) (h : m.code = codeN) : m.hasFirstSet = true := by unfold Sre.M.hasFirstSet; rw [h]; rfl
theorem firstV (m : Sre.M) (h : m.code = codeV) : m.hasFirstSet = true := by unfold Sre.M.hasFirstSet; rw [h]; rfl
theorem badN (c : Nat) (h1 : 32 ≤ c) (h2 : c < 127) (seen : Sre.Seen) : ∃ seen', Sre.inSet codeN c codeN.size 5 true seen = .ok (false, seen') := by
  have e1 : (decide (0 ≤ c) && decide (c ≤ 31)) = false := by simp; omega
  have e2 : (c == 127) = false := by simp; omega
  refine ⟨((seen.add 22).add 16).add 0, ?_⟩
  show (if (decide (0 ≤ c) && decide (c ≤ 31)) = true then _ else (if (c == 127) = true then _ else _)) = _
  rw [e1, e2]
  rfl
theorem bitV : ∀ c : Fin 127, 32 ≤ c.val → (decide (c.val < 256) && (codeV.getD (5 + (1 + c.val / 32)) 0).testBit (c.val % 32)) = false := by decide +kernel
theorem badV (c : Nat) (h1 : 32 ≤ c) (h2 : c < 127) (seen : Sre.Seen) : ∃ seen', Sre.inSet codeV c codeV.size 5 true seen = .ok (false, seen') := by
  have e1 := bitV ⟨c, h2⟩ h1
  refine ⟨((seen.add 9).add 0), ?_⟩
  show (if (decide (c < 256) && (codeV.getD (5 + (1 + c / 32)) 0).testBit (c % 32)) = true then _ else _) = _
  simp only at e1
  rw [e1]
  rfl
noncomputable def Clean (x : Str) : Prop := ∀ i, i < x.cps.size → 32 ≤ x.cps.getD i 0 ∧ x.cps.getD i 0 < 127
section
variable {prog : Program} {w : World} {A : Around} {E : Value → Shared → Prop} {s : Shared}
theorem search_none {pt tp : Addr} {op ot : Obj} {fs : Array Value} {n : Nat} {vs : Array Value} {code : Array Nat} {x : Str} {t : Tok} {Q : Value → Shared → Prop}
    (hp : s.heap.get? pt = some op) (hc : op.cls = .type "re.Pattern") (hd : op.data = .fields fs) (h6 : reRawNat (fs.getD 6 .none) = 0) (h2 : reRawNat (fs.getD 2 .none) = 0) (h5 : fs.getD 5 .none = .ref tp)
    (ht : s.heap.get? tp = some ot) (hs : ot.data = .seq vs n) (hcode : (vs.map reRawOf).map (·.toNat) = code) (hf : ∀ m : Sre.M, m.code = code → m.hasFirstSet = true)
    (bad : ∀ i, i < x.cps.size → ∀ seen, ∃ seen', Sre.inSet code (x.cps.getD i 0) code.size 5 true seen = .ok (false, seen')) (hx : x.cps.size ≤ 2 ^ 62)
    (h : Q .none s) : wpAny (model prog w) A (call (.builtin "re.Pattern.search") [.ref pt, .str x t]) Q E s := by
  refine wpAny_call_entry slot_pat_search ⟨op, hp, hc⟩ entry_pat_search ?_ (args_pat_search _ _)
  unfold Builtin.«re.Pattern.search»
  refine wpAny_bind (m := reTarget "re.Pattern.search" "search" _) ?_
  unfold reTarget
  refine wpAny_bind (wpAny_of_eq (named_pat_search _) ?_)
  simp only []
  refine wpAny_bind (wpAny_pure ?_)
  refine wpAny_bind (wpAny_pure ?_)
  refine wpAny_bind (wpAny_fieldsOf hp hd ?_)
  refine wpAny_bind (m := reTextOf (.str x t)) (wpAny_bind (m := asStr? (.str x t)) (wpAny_pure (wpAny_pure ?_)))
  simp only []
  rw [h6]
  simp only [Nat.reduceBEq, Bool.false_and, Bool.and_false, Bool.false_eq_true, if_false]
  refine wpAny_bind (m := reNoCollectionInside (.str x t) 0) (wpAny_pure ?_)
  rw [h5]
  refine wpAny_bind (m := reRawItems (.ref tp)) ?_
  unfold reRawItems
  refine wpAny_bind (wpAny_seqItems ht hs (wpAny_pure (wpAny_pure ?_)))
  simp only [Option.getD_some]
  rw [hcode, h2]
  have e1 : Min.min (Int.toNat 0) x.cps.size = 0 := by simp
  have e2 : Min.min ((2 : Int) ^ 63 - 1).toNat x.cps.size = x.cps.size := by
    have : ((2 : Int) ^ 63 - 1).toNat = 2 ^ 63 - 1 := by decide
    rw [this]; omega
  rw [e1, e2]
  refine wpAny_bind (run_failed rfl (search_failed hf bad) ?_)
  exact wpAny_pure ⟨_, rfl, h⟩
end
end Mine
end
section
open PySem PySem.W PyProof.Rows PySem.Calls
set_option Elab.async false
set_option maxRecDepth 100000
namespace Mine
theorem len_app (x y : Str) : (x ++ y).length = x.length + y.length := Str.length_append x y
theorem len_dot : (Str.ofString ".").length = 1 := rfl
noncomputable def Letters (x : Str) : Prop := ∀ i, i < x.length → 97 ≤ x.cps.getD i 0 ∧ x.cps.getD i 0 ≤ 122
noncomputable def pick (tt : Str) (k : Nat) : Str := if k % 2 = 1 then Txt.upper (Txt.item tt (0 + (k : Int))) else Txt.item tt (0 + (k : Int))
noncomputable def nameUpTo (tt : Str) (c : Nat) : Nat → Str
  | 0 => Str.ofString "C"
  | k + 1 => if c.testBit k then nameUpTo tt c k ++ Str.ofString "." ++ pick tt k else nameUpTo tt c k
noncomputable def lineOf (c : Nat) : Str := Str.ofString (toString (0 + (c : Int)))
noncomputable def filedUpTo (tt : Str) (n : Nat) : List (Str × Str) := (List.range n).map fun c => (nameUpTo tt c 4, lineOf c)
theorem bit_zero : ∀ i : Fin 16, ∀ k : Fin 4, Builtin.bitAnd (0 + (i.val : Int)) (1 * 2 ^ (0 + (k.val : Int)).toNat) = 0 ↔ i.val.testBit k.val = false := by decide +kernel
theorem name_skip {tt : Str} {i k : Nat} (hi : i < 16) (hk : k < 4) (h : Builtin.bitAnd (0 + (i : Int)) (1 * 2 ^ (0 + (k : Int)).toNat) = 0) : nameUpTo tt i k = nameUpTo tt i (k + 1) := by
  have := (bit_zero ⟨i, hi⟩ ⟨k, hk⟩).mp h
  simp only at this
  simp [nameUpTo, this]
theorem bit_one {i k : Nat} (hi : i < 16) (hk : k < 4) (h : Builtin.bitAnd (0 + (i : Int)) (1 * 2 ^ (0 + (k : Int)).toNat) ≠ 0) : i.testBit k = true := by
  cases e : i.testBit k with
  | true => rfl
  | false => exact absurd ((bit_zero ⟨i, hi⟩ ⟨k, hk⟩).mpr e) h
theorem name_odd {tt : Str} {i k : Nat} (hi : i < 16) (hk : k < 4) (h : Builtin.bitAnd (0 + (i : Int)) (1 * 2 ^ (0 + (k : Int)).toNat) ≠ 0) (ho : (0 + (k : Int)).fmod 2 = 1) :
    nameUpTo tt i k ++ Str.ofString "." ++ Txt.upper (Txt.item tt (0 + (k : Int))) = nameUpTo tt i (k + 1) := by
  have h1 := bit_one hi hk h
  have h2 : k % 2 = 1 := by rw [Int.fmod_eq_emod_of_nonneg _ (by decide)] at ho; omega
  simp [nameUpTo, h1, pick, h2]
theorem name_even {tt : Str} {i k : Nat} (hi : i < 16) (hk : k < 4) (h : Builtin.bitAnd (0 + (i : Int)) (1 * 2 ^ (0 + (k : Int)).toNat) ≠ 0) (ho : (0 + (k : Int)).fmod 2 ≠ 1) :
    nameUpTo tt i k ++ Str.ofString "." ++ Txt.item tt (0 + (k : Int)) = nameUpTo tt i (k + 1) := by
  have h1 := bit_one hi hk h
  have h2 : ¬ k % 2 = 1 := by rw [Int.fmod_eq_emod_of_nonneg _ (by decide)] at ho; omega
  simp [nameUpTo, h1, pick, h2]
theorem item_len (tt : Str) (i : Int) : (Txt.item tt i).length = 1 := rfl
theorem pick_len (tt : Str) (k : Nat) : (pick tt k).length ≤ 3 := by
  unfold pick
  split
  · exact len_upper _
  · rw [item_len]; decide
theorem name_len (tt : Str) (c : Nat) : ∀ k, (nameUpTo tt c k).length ≤ 1 + 4 * k
  | 0 => by show (Str.ofString "C").length ≤ _; decide
  | k + 1 => by
    have ih := name_len tt c k
    have := pick_len tt k
    unfold nameUpTo
    split
    · rw [len_app, len_app, len_dot]; omega
    · omega
theorem Clean.append {x y : Str} (hx : Clean x) (hy : Clean y) : Clean (x ++ y) := by
  intro i hi
  have e : (x ++ y).cps = x.cps ++ y.cps := Str.cps_append x y
  rw [e] at hi ⊢
  rw [Array.size_append] at hi
  by_cases h : i < x.cps.size
  · have := hx i h
    simp only [Array.getD_eq_getD_getElem?] at this ⊢
    rw [Array.getElem?_append_left h]; exact this
  · have := hy (i - x.cps.size) (by omega)
    simp only [Array.getD_eq_getD_getElem?] at this ⊢
    rw [Array.getElem?_append_right (by omega)]; exact this
theorem clean_lit (x : Str) (h : x.cps.all (fun c => 32 ≤ c && c < 127) = true) : Clean x := by
  intro i hi
  have := Array.all_eq_true.mp h i hi
  simp only [Bool.and_eq_true, decide_eq_true_eq] at this
  simp [Array.getD_eq_getD_getElem?, hi, this]
theorem charAt_nat {tt : Str} {k : Nat} (hk : k < tt.length) : Txt.charAt tt (0 + (k : Int)) = some (tt.cps.getD k 0) := by
  have hk' : k < tt.cps.size := hk
  unfold Txt.charAt seqIndex?
  have e1 : ¬ ((k : Int) < 0) := by omega
  have e2 : (0 : Int) ≤ (k : Int) ∧ (k : Int) < (tt.cps.size : Int) := ⟨by omega, by omega⟩
  simp [hk', Str.length, Array.getD_eq_getD_getElem?, e1, e2]
theorem item_nat {tt : Str} {k : Nat} (hk : k < tt.length) : Txt.item tt (0 + (k : Int)) = ⟨#[tt.cps.getD k 0]⟩ := by
  unfold Txt.item; rw [charAt_nat hk]; rfl
theorem upper_letters : ∀ c : Fin 123, 97 ≤ c.val → Unicode.upperOf c.val = [c.val - 32] := by decide +kernel
theorem upper_letter {c : Nat} (h1 : 97 ≤ c) (h2 : c ≤ 122) : Txt.upper ⟨#[c]⟩ = ⟨#[c - 32]⟩ := by
  have := upper_letters ⟨c, by omega⟩ h1
  simp only at this
  unfold Txt.upper placed
  simp [this]
theorem clean_one {c : Nat} (h1 : 32 ≤ c) (h2 : c < 127) : Clean ⟨#[c]⟩ := clean_lit _ (by simp [h1, h2])
theorem pick_clean {tt : Str} (hl : tt.length = 4) (ht : Letters tt) {k : Nat} (hk : k < 4) : Clean (pick tt k) := by
  have h := ht k (by omega)
  unfold pick
  rw [item_nat (by omega)]
  split
  · rw [upper_letter h.1 h.2]; exact clean_one (by omega) (by omega)
  · exact clean_one (by omega) (by omega)
theorem name_clean {tt : Str} (hl : tt.length = 4) (ht : Letters tt) (c : Nat) : ∀ k, k ≤ 4 → Clean (nameUpTo tt c k)
  | 0, _ => clean_lit (Str.ofString "C") (by decide +kernel)
  | k + 1, h => by
    have ih := name_clean hl ht c k (by omega)
    unfold nameUpTo
    split
    · exact (ih.append (clean_lit _ (by decide +kernel))).append (pick_clean hl ht (by omega))
    · exact ih
theorem line_facts : ∀ c : Fin 16, (lineOf c.val).length ≤ 1000 ∧ (lineOf c.val).cps.all (fun c => 32 ≤ c && c < 127) = true := by decide +kernel
theorem line_len {i : Nat} (h : i < 16) : (Str.ofString (toString (0 + (i : Int)))).length ≤ 1000 := (line_facts ⟨i, h⟩).1
theorem line_clean {i : Nat} (h : i < 16) : Clean (Str.ofString (toString (0 + (i : Int)))) := clean_lit _ (line_facts ⟨i, h⟩).2
end Mine
end
section
open PySem PySem.W PyProof.Rows PySem.Calls
set_option Elab.async false
set_option maxRecDepth 100000
namespace Mine
noncomputable def MyTurn (h₀ : Heap) (L : Addr) (own : List (Addr × Obj)) (J : (Str → Option Value) → List (Addr × Obj) → Prop) (s₁ : Shared) (Q : Flow → Shared → Prop) (f : Flow) (s₂ : Shared) : Prop :=
  match f with
  | .ret v => Q (.ret v) s₂
  | .brk => Q .next s₂
  | _ => ∃ h' tk m₂ news₂, s₂ = { s₁ with heap := h', toks := tk } ∧ Fr h₀ L h' m₂ ∧ News h₀ L h' (own ++ news₂) ∧ (∀ p ∈ news₂, ∀ q ∈ own, p.1 ≠ q.1) ∧ J m₂ news₂
theorem MyTurn.next {h₀ h' : Heap} {L : Addr} {own news₂ : List (Addr × Obj)} {J : (Str → Option Value) → List (Addr × Obj) → Prop} {s₁ : Shared} {Q : Flow → Shared → Prop} {tk : Nat} {m₂ : Str → Option Value}
    (F : Fr h₀ L h' m₂) (N : News h₀ L h' (own ++ news₂)) (ho : ∀ p ∈ news₂, ∀ q ∈ own, p.1 ≠ q.1) (hj : J m₂ news₂) : MyTurn h₀ L own J s₁ Q .next { s₁ with heap := h', toks := tk } :=
  ⟨h', tk, m₂, news₂, rfl, F, N, ho, hj⟩
section
variable {prog : Program} {w : World} {A : Around} {E : Value → Shared → Prop} {s : Shared} {env : Env} {h₀ : Heap} {x : Str} {body : List Stmt} {Q : Flow → Shared → Prop}
/-- a loop over a walk whose iterator is the one new object -/
theorem walk_loop {I : Addr} {n : Nat} {P : Nat → Value → Prop} {St : Nat → Heap → Prop} {m₀ : Str → Option Value} {news : List (Addr × Obj)} (J : Nat → (Str → Option Value) → List (Addr × Obj) → Prop)
    (W : Walks prog w A I [I] [I] n P St) (hI0 : h₀.get? I = none) (hIL : env.locals ≠ I) (hob : ∀ i h, St i h → ∃ o, h.get? I = some o)
    (hnw : ∀ p ∈ news, p.1 ≠ I) (hst : St 0 s.heap) (F : Fr h₀ env.locals s.heap m₀) (N : News h₀ env.locals s.heap news) (hj : J 0 m₀ news)
    (turn : ∀ i v m₁ news₁ h tk o, i < n → P i v → (∀ p ∈ news₁, p.1 ≠ I) → J i m₁ news₁ → Fr h₀ env.locals h (fun y => if y = x then some v else m₁ y) → News h₀ env.locals h ((I, o) :: news₁) →
      wpAny (model prog w) A (execs body env) (MyTurn h₀ env.locals [(I, o)] (J (i + 1)) { s with heap := h, toks := tk } Q) E { s with heap := h, toks := tk })
    (done : ∀ m₁ news₁ h tk, J n m₁ news₁ → Fr h₀ env.locals h m₁ → News h₀ env.locals h news₁ → Q .next { s with heap := h, toks := tk }) :
    LoopAtV prog w A h₀ env x body Q E (.ref I) s := by
  refine ⟨I, [I], [I], n, P, St, m₀, news, J, rfl, W, by simpa using hIL, ?_, ?_, hst, F, N, hj, ?_, ?_⟩
  · intro b hb; rw [List.mem_singleton.mp hb]; exact hI0
  · intro p hp hq; exact hnw p hp (List.mem_singleton.mp hq)
  · rintro i v m₁ news₁ s₁ own ⟨hh', tk', rfl⟩ hin hP hJ hoff hown _ hall hst' F₁ N₁
    obtain ⟨o, ho⟩ := hob _ _ hst'
    have hio : (I, o) ∈ own := hall I (by simp) hI0 o ho
    have h1 : ∀ p ∈ own, p = (I, o) := by
      intro p hp
      have e1 := List.mem_singleton.mp (hown p hp)
      have e2 := (N₁ p (List.mem_append_left _ hp)).1
      rw [e1, ho] at e2
      exact Prod.ext e1 (Option.some.inj e2).symm
    have N₂ : News h₀ env.locals hh' ((I, o) :: news₁) := fun p hp => by
      rcases List.mem_cons.mp hp with e | hp
      · rw [e]; exact N₁ _ (List.mem_append_left _ hio)
      · exact N₁ _ (List.mem_append_right _ hp)
    refine wpAny_mono (turn i v m₁ news₁ hh' tk' o hin hP (fun p hp q => hoff p hp (by rw [q]; simp)) hJ F₁ N₂) (fun f s₂ p => ?_) fun _ _ e => e
    have fin : (∃ h' tk m₂ news₂, s₂ = { s with heap := h', toks := tk } ∧ Fr h₀ env.locals h' m₂ ∧ News h₀ env.locals h' ([(I, o)] ++ news₂) ∧ (∀ p ∈ news₂, ∀ q ∈ [(I, o)], p.1 ≠ q.1) ∧ J (i + 1) m₂ news₂) →
        LoopStepU h₀ env.locals [I] own (J (i + 1)) { s with heap := hh', toks := tk' } .next s₂ := by
      rintro ⟨h', tk, m₂, news₂, e, F', N', hne, hj'⟩
      refine ⟨rfl, h', tk, m₂, news₂, e, F', fun p hp => ?_, fun p hp hq => hne p hp (I, o) (by simp) (List.mem_singleton.mp hq), hj'⟩
      rcases List.mem_append.mp hp with hp | hp
      · rw [h1 p hp]; exact N' _ (by simp)
      · exact N' _ (by simp [hp])
    cases f with
    | ret v => exact .ret p
    | brk => exact .brk p
    | next => exact .next (fin p)
    | cont => exact .cont (fin p)
  · rintro h' tk m' news' F' N' _ hJ
    exact done m' news' h' tk hJ F' N'
theorem range_loop {r : Addr} {a₀ b₀ : Int} {t₀ u₀ v₀ : Tok} {n : Nat} {m₀ : Str → Option Value} {news : List (Addr × Obj)} (J : Nat → (Str → Option Value) → List (Addr × Obj) → Prop)
    (hh : A.handled = none) (hr : IsRange s.heap r a₀ b₀ 1 t₀ u₀ v₀) (hsmall : Builtin.Range.small a₀ b₀ 1 = true) (hn : Builtin.Range.rangeSize a₀ b₀ 1 = (n : Int)) (F : Fr h₀ env.locals s.heap m₀) (N : News h₀ env.locals s.heap news) (hj : J 0 m₀ news)
    (turn : ∀ (i : Nat) t m₁ news₁ h tk I o, i < n → (∀ p ∈ news₁, p.1 ≠ I) → J i m₁ news₁ → Fr h₀ env.locals h (fun y => if y = x then some (.int (a₀ + i) t) else m₁ y) → News h₀ env.locals h ((I, o) :: news₁) →
      wpAny (model prog w) A (execs body env) (MyTurn h₀ env.locals [(I, o)] (J (i + 1)) { s with heap := h, toks := tk } Q) E { s with heap := h, toks := tk })
    (done : ∀ m₁ news₁ h tk, J n m₁ news₁ → Fr h₀ env.locals h m₁ → News h₀ env.locals h news₁ → Q .next { s with heap := h, toks := tk }) :
    wpAny (model prog w) A (pyIter (.ref r)) (fun it s₂ => LoopAtV prog w A h₀ env x body Q E it s₂) E s := by
  refine wpAny_pyIter_range hr hsmall ?_
  have W : Walks prog w A s.heap.objs.size [s.heap.objs.size] [s.heap.objs.size] n (fun i v => i < n ∧ ∃ t, v = .int (a₀ + i * 1) t)
      (fun i h => IsRangeIter h s.heap.objs.size (a₀ + (i : Nat) * 1) ((n : Int) - (i : Nat)) 1) := (Walks.range hh _ a₀ 1 n).bound
  refine walk_loop J W (next_is_new F) (fun e => absurd F.ns.lt (e ▸ Nat.lt_irrefl _)) (fun i h st => ?_) (fun p hp q => absurd (Heap.lt_size (N p hp).1) (q ▸ Nat.lt_irrefl _))
    (by show IsRangeIter _ _ _ _ _; rw [hn]; simpa using Heap.get?_push_size _ rfl) (F.push _) (fun p hp => ⟨Heap.get?_push_of_some _ (N p hp).1, (N p hp).2⟩) hj ?_ ?_
  · exact ⟨_, st⟩
  · rintro i v m₁ news₁ h tk o hi ⟨_, t, rfl⟩ hoff hJ F₁ N₁
    rw [Int.mul_one] at F₁
    exact turn i t m₁ news₁ h tk _ o hi hoff hJ F₁ N₁
  · exact done
theorem range_down {r : Addr} {a₀ b₀ : Int} {t₀ u₀ v₀ : Tok} {n : Nat} {m₀ : Str → Option Value} {news : List (Addr × Obj)} (J : Nat → (Str → Option Value) → List (Addr × Obj) → Prop)
    (hh : A.handled = none) (hr : IsRange s.heap r a₀ b₀ (-1) t₀ u₀ v₀) (hsmall : Builtin.Range.small a₀ b₀ (-1) = true) (hn : Builtin.Range.rangeSize a₀ b₀ (-1) = (n : Int)) (F : Fr h₀ env.locals s.heap m₀) (N : News h₀ env.locals s.heap news) (hj : J 0 m₀ news)
    (turn : ∀ (i : Nat) t m₁ news₁ h tk I o, i < n → (∀ p ∈ news₁, p.1 ≠ I) → J i m₁ news₁ → Fr h₀ env.locals h (fun y => if y = x then some (.int (a₀ - i) t) else m₁ y) → News h₀ env.locals h ((I, o) :: news₁) →
      wpAny (model prog w) A (execs body env) (MyTurn h₀ env.locals [(I, o)] (J (i + 1)) { s with heap := h, toks := tk } Q) E { s with heap := h, toks := tk })
    (done : ∀ m₁ news₁ h tk, J n m₁ news₁ → Fr h₀ env.locals h m₁ → News h₀ env.locals h news₁ → Q .next { s with heap := h, toks := tk }) :
    wpAny (model prog w) A (pyIter (.ref r)) (fun it s₂ => LoopAtV prog w A h₀ env x body Q E it s₂) E s := by
  refine wpAny_pyIter_range hr hsmall ?_
  have W : Walks prog w A s.heap.objs.size [s.heap.objs.size] [s.heap.objs.size] n (fun i v => i < n ∧ ∃ t, v = .int (a₀ + i * (-1)) t)
      (fun i h => IsRangeIter h s.heap.objs.size (a₀ + (i : Nat) * (-1)) ((n : Int) - (i : Nat)) (-1)) := (Walks.range hh _ a₀ (-1) n).bound
  refine walk_loop J W (next_is_new F) (fun e => absurd F.ns.lt (e ▸ Nat.lt_irrefl _)) (fun i h st => ?_) (fun p hp q => absurd (Heap.lt_size (N p hp).1) (q ▸ Nat.lt_irrefl _))
    (by show IsRangeIter _ _ _ _ _; rw [hn]; simpa using Heap.get?_push_size _ rfl) (F.push _) (fun p hp => ⟨Heap.get?_push_of_some _ (N p hp).1, (N p hp).2⟩) hj ?_ ?_
  · exact ⟨_, st⟩
  · rintro i v m₁ news₁ h tk o hi ⟨_, t, rfl⟩ hoff hJ F₁ N₁
    have e : a₀ + (i : Int) * (-1) = a₀ - i := by omega
    rw [e] at F₁
    exact turn i t m₁ news₁ h tk _ o hi hoff hJ F₁ N₁
  · exact done
theorem str_loop {y : Str} {t₀ : Tok} {m₀ : Str → Option Value} {news : List (Addr × Obj)} (J : Nat → (Str → Option Value) → List (Addr × Obj) → Prop)
    (hh : A.handled = none) (hy : y.cps.all (· < 128) = true) (F : Fr h₀ env.locals s.heap m₀) (N : News h₀ env.locals s.heap news) (hj : J 0 m₀ news)
    (turn : ∀ (i : Nat) c t m₁ news₁ h tk I o, y.cps[i]? = some c → (∀ p ∈ news₁, p.1 ≠ I) → J i m₁ news₁ → Fr h₀ env.locals h (fun z => if z = x then some (.str ⟨#[c]⟩ t) else m₁ z) → News h₀ env.locals h ((I, o) :: news₁) →
      wpAny (model prog w) A (execs body env) (MyTurn h₀ env.locals [(I, o)] (J (i + 1)) { s with heap := h, toks := tk } Q) E { s with heap := h, toks := tk })
    (done : ∀ m₁ news₁ h tk, J y.cps.size m₁ news₁ → Fr h₀ env.locals h m₁ → News h₀ env.locals h news₁ → Q .next { s with heap := h, toks := tk }) :
    wpAny (model prog w) A (pyIter (.str y t₀)) (fun it s₂ => LoopAtV prog w A h₀ env x body Q E it s₂) E s := by
  refine wpAny_pyIter_ascii hy ?_
  have W := Walks.strAscii (prog := prog) (w := w) hh s.heap.objs.size y t₀
  refine walk_loop J W (next_is_new F) (fun e => absurd F.ns.lt (e ▸ Nat.lt_irrefl _)) (fun i h st => ?_) (fun p hp q => absurd (Heap.lt_size (N p hp).1) (q ▸ Nat.lt_irrefl _))
    ?_ (F.push _) (fun p hp => ⟨Heap.get?_push_of_some _ (N p hp).1, (N p hp).2⟩) hj ?_ ?_
  · obtain ⟨o, ho, _⟩ := st; exact ⟨o, ho⟩
  · exact ⟨_, Heap.get?_push_size _ rfl, rfl, rfl⟩
  · rintro i v m₁ news₁ h tk o hi ⟨c, t, hc, rfl⟩ hoff hJ F₁ N₁
    exact turn i c t m₁ news₁ h tk _ o hc hoff hJ F₁ N₁
  · exact done
/-- a loop over a list of the ledger, which stays -/
theorem list_loop {ax : Addr} {lo : Obj} {vs : List Value} {k : Nat} {m₀ : Str → Option Value} {news : List (Addr × Obj)} (J : Nat → (Str → Option Value) → List (Addr × Obj) → Prop)
    (hh : A.handled = none) (hlo : lo = listOf vs.toArray k) (hJ : ∀ i m₁ news₁, J i m₁ news₁ → (ax, lo) ∈ news₁) (F : Fr h₀ env.locals s.heap m₀) (N : News h₀ env.locals s.heap news) (hj : J 0 m₀ news)
    (turn : ∀ (i : Nat) v m₁ news₁ h tk I o, vs[i]? = some v → (∀ p ∈ news₁, p.1 ≠ I) → J i m₁ news₁ → Fr h₀ env.locals h (fun z => if z = x then some v else m₁ z) → News h₀ env.locals h ((I, o) :: news₁) →
      wpAny (model prog w) A (execs body env) (MyTurn h₀ env.locals [(I, o)] (J (i + 1)) { s with heap := h, toks := tk } Q) E { s with heap := h, toks := tk })
    (done : ∀ m₁ news₁ h tk, J vs.length m₁ news₁ → Fr h₀ env.locals h m₁ → News h₀ env.locals h news₁ → Q .next { s with heap := h, toks := tk }) :
    wpAny (model prog w) A (pyIter (.ref ax)) (fun it s₂ => LoopAtV prog w A h₀ env x body Q E it s₂) E s := by
  have hax := N _ (hJ 0 m₀ news hj)
  have hls : s.heap.IsList ax vs.toArray := ⟨lo, hax.1, by rw [hlo], k, by rw [hlo]⟩
  have hlt : ax < s.heap.objs.size := Heap.lt_size hax.1
  have hne : ax ≠ s.heap.objs.size := Nat.ne_of_lt hlt
  refine wpAny_pyIter_list hls ?_
  have W := Walks.list (prog := prog) (w := w) hh s.heap.objs.size ax hne vs.toArray
  refine ⟨s.heap.objs.size, _, _, vs.toArray.size, _, _, m₀, news, J, rfl, W, ?_, ?_, ?_, ⟨⟨_, Heap.get?_push_size _ rfl, rfl, rfl⟩, hls.at fun o e => Heap.get?_push_of_some _ e⟩, F.push _, (fun p hp => ⟨Heap.get?_push_of_some _ (N p hp).1, (N p hp).2⟩), hj, ?_, ?_⟩
  · intro hm
    rcases List.mem_cons.mp hm with e | hm
    · exact absurd F.ns.lt (e ▸ Nat.lt_irrefl _)
    · exact hax.2.1 (List.mem_singleton.mp hm).symm
  · intro b hb
    rw [List.mem_singleton.mp hb]
    exact next_is_new F
  · intro p hp hI
    exact absurd (Heap.lt_size (N p hp).1) ((List.mem_singleton.mp hI) ▸ Nat.lt_irrefl _)
  · rintro i v m₁ news₁ s₁ own ⟨hh', tk', rfl⟩ hin hP hJi hoff hown _ hall hst' F₁ N₁
    obtain ⟨⟨o, ho, _⟩, _⟩ := hst'
    have hI0 := next_is_new F
    have hio : (s.heap.objs.size, o) ∈ own := hall _ (by simp) hI0 o ho
    have h1 : ∀ p ∈ own, p = (s.heap.objs.size, o) ∨ p = (ax, lo) := by
      intro p hp
      have e2 := (N₁ p (List.mem_append_left _ hp)).1
      rcases List.mem_cons.mp (hown p hp) with e1 | e1
      · left
        rw [e1, ho] at e2
        exact Prod.ext e1 (Option.some.inj e2).symm
      · right
        have e1 := List.mem_singleton.mp e1
        have e3 := (N₁ _ (List.mem_append_right _ (hJ i m₁ news₁ hJi))).1
        rw [e1] at e2
        simp only at e3
        rw [e3] at e2
        exact Prod.ext e1 (Option.some.inj e2).symm
    have N₂ : News h₀ env.locals hh' ((s.heap.objs.size, o) :: news₁) := fun p hp => by
      rcases List.mem_cons.mp hp with e | hp
      · rw [e]; exact N₁ _ (List.mem_append_left _ hio)
      · exact N₁ _ (List.mem_append_right _ hp)
    refine wpAny_mono (turn i v m₁ news₁ hh' tk' _ o (by simpa using hP) (fun p hp q => hoff p hp (by rw [q]; simp)) hJi F₁ N₂) (fun f s₂ p => ?_) fun _ _ e => e
    have fin : (∃ h' tk m₂ news₂, s₂ = { s with heap := h', toks := tk } ∧ Fr h₀ env.locals h' m₂ ∧ News h₀ env.locals h' ([(s.heap.objs.size, o)] ++ news₂) ∧ (∀ p ∈ news₂, ∀ q ∈ [(s.heap.objs.size, o)], p.1 ≠ q.1) ∧ J (i + 1) m₂ news₂) →
        LoopStepU h₀ env.locals [s.heap.objs.size] own (J (i + 1)) { s with heap := hh', toks := tk' } .next s₂ := by
      rintro ⟨h', tk, m₂, news₂, e, F', N', hne, hj'⟩
      refine ⟨rfl, h', tk, m₂, news₂, e, F', fun p hp => ?_, fun p hp hq => hne p hp (s.heap.objs.size, o) (by simp) (List.mem_singleton.mp hq), hj'⟩
      rcases List.mem_append.mp hp with hp | hp
      · rcases h1 p hp with e | e
        · rw [e]; exact N' _ (by simp)
        · rw [e]; exact N' _ (List.mem_append_right _ (hJ _ _ _ hj'))
      · exact N' _ (by simp [hp])
    cases f with
    | ret v => exact .ret p
    | brk => exact .brk p
    | next => exact .next (fin p)
    | cont => exact .cont (fin p)
  · rintro h' tk m' news' F' N' _ hJ
    exact done m' news' h' tk (by simpa using hJ) F' N'
end
end Mine
end
section
open PySem PySem.W PyProof.Rows PySem.Calls PyProof.Rows.LCg PyProof.Rows.LCt PyProof.Rows.LCp
set_option Elab.async false
set_option maxRecDepth 100000
namespace Mine
/-- the end of an element: the ledger is what it was -/
noncomputable def MyCE (h₀ : Heap) (L : Addr) (m : Str → Option Value) (s₁ : Shared) (led : List (Addr × Obj)) (R : Value → Prop) (y : Value) (s₂ : Shared) : Prop :=
  ∃ h' tk, s₂ = { s₁ with heap := h', toks := tk } ∧ Fr h₀ L h' m ∧ News h₀ L h' led ∧ R y
theorem MyCE.intro {h₀ : Heap} {L : Addr} {m : Str → Option Value} {s₁ : Shared} {led : List (Addr × Obj)} {R : Value → Prop} {y : Value} {h' : Heap} {tk : Nat} (F : Fr h₀ L h' m) (N : News h₀ L h' led) (r : R y) :
    MyCE h₀ L m s₁ led R y { s₁ with heap := h', toks := tk } := ⟨h', tk, rfl, F, N, r⟩
section
variable {prog : Program} {w : World} {A : Around} {E : Value → Shared → Prop} {s : Shared} {h₀ : Heap} {L : Addr} {m : Str → Option Value} {env : Env}
noncomputable def MyTest (prog : Program) (w : World) (A : Around) (h₀ : Heap) (L : Addr) (m : Str → Option Value) (env' : Env) (elt : Expr) (s₁ : Shared) (led : List (Addr × Obj)) (R : Value → Prop) (R' : Prop) (E' : Value → Shared → Prop) (ok : Bool) (s' : Shared) : Prop :=
  if ok = true then wpAny (model prog w) A (eval elt env') (MyCE h₀ L m s₁ led R) E' s' else MyCE h₀ L m s₁ led (fun _ => R') Value.none s'
theorem restT_ind {ct elt : Expr} {x : Str} {scope : Scope} {cl : List (Str × Addr)} {S : List (Addr × Obj) → Prop} {P : Nat → Value → Prop} {Fin : List Value → List (Addr × Obj) → Prop} {news : List (Addr × Obj)} (n : Nat) (J : Nat → List Value → Prop) (hS : S news)
    (turn : ∀ i ys, i < n → J i ys → ∀ v I oI C oC D m₂ h tk (E' : Value → Shared → Prop), P i v → NsObj oC m₂ → m₂ x = some v → Fr h₀ L h m → News h₀ L h ((I, oI) :: (C, oC) :: (D, lst ys) :: news) → Off3 I C D news → ((@Ne Nat I C) ∧ (@Ne Nat I D) ∧ (@Ne Nat C D)) →
      wpAny (model prog w) A (isTrue ct (compEnvC scope cl C env) (eval ct (compEnvC scope cl C env))) (MyTest prog w A h₀ L m (compEnvC scope cl C env) elt { s with heap := h, toks := tk } ((I, oI) :: (C, oC) :: (D, lst ys) :: news) (fun y => J (i + 1) (ys ++ [y])) (J (i + 1) ys) E') E' { s with heap := h, toks := tk })
    (done : ∀ ys, J n ys → Fin ys news) : ∀ k i ys, i + k = n → J i ys → CompRestT prog w A h₀ L m env ct elt x scope cl s S P Fin k i ys news
  | 0, i, ys, e, hj => CompRestT.zero (done ys (by rw [← e]; exact hj))
  | k + 1, i, ys, e, hj => CompRestT.succ fun v I oI C oC D m₂ h tk E' hP hC hx F N off ne =>
    wpAny_mono (turn i ys (by omega) hj v I oI C oC D m₂ h tk E' hP hC hx F N off ne) (fun ok s' ht => by
      unfold MyTest at ht
      cases ok with
      | true =>
        simp only [if_true] at ht ⊢
        exact wpAny_mono ht (fun y s₂ h₂ => by
          obtain ⟨h', tk', rfl, F', N', r⟩ := h₂
          exact CompEnd.intro F' N' news (fun p hp => hp) off hS (restT_ind n J hS turn done k (i + 1) _ (by omega) r)) fun _ _ e => e
      | false =>
        simp only [Bool.false_eq_true, if_false] at ht ⊢
        obtain ⟨h', tk', rfl, F', N', r⟩ := ht
        exact CompEnd.intro F' N' news (fun p hp => hp) off hS (restT_ind n J hS turn done k (i + 1) _ (by omega) r)) fun _ _ e => e
theorem rest_ind {elt : Expr} {x : Str} {scope : Scope} {cl : List (Str × Addr)} {S : List (Addr × Obj) → Prop} {P : Nat → Value → Prop} {Fin : List Value → List (Addr × Obj) → Prop} {news : List (Addr × Obj)} (n : Nat) (J : Nat → List Value → Prop) (hS : S news)
    (turn : ∀ i ys, i < n → J i ys → ∀ v I oI C oC D m₂ h tk (E' : Value → Shared → Prop), P i v → NsObj oC m₂ → m₂ x = some v → Fr h₀ L h m → News h₀ L h ((I, oI) :: (C, oC) :: (D, lst ys) :: news) → Off3 I C D news → ((@Ne Nat I C) ∧ (@Ne Nat I D) ∧ (@Ne Nat C D)) →
      wpAny (model prog w) A (eval elt (compEnvC scope cl C env)) (MyCE h₀ L m { s with heap := h, toks := tk } ((I, oI) :: (C, oC) :: (D, lst ys) :: news) (fun y => J (i + 1) (ys ++ [y]))) E' { s with heap := h, toks := tk })
    (done : ∀ ys, J n ys → Fin ys news) : ∀ k i ys, i + k = n → J i ys → CompRest prog w A h₀ L m env elt x scope cl s S P Fin k i ys news
  | 0, i, ys, e, hj => CompRest.zero (done ys (by rw [← e]; exact hj))
  | k + 1, i, ys, e, hj => CompRest.succ fun v I oI C oC D m₂ h tk E' hP hC hx F N off ne =>
    wpAny_mono (turn i ys (by omega) hj v I oI C oC D m₂ h tk E' hP hC hx F N off ne) (fun y s₂ h₂ => by
      obtain ⟨h', tk', rfl, F', N', r⟩ := h₂
      exact CompEnd.intro F' N' news (fun p hp => hp) off hS (rest_ind n J hS turn done k (i + 1) _ (by omega) r)) fun _ _ e => e
theorem restP_ind {elt : Expr} {x x₂ : Str} {scope : Scope} {cl : List (Str × Addr)} {S : List (Addr × Obj) → Prop} {P : Nat → Value → Prop} {Fin : List Value → List (Addr × Obj) → Prop} {news : List (Addr × Obj)} (n : Nat) (J : Nat → List Value → Prop) (hS : S news)
    (turn : ∀ i ys, i < n → J i ys → ∀ v, P i v → ∃ (t : Addr) (ot : Obj) (v₁ v₂ : Value) (nt : Nat), v = .ref t ∧ (t, ot) ∈ news ∧ ot.cls = .type "tuple" ∧ ot.data = .seq #[v₁, v₂] nt ∧
      ∀ I oI C oC D m₂ h tk (E' : Value → Shared → Prop), NsObj oC m₂ → m₂ x = some v₁ → m₂ x₂ = some v₂ → Fr h₀ L h m → News h₀ L h ((I, oI) :: (C, oC) :: (D, lst ys) :: news) → Off3 I C D news → ((@Ne Nat I C) ∧ (@Ne Nat I D) ∧ (@Ne Nat C D)) →
      wpAny (model prog w) A (eval elt (compEnvC scope cl C env)) (MyCE h₀ L m { s with heap := h, toks := tk } ((I, oI) :: (C, oC) :: (D, lst ys) :: news) (fun y => J (i + 1) (ys ++ [y]))) E' { s with heap := h, toks := tk })
    (done : ∀ ys, J n ys → Fin ys news) : ∀ k i ys, i + k = n → J i ys → CompRestP prog w A h₀ L m env elt x x₂ scope cl s S P Fin k i ys news
  | 0, i, ys, e, hj => CompRestP.zero (done ys (by rw [← e]; exact hj))
  | k + 1, i, ys, e, hj => CompRestP.succ fun v hP => by
    obtain ⟨t, ot, v₁, v₂, nt, e1, e2, e3, e4, body⟩ := turn i ys (by omega) hj v hP
    refine ⟨t, ot, v₁, v₂, nt, e1, e2, e3, e4, fun I oI C oC D m₂ h tk E' hC hx hx₂ F N off ne => ?_⟩
    exact wpAny_mono (body I oI C oC D m₂ h tk E' hC hx hx₂ F N off ne) (fun y s₂ h₂ => by
      obtain ⟨h', tk', rfl, F', N', r⟩ := h₂
      exact CompEnd.intro F' N' news (fun p hp => hp) off hS (restP_ind n J hS turn done k (i + 1) _ (by omega) r)) fun _ _ e => e
end
noncomputable def Strs : List Value → List Str → Prop
  | [], [] => True
  | v :: vs, x :: xs => (∃ t, v = .str x t) ∧ Strs vs xs
  | _, _ => False
theorem Strs.snoc {v : Value} {x : Str} (h : ∃ t, v = .str x t) : ∀ {vs : List Value} {xs : List Str}, Strs vs xs → Strs (vs ++ [v]) (xs ++ [x])
  | [], [], _ => ⟨h, trivial⟩
  | _ :: _, _ :: _, ⟨a, r⟩ => ⟨a, Strs.snoc h r⟩
theorem Strs.length : ∀ {vs : List Value} {xs : List Str}, Strs vs xs → vs.length = xs.length
  | [], [], _ => rfl
  | _ :: _, _ :: _, ⟨_, r⟩ => by simp [r.length]
theorem Strs.get : ∀ {vs : List Value} {xs : List Str}, Strs vs xs → ∀ {i : Nat} {v : Value}, vs[i]? = some v → ∃ x t, xs[i]? = some x ∧ v = .str x t
  | _ :: _, _ :: _, ⟨⟨t, e⟩, _⟩, 0, v, h => by simp at h; exact ⟨_, t, rfl, h ▸ e⟩
  | _ :: _, _ :: _, ⟨_, r⟩, i + 1, v, h => by simpa using r.get (i := i) (v := v) (by simpa using h)
end Mine
end
section
open PySem PySem.W PyProof.Rows PySem.Calls PyProof.Rows.LCg
set_option Elab.async false
set_option maxRecDepth 100000
namespace Mine
section
variable {M : Model} {A : Around} {E : Value → Shared → Prop} {s : Shared} {env : Env}
theorem newEnv_cell {scope : Scope} {globals : Addr} {cl : List (Str × Addr)} {qual : Str} {x n0 n2 n3 : Str} {Q : Env → Shared → Prop} (hn : scope.names = [(n0, .local), (x, .cell), (n2, .globalImplicit), (n3, .free)])
    (h : Q { scope, locals := s.heap.objs.size, globals, cells := (x, s.heap.objs.size + 1) :: cl, qual, func := none, code := env.code, frame := env.frame, builtins := env.builtins }
      { s with heap := (s.heap.push { cls := .type "dict", data := .dict #[] }).push { cls := .type "cell", data := .cell none } }) :
    wpAny M A (newFunctionEnv scope globals cl [] qual none .none (some env)) Q E s := by
  unfold newFunctionEnv
  refine wpAny_bind (wpAny_alloc ?_)
  rw [hn]
  refine wpAny_bind ?_
  refine wpAny_bind (wpAny_pure ?_)
  refine wpAny_bind ?_
  refine wpAny_bind (wpAny_alloc (wpAny_pure ?_))
  refine wpAny_bind (wpAny_pure ?_)
  refine wpAny_bind (wpAny_pure ?_)
  refine wpAny_pure ?_
  refine wpAny_bind (wpAny_pure ?_)
  refine wpAny_pure ?_
  have e : (s.heap.push { cls := .type "dict", data := .dict #[] }).objs.size = s.heap.objs.size + 1 := Heap.size_push ..
  simp only [Option.isSome_some, if_true]
  rw [e]
  exact h
end
section
variable {prog : Program} {w : World} {A : Around} {E : Value → Shared → Prop} {s : Shared} {h₀ : Heap} {L : Addr} {m : Str → Option Value} {env : Env}
noncomputable def CellTurn (prog : Program) (w : World) (A : Around) (h₀ : Heap) (L : Addr) (m : Str → Option Value) (env : Env) (elt : Expr) (x : Str) (scope : Scope) (cl : List (Str × Addr)) (a : Int) (n : Nat) (news : List (Addr × Obj)) (J : Nat → List Value → Prop) : Prop :=
  ∀ (s : Shared) i t ys I oI C oC c oc D h tk (E' : Value → Shared → Prop), i < n → J i ys → oc.data = .cell (some (.int (a + (i : Nat)) t)) → Fr h₀ L h m → News h₀ L h ((I, oI) :: (C, oC) :: (c, oc) :: (D, lst ys) :: news) →
    (∀ p ∈ news, p.1 ≠ I ∧ p.1 ≠ C ∧ p.1 ≠ c ∧ p.1 ≠ D) →
    wpAny (model prog w) A (eval elt (compEnvC scope ((x, c) :: cl) C env)) (MyCE h₀ L m { s with heap := h, toks := tk } ((I, oI) :: (C, oC) :: (c, oc) :: (D, lst ys) :: news) (fun y => J (i + 1) (ys ++ [y]))) E' { s with heap := h, toks := tk }
noncomputable def CellSrc (prog : Program) (w : World) (A : Around) (h₀ : Heap) (L : Addr) (m : Str → Option Value) (env : Env) (elt : Expr) (x : Str) (scope : Scope) (cl : List (Str × Addr)) (Q : Value → Shared → Prop) (xv : Value) (s₁ : Shared) : Prop :=
  ∃ r a b t u v n news J, xv = .ref r ∧ A.handled = none ∧ Fr h₀ L s₁.heap m ∧ News h₀ L s₁.heap news ∧ IsRange s₁.heap r a b 1 t u v ∧ Builtin.Range.small a b 1 = true ∧ Builtin.Range.rangeSize a b 1 = ((n : Nat) : Int) ∧ n ≤ sizeLine ∧ J 0 [] ∧
    CellTurn prog w A h₀ L m env elt x scope cl a n news J ∧ ∀ D h tk ys, J n ys → Fr h₀ L h m → News h₀ L h ((D, lst ys) :: news) → (∀ p ∈ news, p.1 ≠ D) → Q (.ref D) { s₁ with heap := h, toks := tk }
theorem comp_cell {elt iter : Expr} {x n0 n2 n3 : Str} {px : Pos} {scope : Scope} {cl : List (Str × Addr)} {pos : Pos} {Q : Value → Shared → Prop} (_F : Fr h₀ L s.heap m)
    (hclos : closureFor scope env = pure cl) (hkind : scope.kind = .function) (hn : scope.names = [(n0, .local), (x, .cell), (n2, .globalImplicit), (n3, .free)])
    (hnames : ∀ y ∈ scope.names, y.2 = .local → scope.names.lookup y.1 = some .local) (hcx : (relabel scope env).names.lookup x = some .cell)
    (h : wpAny (model prog w) A (eval iter env) (CellSrc prog w A h₀ L m env elt x scope cl Q) E s)
    (hs : ∀ x, foldedSetIterable iter env x = pure x := by intro _; rfl) :
    wpAny (model prog w) A (eval (.ListComp elt [⟨.Name x px, iter, [], 0⟩] scope pos) env) Q E s := by
  rw [eval_ListComp]
  refine wpAny_comprehension_free (use := none) rfl hs hclos hkind hnames (wpAny_mono h (fun xv s₁ h₁ => ?_) fun _ _ e => e)
  obtain ⟨r, a, b, t, u, v, n, news, J, rfl, hh, F, N, hr, hsm, hsize, hsz, hj0, turn, fin⟩ := h₁
  refine wpAny_pyIter_range hr hsm ?_
  refine wpAny_newObj_type (newEnv_cell hn ?_)
  -- the four new objects
  generalize hoI : ({ cls := .type "range_iterator", data := .fields _ } : Obj) = oI0
  generalize hH1 : s₁.heap.push oI0 = H1
  generalize hH2 : H1.push { cls := .type "list", dict := none, data := .seq ([] : List Value).toArray } = H2
  generalize hH3 : H2.push { cls := .type "dict", data := .dict #[] } = H3
  generalize hH4 : H3.push { cls := .type "cell", data := .cell none } = H4
  have z1 : H1.objs.size = s₁.heap.objs.size + 1 := by rw [← hH1, Heap.size_push]
  have z2 : H2.objs.size = s₁.heap.objs.size + 2 := by rw [← hH2, Heap.size_push, z1]
  have z3 : H3.objs.size = s₁.heap.objs.size + 3 := by rw [← hH3, Heap.size_push, z2]
  have up1 : ∀ b o, s₁.heap.get? b = some o → H1.get? b = some o := fun b o e => hH1 ▸ Heap.get?_push_of_some _ e
  have up2 : ∀ b o, H1.get? b = some o → H2.get? b = some o := fun b o e => hH2 ▸ Heap.get?_push_of_some _ e
  have up3 : ∀ b o, H2.get? b = some o → H3.get? b = some o := fun b o e => hH3 ▸ Heap.get?_push_of_some _ e
  have up4 : ∀ b o, H3.get? b = some o → H4.get? b = some o := fun b o e => hH4 ▸ Heap.get?_push_of_some _ e
  have up : ∀ b o, s₁.heap.get? b = some o → H4.get? b = some o := fun b o e => up4 b o (up3 b o (up2 b o (up1 b o e)))
  have gI : H4.get? s₁.heap.objs.size = some oI0 := up4 _ _ (up3 _ _ (up2 _ _ (hH1 ▸ Heap.get?_push_size _ (by rw [← hoI]; rfl))))
  have gD : H4.get? H1.objs.size = some (lst []) := up4 _ _ (up3 _ _ (hH2 ▸ Heap.get?_push_size _ rfl))
  have gC : H4.get? H2.objs.size = some { cls := .type "dict", data := .dict #[] } := up4 _ _ (hH3 ▸ Heap.get?_push_size _ rfl)
  have gc : H4.get? H3.objs.size = some { cls := .type "cell", data := .cell none } := hH4 ▸ Heap.get?_push_size _ rfl
  have zc : H2.objs.size + 1 = H3.objs.size := by rw [z2, z3]
  rw [zc]
  have st0 : IsRangeIter H4 s₁.heap.objs.size (a + ((0 : Nat) : Int) * 1) ((n : Int) - ((0 : Nat) : Int)) 1 := by
    show H4.get? _ = some _
    rw [gI, ← hoI, hsize]; simp
  clear hoI
  have hD0 : H1.objs.size ≠ s₁.heap.objs.size := by omega
  have hC0 : H2.objs.size ≠ s₁.heap.objs.size := by omega
  have hc0 : H3.objs.size ≠ s₁.heap.objs.size := by omega
  have hCD : H2.objs.size ≠ H1.objs.size := by omega
  have hcD : H3.objs.size ≠ H1.objs.size := by omega
  have hcC : H3.objs.size ≠ H2.objs.size := by omega
  have frs : ∀ b, s₁.heap.objs.size ≤ b → h₀.get? b = none ∧ L ≠ b ∧ ∀ p ∈ news, p.1 ≠ b := fun b hb => by
    refine ⟨?_, Nat.ne_of_lt (Nat.lt_of_lt_of_le F.ns.lt hb), fun p hp => Nat.ne_of_lt (Nat.lt_of_lt_of_le (Heap.lt_size (N p hp).1) hb)⟩
    cases e : h₀.get? b with
    | none => rfl
    | some o => exact absurd (Heap.lt_size (F.keep _ _ e)) (Nat.not_lt.mpr hb)
  have fI := frs s₁.heap.objs.size (Nat.le_refl _)
  have fD := frs H1.objs.size (by omega)
  have fC := frs H2.objs.size (by omega)
  have fc := frs H3.objs.size (by omega)
  have F4 := F.keeps up
  have N4 : News h₀ L H4 news := N.grown up
  clear up up1 up2 up3 up4 hH1 hH2 hH3 hH4 z1 z2 z3 zc frs F N
  generalize s₁.heap.objs.size = I at *
  generalize H1.objs.size = D at *
  generalize H2.objs.size = C at *
  generalize H3.objs.size = c at *
  have W := range_walks (prog := prog) (w := w) (A := A) (I := I) hh a n
  have loop : codeAny (model prog w) A (.compLoop (.ListComp elt [⟨.Name x px, iter, [], 0⟩] scope pos) 0 (.ref I) (.ref D) (compEnvC scope ((x, c) :: cl) C env)) (compPost (model prog w) A E none Q (.ref D) C) { s₁ with heap := H4 } := by
    refine codeAny_compLoop_list
      (fun k s' => ∃ h' tk i ys oC oc, s' = { s₁ with heap := h', toks := tk } ∧ i ≤ n ∧ k = n + 1 - i ∧ ys.length = i ∧ IsRangeIter h' I (a + (i : Nat) * 1) ((n : Int) - (i : Nat)) 1 ∧ Fr h₀ L h' m ∧
        h'.get? C = some oC ∧ (∃ mC, NsObj oC mC) ∧ h'.get? c = some oc ∧ (∃ v, oc.data = .cell v) ∧ h'.get? D = some (lst ys) ∧ News h₀ L h' news ∧ J i ys) ?_ (n + 1)
      ⟨H4, s₁.toks, 0, [], _, _, rfl, Nat.zero_le _, rfl, rfl, st0, F4, gC, ⟨fun _ => none, ?_⟩, gc, ⟨none, rfl⟩, gD, N4, hj0⟩
    · rintro k s' ⟨h', tk, i, ys, oC, oc, rfl, hi, rfl, hyl, hst', F', hC', ⟨mC, hmC⟩, hc', ⟨vc, hvc⟩, hD', N', hj'⟩
      by_cases hlt : i < n
      · refine W.item i _ _ _ hlt hst' fun v h₂ tk₂ hP st₂ hk₂ => ?_
        obtain ⟨t', rfl⟩ := hP
        have k2 : ∀ b o, b ≠ I → h'.get? b = some o → h₂.get? b = some o := fun b o hb e => hk₂ b o (by simpa using hb) e
        refine wpAny_assign_Name (wpAny_storeName_cell (v₀ := vc) (c := c) (by simp [compEnvC, relabel, hkind]) hcx (by simp [compEnvC]) ⟨oc, k2 _ _ hc0 hc', hvc⟩ fun h₃ hv₃ hs₃ => ?_)
        obtain ⟨oc3, hoc3, hdc3⟩ := hv₃
        have k3 : ∀ b o, b ≠ I → b ≠ c → h'.get? b = some o → h₃.get? b = some o := fun b o h1 h2 e => hs₃.extBut b o h2 (k2 b o h1 e)
        have F₃ : Fr h₀ L h₃ m := (fr_but F' hk₂ fI.2.1 fI.1).change hs₃ (Ne.symm fc.2.1) fc.1
        have N₃ : News h₀ L h₃ news := fun p hp => ⟨k3 _ _ (fI.2.2 p hp) (fc.2.2 p hp) (N' p hp).1, (N' p hp).2⟩
        have st₂' : h₂.get? I = some _ := st₂
        have gI3 := hs₃.extBut I _ (Ne.symm hc0) st₂'
        have NL : News h₀ L h₃ ((I, _) :: (C, oC) :: (c, oc3) :: (D, lst ys) :: news) := fun p hp => by
          simp only [List.mem_cons] at hp
          rcases hp with e | e | e | e | hp
          · rw [e]; exact ⟨gI3, Ne.symm fI.2.1, fI.1⟩
          · rw [e]; exact ⟨k3 _ _ hC0 (Ne.symm hcC) hC', Ne.symm fC.2.1, fC.1⟩
          · rw [e]; exact ⟨hoc3, Ne.symm fc.2.1, fc.1⟩
          · rw [e]; exact ⟨k3 _ _ hD0 (Ne.symm hcD) hD', Ne.symm fD.2.1, fD.1⟩
          · exact N₃ p hp
        refine wpAny_mono (turn s₁ i t' ys I _ C oC c oc3 D h₃ _ _ hlt hj' hdc3 F₃ NL (fun p hp => ⟨fI.2.2 p hp, fC.2.2 p hp, fc.2.2 p hp, fD.2.2 p hp⟩)) (fun y s₄ h₄ => ?_) fun _ _ e => e
        obtain ⟨h₄, tk₄, rfl, F₄, N₄, hJ⟩ := h₄
        have gI4 := (N₄ (I, _) List.mem_cons_self).1
        have gC4 := (N₄ (C, oC) (List.mem_cons_of_mem _ List.mem_cons_self)).1
        have gc4 := (N₄ (c, oc3) (List.mem_cons_of_mem _ (List.mem_cons_of_mem _ List.mem_cons_self))).1
        have gD4 := (N₄ (D, lst ys) (List.mem_cons_of_mem _ (List.mem_cons_of_mem _ (List.mem_cons_of_mem _ List.mem_cons_self)))).1
        refine append_at (hsz := by show ys.toArray.size ≤ sizeLine; rw [List.size_toArray, hyl]; exact Nat.le_trans hi hsz) gD4 fun h₅ hs₅ hD₅ => ?_
        refine ⟨n + 1 - (i + 1), by omega, h₅, tk₄, i + 1, ys ++ [y], oC, oc3, rfl, hlt, rfl, by rw [List.length_append, List.length_singleton, hyl], ?_, F₄.change hs₅ (Ne.symm fD.2.1) fD.1,
          hs₅.extBut _ _ hCD gC4, ⟨mC, hmC⟩, hs₅.extBut _ _ hcD gc4, ⟨_, hdc3⟩, hD₅.trans (congrArg some (lst_snoc ys y)), fun p hp => ?_, hJ⟩
        · exact hs₅.extBut _ _ (Ne.symm hD0) gI4
        · have z := N₄ p (List.mem_cons_of_mem _ (List.mem_cons_of_mem _ (List.mem_cons_of_mem _ (List.mem_cons_of_mem _ hp))))
          exact ⟨hs₅.extBut _ _ (fD.2.2 p hp) z.1, z.2⟩
      · obtain rfl : i = n := Nat.le_antisymm hi (Nat.not_lt.mp hlt)
        refine W.done _ _ _ hst' fun h₂ tk₂ hk₂ => ?_
        have k2 : ∀ b o, b ≠ I → h'.get? b = some o → h₂.get? b = some o := fun b o hb e => hk₂ b o (by simpa using hb) e
        refine ⟨mC, hmC.ns (k2 _ _ hC0 hC'), fun h₃ hs₃ => ?_⟩
        refine fin D h₃ _ ys hj' ((fr_but F' hk₂ fI.2.1 fI.1).change hs₃ (Ne.symm fC.2.1) fC.1) (fun p hp => ?_) fD.2.2
        rcases List.mem_cons.mp hp with e | hp
        · rw [e]; exact ⟨hs₃.extBut _ _ (Ne.symm hCD) (k2 _ _ hD0 hD'), Ne.symm fD.2.1, fD.1⟩
        · exact ⟨hs₃.extBut _ _ (fC.2.2 p hp) (k2 _ _ (fI.2.2 p hp) (N' p hp).1), (N' p hp).2⟩
    · exact ⟨#[], 0, rfl, fun e he => absurd he (by simp), fun name => rfl⟩
  exact codeAny_compStart_list loop (W.self 0 _ _ _ st0 loop)
end
end Mine
end
section
open PySem PySem.W PyProof.Rows
set_option Elab.async false
namespace Mine
abbrev PR : Program := PySem.Challenge.rw_wo0059_01.row.toRowW.prog
abbrev LS : List Str := [Str.ofString "tspecials", Str.ofString "_name_disallowed_re", Str.ofString "_value_disallowed_re", Str.ofString "_formatparam"]
/-- the contract of a call of the def at `f`: from any ledger `news` on -/
@[irreducible] noncomputable def Says (w : World) (f : Addr) (vs : List Value) (news : List (Addr × Obj)) (D U : Nat) (Post : Value → List (Addr × Obj) → Prop) : Prop :=
  ∀ (mean : ExcName → Option Value) (mg mb : Str → Option Value) (dp un : Nat) (gd : Option (List Code)) (cn : Str) (cs : Scope) (a : Addr) (ccd : Value) (cl : List (Str × Addr)) (outer : List Env) (A₀ : Around) (base h₀ : Heap) (L : Addr) (m : Str → Option Value) (s : Shared) (Q E : Value → Shared → Prop),
    Below A₀ base outer h₀ → Fr h₀ L s.heap m → (Mine.hd.heap_39 w.params).In h₀ → News h₀ L s.heap news → Top Mine.hd.view_39 (looseW Mine.hd.view_39 LS) mean mg mb h₀ → cs.kind = .function → dp + D < recursionLimit → un + U < cLine →
    (∀ r news' h' tk', Fr h₀ L h' m → News h₀ L h' news' → Post r news' → Q r { s with heap := h', toks := tk' }) →
    wpAny (model PR w) (ktrTop dp un gd cn cs L a ccd cl outer) (call (.ref f) vs) Q E s
theorem says_mono {w : World} {f : Addr} {vs : List Value} {news : List (Addr × Obj)} {D U : Nat} {P P' : Value → List (Addr × Obj) → Prop} (S : Says w f vs news D U P) (hP : ∀ r n, P r n → P' r n) : Says w f vs news D U P' := by
  unfold Says at S ⊢
  intro mean mg mb dp un gd cn cs a ccd cl outer A₀ base h₀ L m s Q E B F X N T hk hd hu hret
  exact S mean mg mb dp un gd cn cs a ccd cl outer A₀ base h₀ L m s Q E B F X N T hk hd hu fun r n h' tk' F' N' h => hret r n h' tk' F' N' (hP r n h)
theorem says_use {w : World} {f : Addr} {vs : List Value} {news : List (Addr × Obj)} {D U : Nat} {Post : Value → List (Addr × Obj) → Prop}
    {mean : ExcName → Option Value} {mg mb : Str → Option Value} {dp un : Nat} {gd : Option (List Code)} {cn : Str} {cs : Scope} {a : Addr} {ccd : Value} {cl : List (Str × Addr)} {outer : List Env} {A₀ : Around} {base h₀ : Heap} {L : Addr} {m : Str → Option Value} {s : Shared} {Q E : Value → Shared → Prop}
    (B : Below A₀ base outer h₀) (F : Fr h₀ L s.heap m) (X : (Mine.hd.heap_39 w.params).In h₀) (N : News h₀ L s.heap news) (T : Top Mine.hd.view_39 (looseW Mine.hd.view_39 LS) mean mg mb h₀) (hk : cs.kind = .function) (S : Says w f vs news D U Post)
    (hd : dp + D < recursionLimit) (hu : un + U < cLine)
    (ret : ∀ r news' h' tk', Fr h₀ L h' m → News h₀ L h' news' → Post r news' → Q r { s with heap := h', toks := tk' }) :
    wpAny (model PR w) (ktrTop dp un gd cn cs L a ccd cl outer) (call (.ref f) vs) Q E s := by
  unfold Says at S; exact S mean mg mb dp un gd cn cs a ccd cl outer A₀ base h₀ L m s Q E B F X N T hk hd hu ret
theorem su {w : World} {f : Addr} {vs : List Value} {news : List (Addr × Obj)} {D U : Nat} {Post : Value → List (Addr × Obj) → Prop}
    {mean : ExcName → Option Value} {mg mb : Str → Option Value} {dp un : Nat} {gd : Option (List Code)} {cn : Str} {cs : Scope} {a : Addr} {ccd : Value} {cl : List (Str × Addr)} {outer : List Env} {A₀ : Around} {base h₀ : Heap} {L : Addr} {m : Str → Option Value} {s : Shared} {Q E : Value → Shared → Prop}
    (B : Below A₀ base outer h₀ := by k_asm) (F : Fr h₀ L s.heap m := by k_asm) (X : (Mine.hd.heap_39 w.params).In h₀ := by k_asm) (N : News h₀ L s.heap news := by k_asm) (T : Top Mine.hd.view_39 (looseW Mine.hd.view_39 LS) mean mg mb h₀ := by k_asm) (hk : cs.kind = .function := by exact rfl) (S : Says w f vs news D U Post)
    (hd : dp + D < recursionLimit := by ktr_room) (hu : un + U < cLine := by ktr_units)
    (ret : ∀ r news' h' tk', Fr h₀ L h' m → News h₀ L h' news' → Post r news' → Q r { s with heap := h', toks := tk' }) :
    wpAny (model PR w) (ktrTop dp un gd cn cs L a ccd cl outer) (call (.ref f) vs) Q E s := by
  unfold Says at S; exact S mean mg mb dp un gd cn cs a ccd cl outer A₀ base h₀ L m s Q E B F X N T hk hd hu ret
theorem sA {w : World} {f : Addr} {vs : List Value} {news : List (Addr × Obj)} {D U : Nat}
    {mean : ExcName → Option Value} {mg mb : Str → Option Value} {dp un : Nat} {gd : Option (List Code)} {cn : Str} {cs : Scope} {a : Addr} {ccd : Value} {cl : List (Str × Addr)} {outer : List Env} {A₀ : Around} {base h₀ : Heap} {L : Addr} {m : Str → Option Value} {s : Shared} {Q E : Value → Shared → Prop} {X₀ : Str} (B : Below A₀ base outer h₀ := by k_asm) (F : Fr h₀ L s.heap m := by k_asm) (X : (Mine.hd.heap_39 w.params).In h₀ := by k_asm) (N : News h₀ L s.heap news := by k_asm) (T : Top Mine.hd.view_39 (looseW Mine.hd.view_39 LS) mean mg mb h₀ := by k_asm) (hk : cs.kind = .function := by exact rfl)
    (S : Says w f vs news D U (fun r n => n = news ∧ ∃ tk, r = .str X₀ tk)) (hd : dp + D < recursionLimit := by ktr_room) (hu : un + U < cLine := by ktr_units)
    (ret : ∀ h' tk' tk, Fr h₀ L h' m → News h₀ L h' news → Q (.str X₀ tk) { s with heap := h', toks := tk' }) : wpAny (model PR w) (ktrTop dp un gd cn cs L a ccd cl outer) (call (.ref f) vs) Q E s := by
  unfold Says at S; exact S mean mg mb dp un gd cn cs a ccd cl outer A₀ base h₀ L m s Q E B F X N T hk hd hu fun _ _ h' tk' F' N' ⟨e, tk, e'⟩ => by subst e; subst e'; exact ret h' tk' tk F' N'
theorem sI {w : World} {f : Addr} {vs : List Value} {news : List (Addr × Obj)} {D U : Nat}
    {mean : ExcName → Option Value} {mg mb : Str → Option Value} {dp un : Nat} {gd : Option (List Code)} {cn : Str} {cs : Scope} {a : Addr} {ccd : Value} {cl : List (Str × Addr)} {outer : List Env} {A₀ : Around} {base h₀ : Heap} {L : Addr} {m : Str → Option Value} {s : Shared} {Q E : Value → Shared → Prop} {X₀ : Int} (B : Below A₀ base outer h₀ := by k_asm) (F : Fr h₀ L s.heap m := by k_asm) (X : (Mine.hd.heap_39 w.params).In h₀ := by k_asm) (N : News h₀ L s.heap news := by k_asm) (T : Top Mine.hd.view_39 (looseW Mine.hd.view_39 LS) mean mg mb h₀ := by k_asm) (hk : cs.kind = .function := by exact rfl)
    (S : Says w f vs news D U (fun r n => n = news ∧ ∃ tk, r = .int X₀ tk)) (hd : dp + D < recursionLimit := by ktr_room) (hu : un + U < cLine := by ktr_units)
    (ret : ∀ h' tk' tk, Fr h₀ L h' m → News h₀ L h' news → Q (.int X₀ tk) { s with heap := h', toks := tk' }) : wpAny (model PR w) (ktrTop dp un gd cn cs L a ccd cl outer) (call (.ref f) vs) Q E s := by
  unfold Says at S; exact S mean mg mb dp un gd cn cs a ccd cl outer A₀ base h₀ L m s Q E B F X N T hk hd hu fun _ _ h' tk' F' N' ⟨e, tk, e'⟩ => by subst e; subst e'; exact ret h' tk' tk F' N'
theorem sB {w : World} {f : Addr} {vs : List Value} {news : List (Addr × Obj)} {D U : Nat}
    {mean : ExcName → Option Value} {mg mb : Str → Option Value} {dp un : Nat} {gd : Option (List Code)} {cn : Str} {cs : Scope} {a : Addr} {ccd : Value} {cl : List (Str × Addr)} {outer : List Env} {A₀ : Around} {base h₀ : Heap} {L : Addr} {m : Str → Option Value} {s : Shared} {Q E : Value → Shared → Prop} {P : List Value → Prop} (B : Below A₀ base outer h₀ := by k_asm) (F : Fr h₀ L s.heap m := by k_asm) (X : (Mine.hd.heap_39 w.params).In h₀ := by k_asm) (N : News h₀ L s.heap news := by k_asm) (T : Top Mine.hd.view_39 (looseW Mine.hd.view_39 LS) mean mg mb h₀ := by k_asm) (hk : cs.kind = .function := by exact rfl)
    (S : Says w f vs news D U (fun r nw => ∃ l ys, r = .ref l ∧ P ys ∧ nw = (l, LCg.lst ys) :: news ∧ (∀ p ∈ news, p.1 ≠ l))) (hd : dp + D < recursionLimit := by ktr_room) (hu : un + U < cLine := by ktr_units)
    (ret : ∀ h' tk' l ys, Fr h₀ L h' m → News h₀ L h' ((l, LCg.lst ys) :: news) → P ys → (∀ p ∈ news, p.1 ≠ l) → Q (.ref l) { s with heap := h', toks := tk' }) : wpAny (model PR w) (ktrTop dp un gd cn cs L a ccd cl outer) (call (.ref f) vs) Q E s := by
  unfold Says at S; exact S mean mg mb dp un gd cn cs a ccd cl outer A₀ base h₀ L m s Q E B F X N T hk hd hu fun _ _ h' tk' F' N' ⟨l, ys, e, hp, e', ho⟩ => by subst e; subst e'; exact ret h' tk' l ys F' N' hp ho
theorem sC {w : World} {f : Addr} {vs : List Value} {news : List (Addr × Obj)} {D U : Nat}
    {mean : ExcName → Option Value} {mg mb : Str → Option Value} {dp un : Nat} {gd : Option (List Code)} {cn : Str} {cs : Scope} {a : Addr} {ccd : Value} {cl : List (Str × Addr)} {outer : List Env} {A₀ : Around} {base h₀ : Heap} {L : Addr} {m : Str → Option Value} {s : Shared} {Q E : Value → Shared → Prop} {P : List Value → Prop} (B : Below A₀ base outer h₀ := by k_asm) (F : Fr h₀ L s.heap m := by k_asm) (X : (Mine.hd.heap_39 w.params).In h₀ := by k_asm) (N : News h₀ L s.heap news := by k_asm) (T : Top Mine.hd.view_39 (looseW Mine.hd.view_39 LS) mean mg mb h₀ := by k_asm) (hk : cs.kind = .function := by exact rfl)
    (S : Says w f vs news D U (fun r nw => ∃ l ys k, r = .ref l ∧ P ys ∧ nw = (l, W.listOf ys.toArray k) :: news ∧ (∀ p ∈ news, p.1 ≠ l))) (hd : dp + D < recursionLimit := by ktr_room) (hu : un + U < cLine := by ktr_units)
    (ret : ∀ h' tk' l ys k, Fr h₀ L h' m → News h₀ L h' ((l, W.listOf (List.toArray ys) k) :: news) → P ys → (∀ p ∈ news, p.1 ≠ l) → Q (.ref l) { s with heap := h', toks := tk' }) : wpAny (model PR w) (ktrTop dp un gd cn cs L a ccd cl outer) (call (.ref f) vs) Q E s := by
  unfold Says at S; exact S mean mg mb dp un gd cn cs a ccd cl outer A₀ base h₀ L m s Q E B F X N T hk hd hu fun _ _ h' tk' F' N' ⟨l, ys, k, e, hp, e', ho⟩ => by subst e; subst e'; exact ret h' tk' l ys k F' N' hp ho
theorem sD {w : World} {f : Addr} {vs : List Value} {news : List (Addr × Obj)} {D U : Nat}
    {mean : ExcName → Option Value} {mg mb : Str → Option Value} {dp un : Nat} {gd : Option (List Code)} {cn : Str} {cs : Scope} {a : Addr} {ccd : Value} {cl : List (Str × Addr)} {outer : List Env} {A₀ : Around} {base h₀ : Heap} {L : Addr} {m : Str → Option Value} {s : Shared} {Q E : Value → Shared → Prop} {b : Bool} (B : Below A₀ base outer h₀ := by k_asm) (F : Fr h₀ L s.heap m := by k_asm) (X : (Mine.hd.heap_39 w.params).In h₀ := by k_asm) (N : News h₀ L s.heap news := by k_asm) (T : Top Mine.hd.view_39 (looseW Mine.hd.view_39 LS) mean mg mb h₀ := by k_asm) (hk : cs.kind = .function := by exact rfl)
    (S : Says w f vs news D U (fun r nw => r = .bool b ∧ nw = news)) (hd : dp + D < recursionLimit := by ktr_room) (hu : un + U < cLine := by ktr_units)
    (ret : ∀ h' tk', Fr h₀ L h' m → News h₀ L h' news → Q (.bool b) { s with heap := h', toks := tk' }) : wpAny (model PR w) (ktrTop dp un gd cn cs L a ccd cl outer) (call (.ref f) vs) Q E s := by
  unfold Says at S; exact S mean mg mb dp un gd cn cs a ccd cl outer A₀ base h₀ L m s Q E B F X N T hk hd hu fun _ _ h' tk' F' N' ⟨e, e'⟩ => by subst e; subst e'; exact ret h' tk' F' N'
end Mine
end
section
open PySem PySem.W PyProof.Rows
set_option Elab.async false
namespace Mine
abbrev tupO (vs : List Value) : Obj := { cls := .type "tuple", data := .seq vs.toArray }
local macro_rules | `(tactic| walk_at "binaryOp Add str str") => `(tactic| (k_here; (refine add_str ?_ (by (simp only [len_app, len_dot, PySem.sizeLine_eq]; omega))); intro t' tk'))
set_option maxRecDepth 100000 in
set_option maxHeartbeats 8000000 in
theorem build_two (w : World) (news : List (Addr × Obj)) (t : Addr) (x y : Str) (tx ty : Tok) (hm : (t, tupO [.str x tx, .str y ty]) ∈ news) (hx : x.length ≤ 1000) (hy : y.length ≤ 1000) :
    Says w 45 [.ref t] news 10 80 (fun r n => n = news ∧ ∃ tk, r = .str (x ++ Str.ofString "." ++ y) tk) := by
  unfold Says PR
  w_top off
  k_fill
  intro mean mg mb dp un gd cn cs a ccd cl outer A₀ base h₀ L m s Q E B F X N T hk hdp hun hret
  refine wpAny_call ?_
  k_dflt ktr_enter
  k_steps
  all_goals exact hret _ _ _ _ (by k_asm) (by k_asm) ⟨rfl, _, rfl⟩
theorem build_none (w : World) (news : List (Addr × Obj)) (t : Addr) (hm : (t, tupO [.none, .none]) ∈ news) :
    Says w 45 [.ref t] news 10 80 (fun r n => n = news ∧ ∃ tk, r = .str (Str.ofString "C") tk) := by
  unfold Says PR
  k_fill
  intro mean mg mb dp un gd cn cs a ccd cl outer A₀ base h₀ L m s Q E B F X N T hk hdp hun hret
  refine wpAny_call ?_
  k_dflt ktr_enter
  k_steps
  all_goals exact hret _ _ _ _ (by k_asm) (by k_asm) ⟨rfl, _, rfl⟩
end Mine
end
section
open PySem PySem.W PyProof.Rows
set_option Elab.async false
namespace Mine
set_option maxRecDepth 100000 in
set_option maxHeartbeats 8000000 in
theorem add_two (w : World) (news : List (Addr × Obj)) (x y : Int) (tx ty : Tok) :
    Says w 59 [.int x tx, .int y ty] news 10 80 (fun r n => n = news ∧ ∃ tk, r = .int (x + y) tk) := by
  unfold Says PR
  w_top off
  k_fill
  intro mean mg mb dp un gd cn cs a ccd cl outer A₀ base h₀ L m s Q E B F X N T hk hdp hun hret
  refine wpAny_call ?_
  k_dflt ktr_enter
  k_steps
  all_goals exact hret _ _ _ _ (by k_asm) (by k_asm) ⟨rfl, _, rfl⟩
set_option maxRecDepth 100000 in
set_option maxHeartbeats 8000000 in
theorem mul_two (w : World) (news : List (Addr × Obj)) (x y : Int) (tx ty : Tok) (hx : 0 ≤ x) (hx1 : x ≤ 1000) :
    Says w 80 [.int x tx, .int y ty] news 10 80 (fun r n => n = news ∧ ∃ tk, r = .int (x * y) tk) := by
  unfold Says PR
  k_fill
  intro mean mg mb dp un gd cn cs a ccd cl outer A₀ base h₀ L m s Q E B F X N T hk hdp hun hret
  refine wpAny_call ?_
  k_dflt ktr_enter
  k_steps
  all_goals exact hret _ _ _ _ (by k_asm) (by k_asm) ⟨rfl, _, rfl⟩
end Mine
end
section
open PySem PySem.W PyProof.Rows
set_option Elab.async false
namespace Mine
abbrev hdrD (hh : Int) (kt : Tok) (lst : Addr) (dn : Nat) : Obj := dictOf [⟨hh, .str (Str.ofString "_headers") kt, .ref lst⟩] dn
section
variable {prog : Program} {w : World} {A : Around} {E : Value → Shared → Prop} {s : Shared} {h₀ : Heap} {L : Addr} {K : Frag} {m : Str → Option Value}
theorem search_method {pt : Addr} {sl : Array (Option Value)} {fs : Array Value} {pl : Sem Bool} {Q : Value × List Value → Shared → Prop} (F : Fr h₀ L s.heap m) (X : K.In h₀) (hp : K.lookup pt = some ⟨.type "re.Pattern", none, .fields fs, sl⟩)
    (h : Q (.builtin "re.Pattern.search", [.ref pt]) s) : wpAny (model prog w) A (getMethod (.ref pt) (Str.ofString "search") pl) Q E s :=
  getMethod_builtin ⟨_, (X.keeps F.keep) _ _ hp, rfl⟩ plainAttrs_pat slot_pat_search type_pat_search (fun a e => by cases e; exact ⟨_, (X.keeps F.keep) _ _ hp, rfl⟩) h
theorem search_call {pt tp : Addr} {sl sl' : Array (Option Value)} {fs vs : Array Value} {n : Nat} {x : Str} {t : Tok} {c : Value} {o : Option Addr} {Q : Value → Shared → Prop} (F : Fr h₀ L s.heap m) (X : K.In h₀) (hp : K.lookup pt = some ⟨.type "re.Pattern", none, .fields fs, sl⟩)
    (ht : K.lookup tp = some ⟨c, o, .seq vs n, sl'⟩) (h6 : Builtin.Re.reRawNat (fs.getD 6 .none) = 0) (h2 : Builtin.Re.reRawNat (fs.getD 2 .none) = 0) (h5 : fs.getD 5 .none = .ref tp)
    (hcode : (vs.map Builtin.Re.reRawOf).map (·.toNat) = codeN ∨ (vs.map Builtin.Re.reRawOf).map (·.toNat) = codeV) (hx : Clean x) (hl : x.length ≤ 100000)
    (h : Q .none s) : wpAny (model prog w) A (call (.builtin "re.Pattern.search") [.ref pt, .str x t]) Q E s := by
  have hX := X.keeps F.keep
  have hl' : x.cps.size ≤ 2 ^ 62 := Nat.le_trans hl (by decide)
  rcases hcode with e | e
  · exact search_none (hX _ _ hp) rfl rfl h6 h2 h5 (hX _ _ ht) rfl e firstN (fun i hi seen => badN _ (hx i hi).1 (hx i hi).2 seen) hl' h
  · exact search_none (hX _ _ hp) rfl rfl h6 h2 h5 (hX _ _ ht) rfl e firstV (fun i hi seen => badV _ (hx i hi).1 (hx i hi).2 seen) hl' h
end
local macro_rules | `(tactic| walk_at "getMethod ref") => `(tactic| (k_here; (with_reducible show wpAny _ _ (getMethod (Value.ref _) (PySem.Str.ofString "search") _) _ _ _); k_dflt (refine' search_method ?k1 ?k2 ?k3 ?_; (case k1 => k_asm); (case k2 => k_asm); (case k3 => k_is))))
local macro_rules | `(tactic| walk_at "call builtin:re.Pattern.search") => `(tactic| (k_here; k_dflt (refine' search_call ?k1 ?k2 ?k3 ?k4 ?k5 ?k6 ?k7 ?k8 ?k9 ?k10 ?_; (case k1 => k_asm); (case k2 => k_asm); (case k3 => k_is); (case k5 => exact rfl); (case k6 => exact rfl); (case k7 => exact rfl); (case k4 => k_is); (case k8 => first | exact Or.inl (by decide +kernel) | exact Or.inr (by decide +kernel)); (case k9 => assumption); (case k10 => omega))))
local macro_rules | `(tactic| k_all) => `(tactic| assumption)
local macro_rules | `(tactic| k_room) => `(tactic| ktr_room)
local macro_rules | `(tactic| k_units) => `(tactic| ktr_units)
local macro_rules | `(tactic| k_mem) => `(tactic| first | assumption | (refine List.mem_cons_of_mem _ ?_; k_mem))
theorem drop_mid {h₀ h : Heap} {L : Addr} {a b c d e : Addr × Obj} {l : List (Addr × Obj)} (N : News h₀ L h (a :: b :: c :: d :: e :: l)) : News h₀ L h (a :: e :: l) :=
  fun p hp => N p (by simp only [List.mem_cons] at hp ⊢; rcases hp with h | h | h <;> simp [h])
theorem swap_led {h₀ h : Heap} {L : Addr} {a b : Addr × Obj} {l : List (Addr × Obj)} (N : News h₀ L h (a :: b :: l)) : News h₀ L h (b :: a :: l) :=
  fun p hp => N p (by simp only [List.mem_cons] at hp ⊢; rcases hp with h | h | h <;> simp [h])
theorem join_one (x y : Str) : Txt.join x [y] = y := by
  show Builtin.Str.glued x [y] = y
  simp [Builtin.Str.glued]
set_option maxRecDepth 100000 in
set_option maxHeartbeats 8000000 in
theorem add_header (w : World) (rest : List (Addr × Obj)) (lst tbl d : Addr) (its : Array Value) (n dn : Nat) (hh : Int) (kt : Tok) (x y : Str) (tx ty : Tok)
    (h1 : (tbl, instObj 224 d) ∈ rest) (h2 : (d, hdrD hh kt lst dn) ∈ rest) (hne : ∀ p ∈ rest, p.1 ≠ lst) (hx : x.length ≤ 1000) (hy : y.length ≤ 1000) (cx : Clean x) (cy : Clean y) (hn : its.size ≤ 100000) :
    Says w 221 [.ref tbl, .str x tx, .str y ty] ((lst, listOf its n) :: rest) 10 80
      (fun r nw => r = .none ∧ ∃ t tx' ty', nw = (lst, listOf (its.push (.ref t)) (n + 1)) :: (t, tupO [.str x tx', .str y ty']) :: rest ∧ t ≠ lst ∧ ∀ p ∈ rest, p.1 ≠ t) := by
  unfold Says PR
  w_top off
  k_fill
  intro mean mg mb dp un gd cn cs a ccd cl outer A₀ base h₀ L m s Q E B F X N T hk hdp hun hret
  refine wpAny_call ?_
  k_dflt (refine' kp_more ?k1 ?k2 ?k3 ?k4 ?k5 ?kA ?kF ?kK ?k6 ?k7 ?k8 ?kX ?kM ?kN ?kD ?kR ?kP ?kT ?kB ?_ ?c2 ?c3 ?c4 ?c5; (case kA => exact rfl); (case kF => exact rfl); (case kK => assumption); (case k1 => k_asm); (case k2 => k_asm); (case k3 => k_asm); (case k4 => k_asm); (case k5 => k_asm); (case k6 => k_is); (case k7 => k_is); (case k8 => ktr_room); (case kX => kp_lit); (case kM => exact rfl); (case kN => exact rfl); (case kD => kp_flats); (case kR => exact rfl); (case kP => exact rfl); (case kT => exact fun _ => rfl); (case kB => exact fun _ => locs rfl); (case c5 => decide); (case c2 => exact rfl); (case c3 => exact rfl); (case c4 => exact rfl); k_whole; intro D' o' g' L' h' tk' l1 lo' hs' fs' FG' F' N' B' X' T'; (try k_lt l1); (try dsimp only); (try k_lift B'); (try k_fold))
  k_steps
  rename News _ _ _ ((_, _) :: _) => N9
  rename Fr _ _ _ _ => F9
  have N8 := drop_mid N9
  rename _ < _ ∧ _ < _ ∧ _ < _ ∧ lst < _ ∧ AllLt _ rest => q8
  have q9 := q8.2.2.2
  refine append_K F9 N8 (Upd.tail (neN (by dsimp only; omega)) (Upd.head hne)) ?_ (by rw [PySem.sizeLine_eq]; omega)
  intro h' F' N'
  rw [join_one] at N'
  replace N' := swap_led N'
  clear F9 N9 N8
  k_steps
  exact hret _ _ _ _ (by k_asm) (by k_asm) ⟨rfl, _, _, _, rfl, Nat.ne_of_gt q9.1, fun p hp => Nat.ne_of_lt (ktn_ltOf q9.2 p hp)⟩
end Mine
end
section
open PySem PySem.W PyProof.Rows
set_option Elab.async false
namespace Mine
noncomputable def MyIter (prog : Program) (w : World) (A : Around) (h₀ : Heap) (env : Env) (x : Str) (body : List Stmt) (Q : Flow → Shared → Prop) (E : Value → Shared → Prop) (xv : Value) (s₁ : Shared) : Prop :=
  wpAny (model prog w) A (pyIter xv) (fun it s₂ => LoopAtV prog w A h₀ env x body Q E it s₂) E s₁
section
variable {prog : Program} {w : World} {A : Around} {E : Value → Shared → Prop} {s : Shared} {env : Env} {h₀ : Heap} {x : Str} {body : List Stmt} {Q : Flow → Shared → Prop}
theorem For_my {m : Str → Option Value} {px pos : Pos} {iter : Expr} (_F : Fr h₀ env.locals s.heap m) (hx : env.kindOf x = some .local)
    (hp : (env.scope.kind == .class || (env.scope.kind == .module && env.locals != env.globals)) = false)
    (h : wpAny (model prog w) A (eval iter env) (fun xv s₁ => MyIter prog w A h₀ env x body Q E xv s₁) E s)
    (hs : ∀ x, foldedSetIterable iter env x = pure x := by intro _; rfl)
    (hE : PassesOwn (model prog w) A env E := by passes_own) :
    wpAny (model prog w) A (exec (.For (.Name x px) iter body [] pos) env) Q E s := For_invV h₀ hx hp h hs
end
section
variable {prog : Program} {w : World} {A : Around} {E : Value → Shared → Prop} {s : Shared} {env : Env} {h₀ : Heap} {L : Addr} {m : Str → Option Value} {news : List (Addr × Obj)} {Q : Flow → Shared → Prop}
theorem forLoop_none {R : Result → Shared → Prop} {target : Expr} {it : Value} {body : List Stmt}
    (h : wpAny (model prog w) A (pyNext it) (fun r s₁ => r = none ∧ R (.ok .next) s₁) (notedBy (model prog w) A env fun e s' => R (.error e) s') s) : codeAny (model prog w) A (.forLoop target it body [] env) R s := by
  refine codeAny_of_tree ?_
  show wpAny _ _ ((forTurn target it body [] env).onRaise (fun x => do noteFrame x env; theTreesLotGoes x)) _ _ s
  refine wpAny_noted ?_
  simp only [forTurn]
  refine wpAny_bind (wpAny_standAt (wpAny_bind (wpAny_onRaise (wpAny_mono h (fun r s₁ h₁ => ?_) fun _ _ h' => wpAny_standAt h'))))
  obtain ⟨rfl, h₁⟩ := h₁
  exact wpAny_pure ⟨rfl, codeAny_block (wpAny_execs_nil h₁)⟩
noncomputable def EmptyIter (h₀ : Heap) (L : Addr) (Q : Flow → Shared → Prop) (xv : Value) (s₁ : Shared) : Prop :=
  ∃ ax n m news, xv = .ref ax ∧ Fr h₀ L s₁.heap m ∧ News h₀ L s₁.heap news ∧ (ax, listOf #[] n) ∈ news ∧ ∀ h', Fr h₀ L h' m → News h₀ L h' news → Q .next { s₁ with heap := h' }
/-- a loop over an empty list, whatever its target -/
theorem For_none {target iter : Expr} {body : List Stmt} {pos : Pos} (_F : Fr h₀ L s.heap m) (hh : A.handled = none)
    (h : wpAny (model prog w) A (eval iter env) (EmptyIter h₀ L Q) E s)
    (hs : ∀ x, foldedSetIterable iter env x = pure x := by intro _; rfl) :
    wpAny (model prog w) A (exec (.For target iter body [] pos) env) Q E s := by
  refine wpAny_For (wpAny_mono h (fun xv s₁ h₁ => ?_) fun _ _ e => e) hs
  obtain ⟨ax, n, m, news, rfl, F, N, hm, hQ⟩ := h₁
  have hls : s₁.heap.IsList ax (#[] : Array Value) := ⟨_, (N _ hm).1, rfl, n, rfl⟩
  refine wpAny_pyIter_list hls (forLoop_none ?_)
  refine wpAny_pyNext_list_end hh ⟨_, Heap.get?_push_size _ rfl, rfl, rfl⟩ (hls.at fun o e => Heap.get?_push_of_some _ e) (by simp) fun h' he => ⟨rfl, ?_⟩
  have k : ∀ b o, s₁.heap.get? b = some o → h'.get? b = some o := fun b o e => he b o (Nat.ne_of_lt (Heap.lt_size e)) (Heap.get?_push_of_some _ e)
  exact hQ h' (F.keeps k) (N.grown k)
end
theorem len_four {prog : Program} {w : World} {A : Around} {E : Value → Shared → Prop} {s : Shared} {x : Str} {t : Tok} {Q : Value → Shared → Prop} (hx : x.length = 4) (h : Q (.int 4 (s.toks + 1)) { s with toks := s.toks + 1 + 1 }) :
    wpAny (model prog w) A (call (.builtin "len") [.str x t]) Q E s := by
  refine PySem.P.len_str (by rw [hx]; decide) ?_
  rw [hx]; exact h
theorem led_names {g h : Heap} {L l x d : Addr} {hh : Int} {kt : Tok} {n dn : Nat} {news : List (Addr × Obj)} (_N : News g L h ((l, listOf #[] n) :: (x, instObj 224 d) :: (d, hdrD hh kt l dn) :: news)) :
    ∃ lst tbl dd, lst = l ∧ tbl = x ∧ dd = d := ⟨l, x, d, rfl, rfl, rfl⟩
theorem some_str {x y : Str} {t : Tok} {v : Option Value} (h : x = y) (e : v = some (Value.str x t)) : ∃ t', v = some (Value.str y t') := ⟨t, h ▸ e⟩
theorem frame_put {h₀ h : Heap} {L : Addr} {m : Str → Option Value} (x : Str) {v : Value} (F : Fr h₀ L h m) (e : m x = some v) : Fr h₀ L h (fun y => if y = x then some v else m y) := by
  have : (fun y => if y = x then some v else m y) = m := by
    funext y
    by_cases h : y = x
    · subst h; simp [e]
    · simp [h]
  rw [this]; exact F
theorem drop1 {h₀ h : Heap} {L : Addr} {a : Addr × Obj} {l : List (Addr × Obj)} (N : News h₀ L h (a :: l)) : News h₀ L h l := fun p hp => N p (List.mem_cons_of_mem _ hp)
theorem rot3 {h₀ h : Heap} {L : Addr} {a b c : Addr × Obj} {l : List (Addr × Obj)} (N : News h₀ L h (a :: b :: c :: l)) : News h₀ L h (c :: a :: b :: l) :=
  fun p hp => N p (by simp only [List.mem_cons] at hp ⊢; rcases hp with h | h | h | h <;> simp [h])
noncomputable def RowAt (news : List (Addr × Obj)) (v : Value) (p : Str × Str) : Prop := ∃ t tx ty, v = .ref t ∧ (t, tupO [.str p.1 tx, .str p.2 ty]) ∈ news
noncomputable def Rows (news : List (Addr × Obj)) : List Value → List (Str × Str) → Prop
  | [], [] => True
  | v :: vs, p :: ps => RowAt news v p ∧ Rows news vs ps
  | _, _ => False
theorem Rows.mono {news news' : List (Addr × Obj)} (hs : ∀ p ∈ news, p ∈ news') : ∀ {vs : List Value} {ps : List (Str × Str)}, Rows news vs ps → Rows news' vs ps
  | [], [], _ => trivial
  | _ :: _, _ :: _, ⟨⟨t, tx, ty, e, hm⟩, r⟩ => ⟨⟨t, tx, ty, e, hs _ hm⟩, r.mono hs⟩
theorem Rows.snoc {news : List (Addr × Obj)} {v : Value} {p : Str × Str} (hv : RowAt news v p) : ∀ {vs : List Value} {ps : List (Str × Str)}, Rows news vs ps → Rows news (vs ++ [v]) (ps ++ [p])
  | [], [], _ => ⟨hv, trivial⟩
  | _ :: _, _ :: _, ⟨h, r⟩ => ⟨h, Rows.snoc hv r⟩
theorem Rows.length {news : List (Addr × Obj)} : ∀ {vs : List Value} {ps : List (Str × Str)}, Rows news vs ps → vs.length = ps.length
  | [], [], _ => rfl
  | _ :: _, _ :: _, ⟨_, r⟩ => by simp [r.length]
/-- a Headers of the ledger and its rows -/
noncomputable def Table (news : List (Addr × Obj)) (tbl : Addr) (ps : List (Str × Str)) : Prop :=
  ∃ lst d its n hh kt dn, (tbl, instObj 224 d) ∈ news ∧ (d, hdrD hh kt lst dn) ∈ news ∧ (lst, listOf its n) ∈ news ∧ Rows news its.toList ps
theorem Table.mono {news news' : List (Addr × Obj)} (hs : ∀ p ∈ news, p ∈ news') {tbl : Addr} {ps : List (Str × Str)} : Table news tbl ps → Table news' tbl ps :=
  fun ⟨lst, d, its, n, hh, kt, dn, h1, h2, h3, r⟩ => ⟨lst, d, its, n, hh, kt, dn, hs _ h1, hs _ h2, hs _ h3, r.mono hs⟩
theorem two_off {news : List (Addr × Obj)} {a b : Addr} {o1 o2 : Obj} (h1 : ∀ p ∈ news, p.1 < b) (h2 : @LT.lt Nat _ b a) : ∀ p ∈ [(a, o1), (b, o2)], ∀ q ∈ news, p.1 ≠ q.1 := by
  intro p hp q hq
  simp only [List.mem_cons, List.not_mem_nil, or_false] at hp
  rcases hp with rfl | rfl
  · exact Nat.ne_of_gt (Nat.lt_trans (h1 q hq) h2)
  · exact Nat.ne_of_gt (h1 q hq)
theorem one_off {news : List (Addr × Obj)} {a : Addr} {o : Obj} {ds : List (Addr × Obj)} (h1 : ∀ q ∈ news, a ≠ q.1) (h2 : ∀ p ∈ ds, ∀ q ∈ news, p.1 ≠ q.1) : ∀ p ∈ (a, o) :: ds, ∀ q ∈ news, p.1 ≠ q.1 := by
  intro p hp
  rcases List.mem_cons.mp hp with e | hp
  · rw [e]; exact h1
  · exact h2 p hp
theorem ne_cell {news : List (Addr × Obj)} {L : Addr} (h : ∀ p ∈ news, p.1 < L) : ∀ p ∈ news, p.1 ≠ L + 1 := fun p hp => Nat.ne_of_lt (Nat.lt_succ_of_lt (h p hp))
end Mine
end
section
open PySem PySem.W PyProof.Rows Mine
local macro_rules | `(tactic| k_all) => `(tactic| first | assumption | exact ne_cell (by assumption))
local macro_rules | `(tactic| walk_at "exec For Name Call cons nil") => `(tactic| (k_here; (rename Fr _ _ _ _ => lF'); (with_unfolding_all refine' For_my lF' ?k1 ?k2 ?_; (case k1 => exact rfl); (case k2 => exact rfl); k_whole)))
local macro_rules | `(tactic| walk_at "exec For Name Name cons nil") => `(tactic| (k_here; (rename Fr _ _ _ _ => lF'); (with_unfolding_all refine' For_my lF' ?k1 ?k2 ?_; (case k1 => exact rfl); (case k2 => exact rfl); k_whole)))
local macro_rules | `(tactic| k_room) => `(tactic| ktr_room)
local macro_rules | `(tactic| k_units) => `(tactic| ktr_units)
local macro_rules | `(tactic| k_mem) => `(tactic| first | assumption | (refine List.mem_cons_of_mem _ ?_; k_mem))
section
open PySem PySem.W PyProof.Rows
set_option Elab.async false
namespace Mine
local macro_rules | `(tactic| walk_at "binaryOp Add str str") => `(tactic| (k_here; (refine add_str ?_ (by (simp only [len_app, len_dot, PySem.sizeLine_eq]; omega))); intro t' tk'))
local macro_rules | `(tactic| walk_at "call builtin:len") => `(tactic| (k_here; refine len_four (by assumption) ?_))
local macro_rules | `(tactic| walk_at "call ref") => `(tactic| (k_here; (with_reducible show wpAny _ _ (call (.ref 45) _) _ _ _); k_dflt (refine' sA (S := build_none _ _ _ (by k_mem)) (ret := ?_)); intro h9 tk9 tk8 F9 N9; (try dsimp only); (try k_fold)))
local macro_rules | `(tactic| walk_at "call ref") => `(tactic| (k_here; (with_reducible show wpAny _ _ (call (.ref 45) _) _ _ _); k_dflt (refine' sA (S := build_two _ _ _ _ _ _ _ (by k_mem) (by first | assumption | omega) (by first | assumption | omega)) (ret := ?_)); intro h9 tk9 tk8 F9 N9; (try dsimp only); (try k_fold)))
local macro_rules | `(tactic| walk_at "call ref") => `(tactic| (k_here; (with_reducible show wpAny _ _ (call (.ref 221) _) _ _ _); k_dflt (refine su (S := add_header _ _ _ _ _ _ _ _ _ _ _ _ _ _ (by k_mem) (by k_mem) (by assumption) (by first | assumption | omega) (by first | assumption | omega) (by assumption) (by assumption) (by first | assumption | omega)) (ret := ?_)); intro r9 nw9 h9 tk9 F9 N9 hP9; obtain ⟨e9, t9, tx9, ty9, e8, hl9, hr9⟩ := hP9; subst e9; subst e8; (try dsimp only); (try k_fold)))
set_option maxRecDepth 100000 in
set_option maxHeartbeats 8000000 in
theorem filed (w : World) (news : List (Addr × Obj)) (tt : Str) (tx : Tok) (htl : tt.length = 4) (hlt : Letters tt) :
    Says w 235 [.str tt tx] news 20 160 (fun r nw => ∃ tbl ds, r = .ref tbl ∧ nw = ds ++ news ∧ Table ds tbl (filedUpTo tt 16) ∧ (∀ p ∈ ds, ∀ q ∈ news, p.1 ≠ q.1)) := by
  have nlen : ∀ c k, k ≤ 4 → (nameUpTo tt c k).length ≤ 1000 := fun c k h => Nat.le_trans (name_len tt c k) (by omega)
  unfold Says PR
  w_top off
  k_fill
  intro mean mg mb dp un gd cn cs a ccd cl outer A₀ base h₀ L m s Q E B F X N T hk hdp hun hret
  refine wpAny_call ?_
  k_dflt ktr_enter
  k_steps
  rename Fr _ _ _ _ => F9
  rename News _ _ _ ((_, W.listOf #[] 0) :: _) => N9
  with_unfolding_all refine For_none F9 rfl ?_
  k_steps
  refine ⟨_, _, _, _, rfl, F9, N9, List.mem_cons_self, ?_⟩
  clear F9 N9
  intro h' F' N'
  k_steps
  rename IsRange _ _ _ _ _ _ _ _ => R9
  rename Fr _ _ _ _ => F9
  rename News _ _ _ ((_, W.listOf #[] 0) :: _) => N9
  obtain ⟨lst, tbl, dd, rfl, rfl, rfl⟩ := led_names N9
  rename _ < lst ∧ _ < lst ∧ AllLt lst _ => hal
  rename ∀ p ∈ news, p.1 < dd => hqd
  rename dd < tbl => hqt
  unfold MyIter
  refine range_loop (n := 16) (fun i m₁ news₁ => m₁ (Str.ofString "text") = some (.str tt tx) ∧ m₁ (Str.ofString "table") = some (.ref tbl) ∧ ∃ its n rest ds hh kt dn, news₁ = (lst, listOf its n) :: rest ∧ Rows ds its.toList (filedUpTo tt i) ∧ (∀ p ∈ rest, p.1 ≠ lst) ∧ (tbl, instObj 224 dd) ∈ ds ∧ (dd, hdrD hh kt lst dn) ∈ ds ∧ rest = ds ++ news ∧ (∀ p ∈ ds, ∀ q ∈ news, p.1 ≠ q.1)) rfl R9 (by decide) (by decide) F9 N9 ⟨rfl, rfl, ?_⟩ ?_ ?_
  · exact ⟨_, _, _, [_, _], _, _, _, rfl, trivial, fun p hp => Nat.ne_of_lt (ktn_ltOf (l := _ :: _ :: news) ⟨hal.1, hal.2.1, hal.2.2⟩ p hp), List.mem_cons_self, List.mem_cons_of_mem _ List.mem_cons_self, rfl, two_off hqd hqt⟩
  · rintro i t m₁ news₁ h tk I o hi hI ⟨j1, j2, its, n, rest, ds, hh, kt, dn, rfl, hro, hne, htd, hdd, hrest, hoff⟩ F₁ N₁
    have ht : (tbl, instObj 224 dd) ∈ rest := by rw [hrest]; exact List.mem_append_left _ htd
    have hd : (dd, hdrD hh kt lst dn) ∈ rest := by rw [hrest]; exact List.mem_append_left _ hdd
    replace F₁ := frame_put (Str.ofString "text") F₁ (by (repeat (refine (if_neg (by decide)).trans ?_)); exact j1)
    replace F₁ := frame_put (Str.ofString "table") F₁ (by (repeat (refine (if_neg (by decide)).trans ?_)); exact j2)
    clear F9 N9 R9
    k_steps
    rename IsRange _ _ _ _ _ _ _ _ => R9
    rename Fr _ _ _ _ => F9
    rename News _ _ _ _ => N9
    replace N9 := drop1 N9
    unfold MyIter
    refine range_loop (n := 4) (fun k m₂ news₂ => m₂ (Str.ofString "text") = some (.str tt tx) ∧ m₂ (Str.ofString "table") = some (.ref tbl) ∧ m₂ (Str.ofString "choice") = some (.int (0 + (i : Nat)) t) ∧ (∃ t', m₂ (Str.ofString "name") = some (.str (nameUpTo tt i k) t')) ∧ news₂ = (I, o) :: (lst, W.listOf its n) :: rest) rfl R9 (by decide) (by decide) F9 N9 ?_ ?_ ?_
    · exact ⟨rfl, rfl, rfl, ⟨_, rfl⟩, rfl⟩
    · rintro k tk₂ m₂ news₂ h₂ tk₃ I₂ o₂ hk4 hI₂ ⟨j1, j2, j3, ⟨t', j4⟩, rfl⟩ F₂ N₂
      replace F₂ := frame_put (Str.ofString "text") F₂ (by (repeat (refine (if_neg (by decide)).trans ?_)); exact j1)
      replace F₂ := frame_put (Str.ofString "table") F₂ (by (repeat (refine (if_neg (by decide)).trans ?_)); exact j2)
      replace F₂ := frame_put (Str.ofString "choice") F₂ (by (repeat (refine (if_neg (by decide)).trans ?_)); exact j3)
      replace F₂ := frame_put (Str.ofString "name") F₂ (by (repeat (refine (if_neg (by decide)).trans ?_)); exact j4)
      clear F9 N9 R9
      have nl := nlen i k (by omega)
      k_steps
      · refine MyTurn.next (by k_asm) (drop1 (by k_asm)) (fun p hp q hq => by rw [List.mem_singleton.mp hq]; exact hI₂ p hp) ⟨rfl, rfl, rfl, some_str (name_odd hi hk4 (by assumption) (by assumption)) rfl, rfl⟩
      · refine MyTurn.next (by k_asm) (drop1 (by k_asm)) (fun p hp q hq => by rw [List.mem_singleton.mp hq]; exact hI₂ p hp) ⟨rfl, rfl, rfl, some_str (name_even hi hk4 (by assumption) (by assumption)) rfl, rfl⟩
      · refine MyTurn.next (by k_asm) (by k_asm) (fun p hp q hq => by rw [List.mem_singleton.mp hq]; exact hI₂ p hp) ⟨rfl, rfl, rfl, some_str (name_skip hi hk4 (by assumption)) rfl, rfl⟩
    rintro m₂ news₂ h₂ tk₂ ⟨j1, j2, j3, ⟨t', j4⟩, rfl⟩ F₂ N₂
    replace F₂ := frame_put (Str.ofString "text") F₂ j1
    replace F₂ := frame_put (Str.ofString "table") F₂ (by (repeat (refine (if_neg (by decide)).trans ?_)); exact j2)
    replace F₂ := frame_put (Str.ofString "choice") F₂ (by (repeat (refine (if_neg (by decide)).trans ?_)); exact j3)
    replace F₂ := frame_put (Str.ofString "name") F₂ (by (repeat (refine (if_neg (by decide)).trans ?_)); exact j4)
    clear F9 N9 R9
    replace N₂ := swap_led N₂
    have hne2 : ∀ p ∈ (I, o) :: rest, p.1 ≠ lst := fun p hp => by
      rcases List.mem_cons.mp hp with e | hp
      · rw [e]; exact fun q => hI _ List.mem_cons_self q.symm
      · exact hne p hp
    have nl := nlen i 4 (by omega)
    have nc := name_clean htl hlt i 4 (by omega)
    have ll := line_len hi
    have lc := line_clean hi
    have hsz : its.size ≤ 100000 := by
      have := hro.length
      simp [filedUpTo] at this
      omega
    k_steps
    rename _ ≠ lst => hl9
    rename ∀ p ∈ (I, o) :: rest, p.1 ≠ _ => hr9
    rename News _ _ _ ((lst, _) :: _) => N9
    refine MyTurn.next (news₂ := _ :: _ :: rest) (by k_asm) (rot3 N9) ?_ ⟨rfl, rfl, _, _, _, _ :: ds, hh, kt, dn, rfl, ?_, ?_, List.mem_cons_of_mem _ htd, List.mem_cons_of_mem _ hdd, by rw [hrest]; rfl, ?_⟩
    · intro p hp q hq
      rw [List.mem_singleton.mp hq]
      rcases List.mem_cons.mp hp with e | hp
      · rw [e]; exact hI (lst, W.listOf its n) List.mem_cons_self
      · rcases List.mem_cons.mp hp with e | hp
        · rw [e]; exact fun z => hr9 _ List.mem_cons_self z.symm
        · exact hI _ (List.mem_cons_of_mem _ hp)
    · have e1 : filedUpTo tt (i + 1) = filedUpTo tt i ++ [(nameUpTo tt i 4, lineOf i)] := by simp [filedUpTo, List.range_succ]
      rw [e1, Array.toList_push]
      refine Rows.snoc (p := (nameUpTo tt i 4, lineOf i)) ⟨_, _, _, rfl, List.mem_cons_self⟩ (hro.mono fun p hp => List.mem_cons_of_mem _ hp)
    · intro p hp
      rcases List.mem_cons.mp hp with e | hp
      · rw [e]; exact hl9
      · exact hne p hp
    · refine one_off (fun q hq z => ?_) hoff
      exact hr9 q (List.mem_cons_of_mem _ (by rw [hrest]; exact List.mem_append_right _ hq)) z.symm
  · rintro m₁ news₁ h tk ⟨j1, j2, its, n, rest, ds, hh, kt, dn, rfl, hro, hne, htd, hdd, hrest, hoff⟩ F₁ N₁
    replace F₁ := frame_put (Str.ofString "table") F₁ j2
    clear F9 N9 R9
    k_steps
    refine hret _ _ _ _ (by k_asm) (by k_asm) ⟨tbl, _ :: ds, rfl, by rw [hrest]; rfl, ⟨lst, dd, its, n, hh, kt, dn, List.mem_cons_of_mem _ htd, List.mem_cons_of_mem _ hdd, List.mem_cons_self, hro.mono fun p hp => List.mem_cons_of_mem _ hp⟩, one_off (fun q hq z => ?_) hoff⟩
    exact hne q (by rw [hrest]; exact List.mem_append_right _ hq) z.symm
end Mine
end
section
open PySem PySem.W PyProof.Rows
set_option Elab.async false
namespace Mine
local macro_rules | `(tactic| walk_at "getMethod ref") => `(tactic| (k_here; (with_reducible show wpAny _ _ (getMethod (Value.ref _) (PySem.Str.ofString "search") _) _ _ _); k_dflt (refine' search_method ?k1 ?k2 ?k3 ?_; (case k1 => k_asm); (case k2 => k_asm); (case k3 => k_is))))
local macro_rules | `(tactic| walk_at "call builtin:re.Pattern.search") => `(tactic| (k_here; k_dflt (refine' search_call ?k1 ?k2 ?k3 ?k4 ?k5 ?k6 ?k7 ?k8 ?k9 ?k10 ?_; (case k1 => k_asm); (case k2 => k_asm); (case k3 => k_is); (case k5 => exact rfl); (case k6 => exact rfl); (case k7 => exact rfl); (case k4 => k_is); (case k8 => first | exact Or.inl (by decide +kernel) | exact Or.inr (by decide +kernel)); (case k9 => assumption); (case k10 => omega))))
local macro_rules | `(tactic| walk_at "eval ListComp") => `(tactic| (k_here; lct_look; k_dflt (refine LCt.ListComp_T (F₀ := by k_asm) (by with_unfolding_all rfl) (by decide) (by rfl) (by decide) (by rfl) ?_)))
theorem Rows.get {news : List (Addr × Obj)} : ∀ {vs : List Value} {ps : List (Str × Str)}, Rows news vs ps → ∀ {i : Nat} {v : Value}, vs[i]? = some v → ∃ p, ps[i]? = some p ∧ RowAt news v p
  | _ :: _, _ :: _, ⟨r, _⟩, 0, v, h => by simp at h; exact ⟨_, rfl, h ▸ r⟩
  | _ :: _, _ :: _, ⟨_, r⟩, i + 1, v, h => by simpa using r.get (i := i) (v := v) (by simpa using h)
noncomputable def hits (ps : List (Str × Str)) (x : Str) : List Str := (ps.filter fun p => Txt.lower p.1 == Txt.lower x).map (·.2)
theorem drop2 {h₀ h : Heap} {L : Addr} {a b : Addr × Obj} {l : List (Addr × Obj)} (N : News h₀ L h (a :: b :: l)) : News h₀ L h (a :: l) :=
  fun p hp => N p (by simp only [List.mem_cons] at hp ⊢; rcases hp with h | h <;> simp [h])
theorem off1_mem {D : Addr} : ∀ {l : List (Addr × Obj)}, LCg.Off1 D l → ∀ p ∈ l, p.1 ≠ D
  | [], _, _, h => nomatch h
  | _ :: _, x, p, h => by
    rcases List.mem_cons.mp h with rfl | h
    · exact x.1
    · exact off1_mem x.2 p h
theorem hits_in {ps : List (Str × Str)} {x : Str} {i : Nat} {p : Str × Str} (hp : ps[i]? = some p) (h : (Txt.lower p.1 == Txt.lower x) = true) : hits (ps.take (i + 1)) x = hits (ps.take i) x ++ [p.2] := by
  simp [hits, List.take_add_one, hp, h]
theorem hits_out {ps : List (Str × Str)} {x : Str} {i : Nat} {p : Str × Str} (hp : ps[i]? = some p) (h : ¬ (Txt.lower p.1 == Txt.lower x) = true) : hits (ps.take (i + 1)) x = hits (ps.take i) x := by
  simp [hits, List.take_add_one, hp, h]
set_option maxRecDepth 100000 in
set_option maxHeartbeats 8000000 in
theorem get_all (w : World) (news : List (Addr × Obj)) (tbl : Addr) (ps : List (Str × Str)) (x : Str) (tx : Tok) (hT : Table news tbl ps) (hx : x.length ≤ 1000) (cx : Clean (Txt.lower x)) (hps : ps.length ≤ 1000) (hp1 : ∀ p ∈ ps, p.1.length ≤ 1000) :
    Says w 163 [.ref tbl, .str x tx] news 10 80 (fun r nw => ∃ l ys, r = .ref l ∧ Strs ys (hits ps x) ∧ nw = (l, LCg.lst ys) :: news ∧ (∀ p ∈ news, p.1 ≠ l)) := by
  unfold Says PR
  w_top off
  k_fill
  intro mean mg mb dp un gd cn cs a ccd cl outer A₀ base h₀ L m s Q E B F X N T hk hdp hun hret
  obtain ⟨lst, d, its, n, hh, kt, dn, h1, h2, h3, hro⟩ := hT
  have hll := len_lower x
  refine wpAny_call ?_
  k_dflt (refine' code_defC ?k1 ?k2 ?k3 ?k4 ?k5 ?kA ?kF ?kK ?k6 ?k7 ?k8 ?k9 ?kB ?kD ?_ ?c2 ?c3 ?c4; (case kA => exact rfl); (case kF => exact rfl); (case kK => assumption); (case k1 => k_asm); (case k2 => k_asm); (case k3 => k_asm); (case k4 => k_asm); (case k5 => k_asm); (case k6 => k_is); (case k7 => k_is); (case k8 => ktr_room); (case k9 => exact BindsTo.of_eq rfl); (case kB => exact rfl); (case kD => decide +kernel); (case c2 => exact rfl); (case c3 => exact rfl); (case c4 => exact rfl); k_whole; intro g' L' h' tk' cells' FG' F' N' Y' B' X' T' l1; (try k_lt l1); k_cells Y'; (try simp only [List.cons_append, List.nil_append] at N'); (try dsimp only); (try k_lift B'); (try k_fold))
  k_steps
  rename Fr _ _ _ _ => F9
  rename News _ _ _ ((_, _) :: news) => N9
  have hlen := hro.length
  rw [Array.length_toList] at hlen
  refine LCt.CompSrcT.ledger rfl F9 N9 (List.mem_cons_of_mem _ h3) (by rw [PySem.sizeLine_eq]; omega) ?_
  intro g9
  refine restT_ind its.size (fun i ys => Strs ys (hits (ps.take i) x)) (Or.inr ⟨_, List.mem_cons_of_mem _ h3, rfl, _, rfl⟩) ?_ ?_ _ 0 [] (Nat.zero_add _) (by simp [hits, Strs])
  · clear F9 N9
    intro i ys hi hj v I oI C oC D m₂ h tk E' hP hC hx₂ F' N' off ne
    obtain ⟨p, hp, t, tx', ty', rfl, hm⟩ := hro.get (i := i) (v := v) (by simpa using hP)
    have hpl := hp1 p (List.mem_of_getElem? hp)
    k_steps
    unfold MyTest
    split
    · rename_i hok
      k_steps
      exact MyCE.intro (by k_asm) (by k_asm) (by rw [hits_in hp hok]; exact Strs.snoc ⟨_, rfl⟩ hj)
    · rename_i hok
      exact MyCE.intro (by k_asm) (by k_asm) (by rw [hits_out hp hok]; exact hj)
  · intro ys hys
    rw [List.take_of_length_le (by omega)] at hys
    clear F9 N9
    k_steps
    rename _ ∧ LCg.Off1 _ news => o9
    exact hret _ _ _ _ (by k_asm) (drop2 (by k_asm)) ⟨_, _, rfl, hys, rfl, fun p hp => off1_mem o9.2 p hp⟩
local macro_rules | `(tactic| walk_at "eval ListComp") => `(tactic| (k_here; lcp_look; k_dflt (refine LCp.ListComp_P (F₀ := by k_asm) (by with_unfolding_all rfl) (by decide) (by rfl) (by decide) (by rfl) (by rfl) (by decide) ?_)))
set_option maxRecDepth 100000 in
set_option maxHeartbeats 8000000 in
theorem keys (w : World) (news : List (Addr × Obj)) (tbl : Addr) (ps : List (Str × Str)) (hT : Table news tbl ps) (hps : ps.length ≤ 1000) :
    Says w 176 [.ref tbl] news 10 80 (fun r nw => ∃ l ys, r = .ref l ∧ Strs ys (ps.map (·.1)) ∧ nw = (l, LCg.lst ys) :: news ∧ (∀ p ∈ news, p.1 ≠ l)) := by
  unfold Says PR
  k_fill
  intro mean mg mb dp un gd cn cs a ccd cl outer A₀ base h₀ L m s Q E B F X N T hk hdp hun hret
  obtain ⟨lst, d, its, n, hh, kt, dn, h1, h2, h3, hro⟩ := hT
  refine wpAny_call ?_
  k_dflt ktr_enter
  k_steps
  rename Fr _ _ _ _ => F9
  rename News _ _ _ news => N9
  have hlen := hro.length
  rw [Array.length_toList] at hlen
  refine LCp.SrcLP.ledger rfl F9 N9 h3 (by rw [PySem.sizeLine_eq]; omega) ?_
  intro g9
  refine restP_ind its.size (fun i ys => Strs ys ((ps.take i).map (·.1))) (Or.inr ⟨_, h3, rfl, _, rfl⟩) ?_ ?_ _ 0 [] (Nat.zero_add _) (by simp [Strs])
  · clear F9 N9
    intro i ys hi hj v hP
    obtain ⟨p, hp, t, tx', ty', rfl, hm⟩ := hro.get (i := i) (v := v) (by simpa using hP)
    refine ⟨t, _, _, _, _, rfl, hm, rfl, rfl, ?_⟩
    intro I oI C oC D m₂ h tk E' hC hx₁ hx₂ F' N' off ne
    k_steps
    exact MyCE.intro (by k_asm) (by k_asm) (by
      have e : (ps.take (i + 1)).map (·.1) = (ps.take i).map (·.1) ++ [p.1] := by simp [List.take_add_one, hp]
      rw [e]; exact Strs.snoc ⟨_, rfl⟩ hj)
  · intro ys hys
    rw [List.take_of_length_le (by omega)] at hys
    clear F9 N9
    k_steps
    rename LCg.Off1 _ news => o9
    exact hret _ _ _ _ (by k_asm) (by k_asm) ⟨_, _, rfl, hys, rfl, fun p hp => off1_mem o9 p hp⟩
end Mine
end
section
open PySem PySem.W PyProof.Rows
set_option Elab.async false
namespace Mine
local macro_rules | `(tactic| walk_at "none 0") => `(tactic| skip)
theorem ints_snoc {i : Int} {t : Tok} : ∀ {vs : List Value} {ns : List Int}, IntsAre vs ns → IntsAre (vs ++ [.int i t]) (ns ++ [i])
  | _, _, .nil => .cons _ _ .nil
  | _, _, .cons _ _ h => .cons _ _ (ints_snoc h)
noncomputable def hitsN (tt x : Str) : List Nat := (List.range 16).filter fun c => Txt.lower (nameUpTo tt c 4) == Txt.lower x
theorem hits_filed (tt x : Str) : hits (filedUpTo tt 16) x = (hitsN tt x).map lineOf := by
  unfold hits hitsN filedUpTo
  rw [List.filter_map, List.map_map]
  rfl
noncomputable def toldL (tt x : Str) : List Int := (List.range 5).map fun k => (((hitsN tt x).filter fun c => decide (c < 2 ^ k)).length : Int)
theorem Table.cons {news : List (Addr × Obj)} {q : Addr × Obj} {tbl : Addr} {ps : List (Str × Str)} (h : Table news tbl ps) : Table (q :: news) tbl ps := h.mono fun _ h => List.mem_cons_of_mem _ h
local macro_rules | `(tactic| walk_at "call ref") => `(tactic| (k_here; (with_reducible show wpAny _ _ (call (.ref 163) _) _ _ _); k_dflt (refine' sB (S := get_all _ _ _ _ _ _ ?w1 (by assumption) (by assumption) (by assumption) (by assumption)) (ret := ?_); (case w1 => ((repeat refine Table.cons ?_); assumption))); intro h9 tk9 l9 ys9 F9 N9 hs9 hl9; (try dsimp only); (try k_fold)))
local macro_rules | `(tactic| walk_at "eval ListComp") => `(tactic| (k_here; lcg_look; k_dflt (refine LCg.ListComp_U (F₀ := by k_asm) (by with_unfolding_all rfl) (by decide) (by rfl) (by decide) (by rfl) ?_)))
local macro_rules | `(tactic| walk_at "eval ListComp") => `(tactic| (k_here; k_dflt (refine comp_cell (by k_asm) (by with_unfolding_all rfl) (by rfl) (by rfl) (by decide) (by rfl) ?_)))
local macro_rules | `(tactic| walk_at "eval ListComp") => `(tactic| (k_here; lct_look; k_dflt (refine LCt.ListComp_T (F₀ := by k_asm) (by with_unfolding_all rfl) (by decide) (by rfl) (by decide) (by rfl) ?_)))
theorem len_led {prog : Program} {w : World} {A : Around} {E : Value → Shared → Prop} {s : Shared} {h₀ : Heap} {L a : Addr} {news : List (Addr × Obj)} {ys : List Value} {Q : Value → Shared → Prop} (N : News h₀ L s.heap news) (hm : (a, LCg.lst ys) ∈ news) (hsz : ys.length ≤ 1000)
    (h : Q (.int (ys.length : Nat) (s.toks + 1)) { s with toks := s.toks + 1 + 1 }) : wpAny (model prog w) A (call (.builtin "len") [.ref a]) Q E s := by
  refine len_list (items := ys.toArray) ⟨_, (N _ hm).1, rfl, _, rfl⟩ (by rw [List.size_toArray]; omega) ?_
  rw [List.size_toArray]; exact h
theorem lt_pow {c i : Nat} : (0 + (c : Int) < 1 * 2 ^ (0 + (i : Int)).toNat) ↔ c < 2 ^ i := by
  have e1 : (0 + (i : Int)).toNat = i := by omega
  have e2 : ((2 : Int) ^ i) = ((2 ^ i : Nat) : Int) := by simp
  rw [e1, Int.one_mul, e2]
  omega
set_option maxRecDepth 100000 in
set_option maxHeartbeats 8000000 in
theorem told (w : World) (news : List (Addr × Obj)) (tbl : Addr) (tt : Str) (x : Str) (tx t4 : Tok) (hT : Table news tbl (filedUpTo tt 16)) (hx : x.length ≤ 1000) (cx : Clean (Txt.lower x)) :
    Says w 247 [.ref tbl, .str x tx, .int 4 t4] news 20 160 (fun r nw => ∃ l ys, r = .ref l ∧ IntsAre ys (toldL tt x) ∧ nw = (l, LCg.lst ys) :: news ∧ (∀ p ∈ news, p.1 ≠ l)) := by
  have hps : (filedUpTo tt 16).length ≤ 1000 := by simp [filedUpTo]
  have hp1 : ∀ p ∈ filedUpTo tt 16, p.1.length ≤ 1000 := fun p hp => by
    obtain ⟨c, _, rfl⟩ := List.mem_map.mp hp
    exact Nat.le_trans (name_len tt c 4) (by omega)
  unfold Says PR
  w_top off
  k_fill
  intro mean mg mb dp un gd cn cs a ccd cl outer A₀ base h₀ L m s Q E B F X N T hk hdp hun hret
  have hT' := hT
  obtain ⟨lst, d, its, n, hh, kt, dn, h1, h2, h3, hro⟩ := hT'
  refine wpAny_call ?_
  k_dflt (refine' code_defC ?k1 ?k2 ?k3 ?k4 ?k5 ?kA ?kF ?kK ?k6 ?k7 ?k8 ?k9 ?kB ?kD ?_ ?c2 ?c3 ?c4; (case kA => exact rfl); (case kF => exact rfl); (case kK => assumption); (case k1 => k_asm); (case k2 => k_asm); (case k3 => k_asm); (case k4 => k_asm); (case k5 => k_asm); (case k6 => k_is); (case k7 => k_is); (case k8 => ktr_room); (case k9 => exact BindsTo.of_eq rfl); (case kB => exact rfl); (case kD => decide +kernel); (case c2 => exact rfl); (case c3 => exact rfl); (case c4 => exact rfl); k_whole; intro g' L' h' tk' cells' FG' F' N' Y' B' X' T' l1; (try k_lt l1); k_cells Y'; (try simp only [List.cons_append, List.nil_append] at N'); (try dsimp only); (try k_lift B'); (try k_fold))
  k_steps
  rename Fr _ _ _ _ => F9
  rename News _ _ _ ((_, LCg.lst _) :: _) => N9
  rename Strs _ _ => hs9
  rw [hits_filed] at hs9
  have hlen := hs9.length
  rw [List.length_map] at hlen
  refine LCg.CompSrc.ledger rfl F9 N9 List.mem_cons_self (by rw [PySem.sizeLine_eq, List.size_toArray, hlen]; exact Nat.le_trans (List.length_filter_le _ _) (by simp)) ?_
  intro g9
  refine rest_ind (hitsN tt x).length (fun i ys => IntsAre ys (((hitsN tt x).take i).map fun c : Nat => 0 + (c : Int))) (Or.inr ⟨_, List.mem_cons_self, rfl, _, rfl⟩) ?_ ?_ _ 0 [] (by rw [List.size_toArray, hlen]; omega) .nil
  · clear F9 N9
    intro i ys hi hj v I oI C oC D m₂ h tk E' hP hC hx₂ F' N' off ne
    obtain ⟨sx, tx', hsx, rfl⟩ := hs9.get (i := i) (v := v) (by simpa using hP)
    rw [List.getElem?_map] at hsx
    obtain ⟨c, hc, rfl⟩ := Option.map_eq_some_iff.mp hsx
    have hc16 : c < 16 := by
      have := List.mem_of_getElem? hc
      unfold hitsN at this
      have := (List.mem_filter.mp this).1
      simpa using this
    unfold lineOf at hx₂
    k_steps
    refine MyCE.intro (by k_asm) (by k_asm) ?_
    have e : (((hitsN tt x).take (i + 1)).map fun c : Nat => 0 + (c : Int)) = ((hitsN tt x).take i).map (fun c : Nat => 0 + (c : Int)) ++ [0 + (c : Int)] := by simp [List.take_add_one, hc]
    rw [e]
    exact ints_snoc hj
  · intro ys hys
    rw [List.take_length] at hys
    clear F9 N9
    k_steps
    rename News _ _ _ ((_, LCg.lst _) :: (_, LCg.lst _) :: _) => N9
    replace N9 := drop2 N9
    k_steps
    rename Fr _ _ _ _ => F9
    rename News _ _ _ ((_, LCg.lst _) :: _) => N9
    rename IsRange _ _ _ _ _ _ _ _ => R9
    have hyl := hys.length
    rw [List.length_map] at hyl
    have hh16 : (hitsN tt x).length ≤ 16 := Nat.le_trans (List.length_filter_le _ _) (by simp)
    refine ⟨_, _, _, _, _, _, 5, _, fun i ys => IntsAre ys ((List.range i).map fun k => (((hitsN tt x).filter fun c => decide (c < 2 ^ k)).length : Int)), rfl, rfl, F9, N9, R9, by decide, by decide, by rw [PySem.sizeLine_eq]; omega, .nil, ?_, ?_⟩
    · clear F9 N9 R9
      intro s₂ i t ys' I oI C oC c oc D h tk E' hi hj hoc F' N' off
      k_steps
      refine LCt.CompSrcT.ledger (k := ys.length) rfl (by k_asm) (by k_asm) (by k_mem) (by rw [PySem.sizeLine_eq, List.size_toArray]; omega) ?_
      intro g9
      refine restT_ind (hitsN tt x).length (fun j zs => zs.length = (((hitsN tt x).take j).filter fun c => decide (c < 2 ^ i)).length) (Or.inr ⟨_, by k_mem, rfl, _, rfl⟩) ?_ ?_ _ 0 [] (by rw [List.size_toArray, hyl]; omega) rfl
      · clear F' N'
        intro j zs hj hjz v I₂ oI₂ C₂ oC₂ D₂ m₃ h₃ tk₃ E₃ hP₃ hC₃ hx₃ F' N' off₃ ne₃
        obtain ⟨q, tq, rfl, hq⟩ := hys.at j v (by simpa using hP₃)
        rw [List.getElem?_map] at hq
        obtain ⟨c', hc', rfl⟩ := Option.map_eq_some_iff.mp hq
        k_steps
        unfold MyTest
        split
        · rename_i hok
          have hok := lt_pow.mp (of_decide_eq_true hok)
          k_steps
          exact MyCE.intro (by k_asm) (by k_asm) (by simp [List.take_add_one, hc', hok, hjz])
        · rename_i hok
          have hok := Nat.le_of_not_lt fun z => hok (decide_eq_true (lt_pow.mpr z))
          exact MyCE.intro (by k_asm) (by k_asm) (by simp [List.take_add_one, hc', hok, hjz])
      · intro zs hzs
        rw [List.take_length] at hzs
        have hz16 : zs.length ≤ 1000 := by
          rw [hzs]; exact Nat.le_trans (List.length_filter_le _ _) (by omega)
        k_steps
        refine len_led (by k_asm) List.mem_cons_self hz16 ?_
        k_steps
        refine MyCE.intro (by k_asm) (drop1 (by k_asm)) ?_
        rw [List.range_succ, List.map_append]
        rw [hzs]
        exact ints_snoc hj
    · intro D₂ h₂ tk₂ ys₂ hys₂ F₂ N₂ off₂
      clear F9 N9 R9
      k_steps
      exact hret _ _ _ _ (by k_asm) (drop2 (drop2 (by k_asm))) ⟨_, _, rfl, hys₂, rfl, fun p hp => off₂ p (List.mem_cons_of_mem _ (List.mem_cons_of_mem _ hp))⟩
end Mine
end
section
open PySem PySem.W PyProof.Rows
set_option Elab.async false
namespace Mine
theorem len_n {n : Nat} {prog : Program} {w : World} {A : Around} {E : Value → Shared → Prop} {s : Shared} {x : Str} {t : Tok} {Q : Value → Shared → Prop} (hx : x.length = n) (hn : n ≤ 1000) (h : Q (.int n (s.toks + 1)) { s with toks := s.toks + 1 + 1 }) :
    wpAny (model prog w) A (call (.builtin "len") [.str x t]) Q E s := by
  refine PySem.P.len_str (by rw [hx]; omega) ?_
  rw [hx]; exact h
local macro_rules | `(tactic| walk_at "call builtin:len") => `(tactic| (k_here; refine len_n (by assumption) (by omega) ?_))
noncomputable def stepAt (wd : Str) (c : Nat) (cs : List Int) (k : Nat) : List Int := if wd.cps.getD (k - 1) 0 = c then cs.set k (cs.getD k 0 + cs.getD (k - 1) 0) else cs
noncomputable def inner (wd : Str) (c : Nat) (cs : List Int) (n : Nat) : Nat → List Int
  | 0 => cs
  | j + 1 => stepAt wd c (inner wd c cs n j) (n - j)
noncomputable def countsAt (wd tt : Str) (n : Nat) : Nat → List Int
  | 0 => 1 :: List.replicate n 0
  | i + 1 => inner wd (tt.cps.getD i 0) (countsAt wd tt n i) n n
noncomputable def reckonUp (wd tt : Str) (n : Nat) (i : Nat) : List Int := (List.range (i + 1)).map fun i => (countsAt wd tt n i).getD n 0
theorem stepAt_len (wd : Str) (c : Nat) (cs : List Int) (k : Nat) : (stepAt wd c cs k).length = cs.length := by unfold stepAt; split <;> simp
theorem inner_len (wd : Str) (c : Nat) (cs : List Int) (n : Nat) : ∀ j, (inner wd c cs n j).length = cs.length
  | 0 => rfl
  | j + 1 => by rw [inner, stepAt_len, inner_len]
theorem countsAt_len (wd tt : Str) (n : Nat) : ∀ i, (countsAt wd tt n i).length = n + 1
  | 0 => by simp [countsAt]
  | i + 1 => by rw [countsAt, inner_len, countsAt_len]
theorem flat_zeros (n : Nat) : (List.replicate (n : Int).toNat [(0 : Int)]).flatten = List.replicate n 0 := by
  rw [Int.toNat_natCast]
  induction n with
  | zero => rfl
  | succ n ih => rw [List.replicate_succ, List.flatten_cons, ih, List.replicate_succ]; rfl
theorem drop35 {h₀ h : Heap} {L : Addr} {a b c d e : Addr × Obj} {l : List (Addr × Obj)} (N : News h₀ L h (a :: b :: c :: d :: e :: l)) : News h₀ L h (a :: b :: l) :=
  fun p hp => N p (by simp only [List.mem_cons] at hp ⊢; rcases hp with h | h | h <;> simp [h])
theorem ascii_letters {tt : Str} (hl : Letters tt) : tt.cps.all (· < 128) = true := by
  rw [Array.all_eq_true]
  intro i hi
  have := (hl i hi).2
  simp only [Array.getD_eq_getD_getElem?, Array.getElem?_eq_getElem hi, Option.getD_some] at this
  exact decide_eq_true (by omega)
theorem down_facts {n : Nat} (hn : 2 ≤ n ∧ n ≤ 4) : Builtin.Range.small (n : Int) 0 (-1) = true ∧ Builtin.Range.rangeSize (n : Int) 0 (-1) = (n : Int) := by
  obtain rfl | rfl | rfl : n = 2 ∨ n = 3 ∨ n = 4 := by omega
  all_goals decide
theorem item_back {wd : Str} {n j c : Nat} (hw : wd.length = n) (hj : j < n) : (Txt.item wd ((n : Int) - j - 1) == ⟨#[c]⟩) = true ↔ wd.cps.getD (n - j - 1) 0 = c := by
  have e : (n : Int) - j - 1 = 0 + ((n - j - 1 : Nat) : Int) := by omega
  rw [e, item_nat (by omega)]
  rw [beq_iff_eq]
  constructor
  · intro h; injection h with h; simpa using h
  · intro h; rw [h]
theorem step_in {wd : Str} {n j c : Nat} (hw : wd.length = n) (hj : j < n) (cs : List Int) (h : (Txt.item wd ((n : Int) - j - 1) == ⟨#[c]⟩) = true) :
    cs.set ((n : Int) - j).toNat (cs.getD ((n : Int) - j).toNat 0 + cs.getD ((n : Int) - j - 1).toNat 0) = stepAt wd c cs (n - j) := by
  have e1 : ((n : Int) - j).toNat = n - j := by omega
  have e2 : ((n : Int) - j - 1).toNat = n - j - 1 := by omega
  rw [e1, e2, stepAt, if_pos ((item_back hw hj).mp h)]
theorem step_out {wd : Str} {n j c : Nat} (hw : wd.length = n) (hj : j < n) (cs : List Int) (h : ¬ (Txt.item wd ((n : Int) - j - 1) == ⟨#[c]⟩) = true) : cs = stepAt wd c cs (n - j) := by
  rw [stepAt, if_neg fun z => h ((item_back hw hj).mpr z)]
theorem off4 {I₂ a b c : Addr} {oa ob oc oc' : Obj} {l : List (Addr × Obj)} {o₂ : Obj} (h : ∀ p ∈ (a, oa) :: (b, ob) :: (c, oc) :: l, p.1 ≠ I₂) : ∀ p ∈ (a, oa) :: (b, ob) :: (c, oc') :: l, ∀ q ∈ [(I₂, o₂)], p.1 ≠ q.1 := by
  intro p hp q hq
  rw [List.mem_singleton.mp hq]
  simp only [List.mem_cons] at hp
  rcases hp with e | e | e | hp
  · rw [e]; exact h (a, oa) (by simp)
  · rw [e]; exact h (b, ob) (by simp)
  · rw [e]; exact h (c, oc) (by simp)
  · exact h p (by simp [hp])
theorem two_names {g h : Heap} {L l D : Addr} {fs ws : Array Value} {k1 k2 : Nat} {rest : List (Addr × Obj)} (_N : News g L h ((l, listOf fs k1) :: (D, listOf ws k2) :: rest)) :
    ∃ lf Dc, lf = l ∧ Dc = D := ⟨l, D, rfl, rfl⟩
set_option maxRecDepth 100000 in
set_option maxHeartbeats 8000000 in
theorem reckoned (w : World) (news : List (Addr × Obj)) (n : Nat) (wd tt : Str) (tw tx : Tok) (hn : 2 ≤ n ∧ n ≤ 4) (hw : wd.length = n) (hT : tt.length = 4) (hl : Letters tt) :
    Says w 254 [.str wd tw, .str tt tx] news 20 160 (fun r nw => ∃ l ys k, r = .ref l ∧ IntsAre ys (reckonUp wd tt n 4) ∧ nw = (l, listOf ys.toArray k) :: news ∧ (∀ p ∈ news, p.1 ≠ l)) := by
  unfold Says PR
  w_top off
  k_fill
  intro mean mg mb dp un gd cn cs a ccd cl outer A₀ base h₀ L m s Q E B F X N T hk hdp hun hret
  refine wpAny_call ?_
  k_dflt ktr_enter
  k_steps
  rename Fr _ _ _ _ => F9
  rename News _ _ _ ((_, _) :: _) => N9
  obtain ⟨lf, Dc, rfl, rfl⟩ := two_names N9
  rename Dc < lf ∧ _ < lf ∧ _ < lf ∧ _ < lf ∧ AllLt lf _ => q1
  rename _ < Dc ∧ _ < Dc ∧ _ < Dc ∧ AllLt Dc _ => q2
  rename IntsAre _ ([1] ++ _) => hI1
  rw [flat_zeros] at hI1 N9
  have hlD : @Ne Nat lf Dc := Nat.ne_of_gt q1.1
  have hnl := fun p hp => Nat.ne_of_lt (ktn_ltOf q1.2.2.2.2 p hp)
  have hnD := fun p hp => Nat.ne_of_lt (ktn_ltOf q2.2.2.2 p hp)
  have N8 := drop35 N9
  unfold MyIter
  refine str_loop (fun i m₁ news₁ => m₁ (Str.ofString "word") = some (.str wd tw) ∧ m₁ (Str.ofString "counts") = some (.ref Dc) ∧ m₁ (Str.ofString "fronts") = some (.ref lf) ∧
    ∃ fs k1 ws k2, news₁ = (lf, W.listOf (List.toArray fs) k1) :: (Dc, W.listOf (List.toArray ws) k2) :: news ∧ IntsAre fs (reckonUp wd tt n i) ∧ IntsAre ws (countsAt wd tt n i)) rfl (ascii_letters hl) F9 N8 ⟨rfl, rfl, rfl, [_], _, _, _, rfl, ?_, hI1⟩ ?_ ?_
  · have e : reckonUp wd tt n 0 = [(1 :: List.replicate n 0).getD (-1 + ((1 :: List.replicate n (0 : Int)).length : Int)).toNat 0] := by
      have e1 : (-1 + ((1 :: List.replicate n (0 : Int)).length : Int)).toNat = n := by simp; omega
      rw [e1]; rfl
    rw [e]
    exact .cons _ _ .nil
  · rintro i c t m₁ news₁ h tk I o hc hI ⟨j1, j2, j3, fs, k1, ws, k2, rfl, hfs, hws⟩ F₁ N₁
    replace F₁ := frame_put (Str.ofString "word") F₁ (by (repeat (refine (if_neg (by decide)).trans ?_)); exact j1)
    replace F₁ := frame_put (Str.ofString "counts") F₁ (by (repeat (refine (if_neg (by decide)).trans ?_)); exact j2)
    replace F₁ := frame_put (Str.ofString "fronts") F₁ (by (repeat (refine (if_neg (by decide)).trans ?_)); exact j3)
    clear F9 N9 N8
    k_steps
    rename IsRange _ _ _ _ _ _ _ _ => R9
    rename Fr _ _ _ _ => F9
    rename News _ _ _ _ => N9
    have hDI : @Ne Nat Dc I := hI (Dc, W.listOf ws.toArray k2) (List.mem_cons_of_mem _ List.mem_cons_self)
    have hlI : @Ne Nat lf I := hI (lf, W.listOf fs.toArray k1) List.mem_cons_self
    unfold MyIter
    refine range_down (n := n) (fun j m₂ news₂ => m₂ (Str.ofString "word") = some (.str wd tw) ∧ m₂ (Str.ofString "counts") = some (.ref Dc) ∧ m₂ (Str.ofString "fronts") = some (.ref lf) ∧ m₂ (Str.ofString "sign") = some (.str ⟨#[c]⟩ t) ∧
      ∃ vs k3, news₂ = (I, o) :: (lf, W.listOf (List.toArray fs) k1) :: (Dc, W.listOf (List.toArray vs) k3) :: news ∧ IntsAre vs (inner wd c (countsAt wd tt n i) n j)) rfl R9 (down_facts hn).1 (down_facts hn).2 F9 N9 ⟨rfl, rfl, rfl, rfl, _, _, rfl, hws⟩ ?_ ?_
    · rintro j tj m₂ news₂ h₂ tk₃ I₂ o₂ hjn hI₂ ⟨j1, j2, j3, j4, vs, k3, rfl, hvs⟩ F₂ N₂
      replace F₂ := frame_put (Str.ofString "word") F₂ (by (repeat (refine (if_neg (by decide)).trans ?_)); exact j1)
      replace F₂ := frame_put (Str.ofString "counts") F₂ (by (repeat (refine (if_neg (by decide)).trans ?_)); exact j2)
      replace F₂ := frame_put (Str.ofString "fronts") F₂ (by (repeat (refine (if_neg (by decide)).trans ?_)); exact j3)
      replace F₂ := frame_put (Str.ofString "sign") F₂ (by (repeat (refine (if_neg (by decide)).trans ?_)); exact j4)
      clear F9 N9 R9
      have hDI₂ : @Ne Nat Dc I₂ := hI₂ (Dc, W.listOf vs.toArray k3) (by simp)
      have hvl := hvs.length
      have hil : (inner wd c (countsAt wd tt n i) n j).length = n + 1 := by rw [inner_len, countsAt_len]
      rw [hil] at hvl
      k_steps
      · refine MyTurn.next (by k_asm) (by k_asm) (off4 hI₂) ⟨rfl, rfl, rfl, rfl, _, _, rfl, ?_⟩
        rw [inner, ← step_in hw hjn _ (by assumption)]
        assumption
      · refine MyTurn.next (by k_asm) (by k_asm) (off4 hI₂) ⟨rfl, rfl, rfl, rfl, _, _, rfl, ?_⟩
        rw [inner, ← step_out hw hjn _ (by first | assumption | exact Bool.eq_false_iff.mp (by assumption) | exact ne_true_of_eq_false (by assumption))]
        exact hvs
    · rintro m₂ news₂ h₂ tk₃ ⟨j1, j2, j3, j4, vs, k3, rfl, hvs⟩ F₂ N₂
      replace F₂ := frame_put (Str.ofString "word") F₂ j1
      replace F₂ := frame_put (Str.ofString "counts") F₂ (by (repeat (refine (if_neg (by decide)).trans ?_)); exact j2)
      replace F₂ := frame_put (Str.ofString "fronts") F₂ (by (repeat (refine (if_neg (by decide)).trans ?_)); exact j3)
      clear F9 N9 R9
      have hvl := hvs.length
      have hil : (inner wd c (countsAt wd tt n i) n n).length = n + 1 := by rw [inner_len, countsAt_len]
      rw [hil] at hvl
      have hi4 : i < 4 := by
        have := (Array.getElem?_eq_some_iff.mp hc).1
        have e : tt.cps.size = 4 := hT
        omega
      have hfl := hfs.length
      have hrl : (reckonUp wd tt n i).length = i + 1 := by simp [reckonUp]
      rw [hrl] at hfl
      have hfz : fs.toArray.size ≤ sizeLine := by rw [PySem.sizeLine_eq, List.size_toArray]; omega
      k_steps
      rename Fr _ _ _ _ => F9
      rename News _ _ _ _ => N9
      rw [List.push_toArray] at N9
      have ec : tt.cps.getD i 0 = c := by rw [Array.getD_eq_getD_getElem?, hc]; rfl
      have e1 : countsAt wd tt n (i + 1) = inner wd c (countsAt wd tt n i) n n := by rw [countsAt, ec]
      have e2 : (-1 + ((inner wd c (countsAt wd tt n i) n n).length : Int)).toNat = n := by rw [hil]; omega
      rw [e2] at N9
      have e3 : reckonUp wd tt n (i + 1) = reckonUp wd tt n i ++ [(inner wd c (countsAt wd tt n i) n n).getD n 0] := by
        unfold reckonUp
        rw [List.range_succ (n := i + 1), List.map_append, List.map_cons, List.map_nil, e1]
      refine MyTurn.next F9 N9 (fun p hp q hq => ?_) ⟨rfl, rfl, rfl, _, _, _, _, rfl, ?_, ?_⟩
      · rw [List.mem_singleton.mp hq]
        simp only [List.mem_cons] at hp
        rcases hp with e | e | hp
        · rw [e]; exact hlI
        · rw [e]; exact hDI
        · exact hI p (by simp [hp])
      · rw [e3]; exact ints_snoc hfs
      · rw [e1]; exact hvs
  · rintro m₁ news₁ h tk ⟨j1, j2, j3, fs, k1, ws, k2, rfl, hfs, hws⟩ F₁ N₁
    replace F₁ := frame_put (Str.ofString "fronts") F₁ j3
    clear F9 N9 N8
    have e4 : tt.cps.size = 4 := hT
    rw [e4] at hfs
    k_steps
    exact hret _ _ _ _ (by k_asm) (drop2 (by k_asm)) ⟨_, _, _, rfl, hfs, rfl, hnl⟩
end Mine
end
section
open PySem PySem.W PyProof.Rows
set_option Elab.async false
namespace Mine
local macro_rules | `(tactic| walk_at "call ref") => `(tactic| (k_here; (with_reducible show wpAny _ _ (call (.ref 176) _) _ _ _); k_dflt (refine' sB (S := keys _ _ _ _ ?w1 (by assumption)) (ret := ?_); (case w1 => ((repeat refine Table.cons ?_); assumption))); intro h9 tk9 l9 ys9 F9 N9 hs9 hl9; (try dsimp only); (try k_fold)))
theorem Strs.are : ∀ {vs : List Value} {xs : List Str}, Strs vs xs → StrsAre vs xs
  | [], [], _ => .nil
  | _ :: _, _ :: _, ⟨⟨t, e⟩, r⟩ => e ▸ .cons _ t r.are
theorem notin_led {prog : Program} {w : World} {A : Around} {E : Value → Shared → Prop} {s : Shared} {h₀ : Heap} {L l : Addr} {news : List (Addr × Obj)} {vs : List Value} {k : Nat} {xs : List Str} {x : Str} {t : Tok} {Q : Value → Shared → Prop} (N : News h₀ L s.heap news) (hm : (l, listOf vs.toArray k) ∈ news) (hs : Strs vs xs)
    (h : Q (.bool (!(xs.any (· == x)))) s) : wpAny (model prog w) A (compareOp .NotIn (.str x t) (.ref l)) Q E s :=
  notin_list_strs ⟨_, (N _ hm).1, rfl, _, rfl⟩ hs.are h
local macro_rules | `(tactic| walk_at "compareOp NotIn str ref") => `(tactic| (k_here; k_dflt (refine' notin_led ?k1 ?k2 ?k3 ?_; (case k1 => k_asm); (case k2 => k_mem); (case k3 => assumption))))
theorem strs_name {ys : List Value} {xs : List Str} (_h : Strs ys xs) : ∃ zs, zs = ys := ⟨ys, rfl⟩
noncomputable def addName (xs : List Str) (x : Str) : List Str := if xs.any (· == Txt.lower x) = true then xs else xs ++ [Txt.lower x]
theorem addName_len (xs : List Str) (x : Str) : (addName xs x).length ≤ xs.length + 1 := by unfold addName; split <;> simp
theorem foldl_len : ∀ (ps : List Str) (xs : List Str), (ps.foldl addName xs).length ≤ xs.length + ps.length
  | [], xs => by simp
  | p :: ps, xs => by
    have := foldl_len ps (addName xs p)
    have := addName_len xs p
    simp only [List.foldl_cons, List.length_cons]
    omega
noncomputable def namesOf (ps : List Str) : List Str := ps.foldl addName []
set_option maxRecDepth 100000 in
set_option maxHeartbeats 8000000 in
theorem names (w : World) (news : List (Addr × Obj)) (tbl : Addr) (ps : List (Str × Str)) (hT : Table news tbl ps) (hps : ps.length ≤ 1000) (hp1 : ∀ p ∈ ps, p.1.length ≤ 1000) :
    Says w 261 [.ref tbl] news 20 160 (fun r nw => ∃ l ys k, r = .ref l ∧ Strs ys (namesOf (ps.map (·.1))) ∧ nw = (l, listOf ys.toArray k) :: news ∧ (∀ p ∈ news, p.1 ≠ l)) := by
  unfold Says PR
  w_top off
  k_fill
  intro mean mg mb dp un gd cn cs a ccd cl outer A₀ base h₀ L m s Q E B F X N T hk hdp hun hret
  have hT' := hT
  obtain ⟨lst, d, its, n, hh, kt, dn, h1, h2, h3, hro⟩ := hT'
  refine wpAny_call ?_
  k_dflt ktr_enter
  iterate 14 (first | (k_unfold; (try dsimp only)) | walk1 | (dsimp only; walk1) | skip)
  dsimp only
  simp only [List.append_nil]
  k_steps
  rename Fr _ _ _ _ => F9
  rename News _ _ _ ((_, LCg.lst _) :: _) => N9
  rename Strs _ _ => hs9
  obtain ⟨lk, ln, rfl, rfl⟩ := two_names N9
  obtain ⟨zs, rfl⟩ := strs_name hs9
  rename ∀ p ∈ (ln, _) :: news, p.1 ≠ lk => hl9
  unfold MyIter
  have hnl : @Ne Nat lk ln := fun e => hl9 _ List.mem_cons_self e.symm
  have q1 : ∀ p ∈ news, p.1 < ln := by assumption
  have hln := fun p hp => Nat.ne_of_lt (q1 p hp)
  have hyl := hs9.length
  rw [List.length_map] at hyl
  refine list_loop (lo := LCg.lst zs) (vs := zs) (k := zs.length) (fun i m₁ news₁ => m₁ (Str.ofString "names") = some (.ref ln) ∧ ∃ vs k, news₁ = (ln, W.listOf (List.toArray vs) k) :: (lk, LCg.lst zs) :: news ∧ Strs vs (namesOf ((ps.map (·.1)).take i))) rfl rfl ?_ F9 (swap_led N9) ⟨rfl, [], 0, rfl, trivial⟩ ?_ ?_
  · rintro i m₁ news₁ ⟨_, vs, k, rfl, _⟩
    exact List.mem_cons_of_mem _ List.mem_cons_self
  · rintro i v m₁ news₁ h tk I o hv hI ⟨j1, vs, k, rfl, hvs⟩ F₁ N₁
    obtain ⟨px, tp, hpx, rfl⟩ := hs9.get (i := i) (v := v) hv
    replace F₁ := frame_put (Str.ofString "names") F₁ (by (repeat (refine (if_neg (by decide)).trans ?_)); exact j1)
    clear F9 N9
    have hIl : @Ne Nat ln I := hI (ln, _) List.mem_cons_self
    have hvl := hvs.length
    have hpl : px.length ≤ 1000 := by
      rw [List.getElem?_map] at hpx
      obtain ⟨p, hp, rfl⟩ := Option.map_eq_some_iff.mp hpx
      exact hp1 p (List.mem_of_getElem? hp)
    have hvz : vs.toArray.size ≤ sizeLine := by
      rw [PySem.sizeLine_eq, List.size_toArray, hvl]
      exact Nat.le_trans (foldl_len _ _) (by simp; omega)
    have hstep : namesOf ((ps.map (·.1)).take (i + 1)) = addName (namesOf ((ps.map (·.1)).take i)) px := by
      rw [List.take_add_one, hpx]; simp [namesOf, List.foldl_append]
    have hof : ∀ {k' : Nat} {vs' : List Value}, ∀ p ∈ (ln, W.listOf (List.toArray vs') k') :: (lk, LCg.lst zs) :: news, ∀ q ∈ [(I, o)], p.1 ≠ q.1 := by
      intro k' vs' p hp q hq
      rw [List.mem_singleton.mp hq]
      simp only [List.mem_cons] at hp
      rcases hp with e | e | hp
      · rw [e]; exact hIl
      · rw [e]; exact hI (lk, LCg.lst zs) (by simp)
      · exact hI p (by simp [hp])
    k_steps
    · rename Fr _ _ _ _ => F9
      rename News _ _ _ _ => N9
      refine MyTurn.next F9 N9 hof ⟨rfl, _, _, rfl, ?_⟩
      rw [hstep, addName, if_pos (by assumption)]
      exact hvs
    · rename Fr _ _ _ _ => F9
      rename News _ _ _ _ => N9
      rw [List.push_toArray] at N9
      refine MyTurn.next F9 N9 hof ⟨rfl, _, _, rfl, ?_⟩
      rw [hstep, addName, if_neg (by first | assumption | exact Bool.eq_false_iff.mp (by assumption) | exact ne_true_of_eq_false (by assumption))]
      exact Strs.snoc ⟨_, rfl⟩ hvs
  · rintro m₁ news₁ h tk ⟨j1, vs, k, rfl, hvs⟩ F₁ N₁
    replace F₁ := frame_put (Str.ofString "names") F₁ j1
    clear F9 N9
    rw [List.take_of_length_le (by rw [List.length_map]; omega)] at hvs
    k_steps
    exact hret _ _ _ _ (by k_asm) (drop2 (by k_asm)) ⟨_, _, _, rfl, hvs, rfl, hln⟩
end Mine
end
section
open PySem PySem.W PyProof.Rows
set_option Elab.async false
namespace Mine
open PySem.Builtin PySem.Builtin.Str PySem.StrLaws
noncomputable def wantOf (ls : List Nat) : Str := ⟨(46 :: 46 :: 46 :: ls.flatMap fun c => [c, 46, 46, 46]).toArray⟩
theorem sub_eq (l : List Nat) (i : Nat) : subAt ⟨l.toArray⟩ ⟨#[46, 46, 46]⟩ i = decide (((l.drop i).take 3) = [46, 46, 46]) := by
  unfold subAt
  simp only [List.extract_toArray, List.extract_eq_take_drop]
  have e : (⟨#[46,46,46]⟩ : Str).length = 3 := rfl
  rw [e, Nat.add_sub_cancel_left, Bool.eq_iff_iff, beq_iff_eq, decide_eq_true_iff]
  exact ⟨fun h => List.toArray_inj h, fun h => by rw [h]⟩
theorem three : (⟨#[46,46,46]⟩ : Str).length = 3 := rfl
set_option maxRecDepth 100000 in
theorem occ2 (lim a b : Nat) (hl : 3 < lim) (ha : a ≠ 46) (hb : b ≠ 46) : occurrences (wantOf [a, b]) ⟨#[46, 46, 46]⟩ 0 11 lim = [0, 4, 8] := by
  rw [occ_eq]
  simp (decide := true) [occBody, sub_eq, wantOf, List.range', List.forIn_cons, three, ha, hb, hl, Nat.lt_trans _ hl]
set_option maxRecDepth 100000 in
theorem occ3 (lim a b c : Nat) (hl : 4 < lim) (ha : a ≠ 46) (hb : b ≠ 46) (hc : c ≠ 46) : occurrences (wantOf [a, b, c]) ⟨#[46, 46, 46]⟩ 0 15 lim = [0, 4, 8, 12] := by
  rw [occ_eq]
  simp (decide := true) [occBody, sub_eq, wantOf, List.range', List.forIn_cons, three, ha, hb, hc, hl, Nat.lt_trans _ hl]
set_option maxRecDepth 100000 in
theorem occ4 (lim a b c d : Nat) (hl : 5 < lim) (ha : a ≠ 46) (hb : b ≠ 46) (hc : c ≠ 46) (hd : d ≠ 46) : occurrences (wantOf [a, b, c, d]) ⟨#[46, 46, 46]⟩ 0 19 lim = [0, 4, 8, 12, 16] := by
  rw [occ_eq]
  simp (decide := true) [occBody, sub_eq, wantOf, List.range', List.forIn_cons, three, ha, hb, hc, hd, hl, Nat.lt_trans _ hl]
theorem want_len (ls : List Nat) : (wantOf ls).length = 3 + 4 * ls.length := by
  show (List.toArray _).size = _
  simp only [List.size_toArray, List.length_cons]
  induction ls with
  | nil => rfl
  | cons a l ih => simp at ih ⊢; omega
theorem has_dots (ls : List Nat) : (occurrences (wantOf ls) ⟨#[46, 46, 46]⟩ 0 (wantOf ls).length 1).isEmpty = false := by
  rcases occ_head (wantOf ls) ⟨#[46, 46, 46]⟩ 1 (Nat.le_refl 1) with ⟨_, h⟩ | ⟨i, r, h, _⟩
  · refine absurd ?_ (h 0)
    refine ⟨?_, ?_⟩
    · rw [want_len, three]; omega
    · rw [wantOf, sub_eq]; simp
  · rw [h]; rfl
theorem kind_small (x : Str) : decide (strKind x < strKind ⟨#[46, 46, 46]⟩) = false := by
  have e : strKind ⟨#[46, 46, 46]⟩ = 1 := by decide +kernel
  rw [e, decide_eq_false_iff_not]
  unfold Builtin.Str.strKind
  split <;> (try split) <;> omega
noncomputable def pieces (ls : List Nat) : List Str := ⟨#[]⟩ :: (ls.map (fun c => ⟨#[c]⟩) ++ [⟨#[]⟩])
theorem split_by {ls : List Nat} {cuts : List Nat} (h : occurrences (wantOf ls) ⟨#[46, 46, 46]⟩ 0 (wantOf ls).length ((wantOf ls).length + 1) = cuts) (hc : cuts.isEmpty = false) :
    Txt.split (wantOf ls) ⟨#[46, 46, 46]⟩ = partsBetween (wantOf ls) cuts 3 := by
  unfold Txt.split
  rw [h, kind_small, three, want_len, if_neg (by simp), if_neg (ne_true_of_eq_false hc)]
theorem split_want {ls : List Nat} (hn : 2 ≤ ls.length ∧ ls.length ≤ 4) (hl : ∀ c ∈ ls, c ≠ 46) : Txt.split (wantOf ls) (Str.ofString "...") = pieces ls := by
  show Txt.split (wantOf ls) ⟨#[46, 46, 46]⟩ = pieces ls
  match ls, hn, hl with
  | [a, b], _, hl => exact split_by (occ2 12 a b (by omega) (hl _ (by simp)) (hl _ (by simp))) rfl
  | [a, b, c], _, hl => exact split_by (occ3 16 a b c (by omega) (hl _ (by simp)) (hl _ (by simp)) (hl _ (by simp))) rfl
  | [a, b, c, d], _, hl => exact split_by (occ4 20 a b c d (by omega) (hl _ (by simp)) (hl _ (by simp)) (hl _ (by simp)) (hl _ (by simp))) rfl
  | [], hn, _ => exact absurd hn.1 (by simp)
  | [_], hn, _ => exact absurd hn.1 (by simp)
  | _ :: _ :: _ :: _ :: _ :: _, hn, _ => exact absurd hn.2 (by simp)
theorem gives_find4 (x y : Str) (i : Int) (t u v z : Tok) : Gives («str.find» ⟨[.str x t, .str y u, .int i v, .int x.length z], []⟩) (.int (Txt.find3 x y i)) := by
  show Gives (match occurrences x y (fromIndex x.length i) (min (fromIndex x.length (x.length : Int)) x.length) 1 with | k :: _ => retInt k | [] => (do rule "str.find.not-found"; retInt (-1))) _
  have e : min (fromIndex x.length (x.length : Int)) x.length = x.length := by unfold fromIndex; rw [if_neg (by omega)]; omega
  rw [e]
  unfold Txt.find3
  cases occurrences x y (fromIndex x.length i) x.length 1 with
  | nil => exact .rule (.of_eq rfl)
  | cons k _ => exact .of_eq rfl
theorem find4 {prog : Program} {w : World} {A : Around} {E : Value → Shared → Prop} {s : Shared} {x y : Str} {t u v z : Tok} {i j : Int} {Q : Value → Shared → Prop} (hj : j = x.length) (hq : Q (.int (Txt.find3 x y i) s.toks) { s with toks := s.toks + 1 }) :
    wpAny (model prog w) A (call (.builtin "str.find") [.str x t, .str y u, .int i v, .int j z]) Q E s := by
  subst hj
  exact call_gives F.slot_str_find (typeIs_str _ _ _) F.entry_str_find (F.args_str_find_4 _ _ _ _) (gives_find4 x y i t u v z) hq
noncomputable def go (tt : Str) : List Str → Int → Bool
  | [], _ => true
  | p :: ps, i => if Txt.find3 tt p i < 0 then false else go tt ps (Txt.find3 tt p i + p.length)
theorem find3_empty (x : Str) (i : Nat) (h : i ≤ x.length) : Txt.find3 x ⟨#[]⟩ i = i := by
  unfold Txt.find3
  have e : fromIndex x.length (i : Int) = i := by unfold fromIndex; rw [if_neg (by omega)]; omega
  rw [e]
  have ha : At x ⟨#[]⟩ x.length i := ⟨by show i + 0 ≤ _; omega, by unfold subAt; show (x.cps.extract i (i + 0) == #[]) = true; simp; exact Nat.min_le_left _ _⟩
  rcases occ_head_from x ⟨#[]⟩ i 1 (Nat.le_refl 1) with ⟨_, hn⟩ | ⟨k, r, h0, hlo, hk, hn⟩
  · exact absurd ha (hn i (Nat.le_refl i))
  · rw [h0]
    have : ¬ i < k := fun q => hn i (Nat.le_refl i) q ha
    have : k = i := by omega
    rw [this]
theorem sub_skip {c : Nat} {ls : List Nat} {l : List Nat} : ∀ {k : Nat}, (∀ v, v < k → l[v]? ≠ some c) → (c :: ls).isSublist l = (c :: ls).isSublist (l.drop k)
  | 0, _ => by rw [List.drop_zero]
  | k + 1, h => by
    cases l with
    | nil => simp
    | cons a l =>
      have h0 := h 0 (by omega)
      rw [List.drop_succ_cons, ← sub_skip (k := k) (fun v hv => by have := h (v + 1) (by omega); simpa using this)]
      simp only [List.isSublist]
      rw [if_neg]
      intro q
      exact h0 (by rw [eq_of_beq q]; rfl)
theorem go_tail (x : Str) : ∀ (ls : List Nat) (i : Nat), i ≤ x.length → go x (ls.map (fun c => ⟨#[c]⟩) ++ [⟨#[]⟩]) i = ls.isSublist (x.cps.toList.drop i)
  | [], i, h => by
    simp only [List.map_nil, List.nil_append, go]
    rw [find3_empty x i h, if_neg (by omega)]
    simp [List.isSublist]
  | c :: ls, i, h => by
    simp only [List.map_cons, List.cons_append, go]
    have e : fromIndex x.length (i : Int) = i := by unfold fromIndex; rw [if_neg (by omega)]; omega
    have hsz : x.cps.toList.length = x.length := rfl
    rcases find3_spec x c i with ⟨h1, hn⟩ | ⟨k, h1, hlo, hlt, hk, hn⟩
    · rw [h1, if_pos (by decide)]
      rw [e] at hn
      rw [sub_skip (k := x.length - i), List.drop_drop, List.drop_eq_nil_of_le (by omega)]
      · simp [List.isSublist]
      · intro v hv q
        rw [List.getElem?_drop] at q
        exact hn (i + v) (by omega) (by omega) (getD_of_getElem? q)
    · rw [h1, if_neg (by omega)]
      rw [e] at hn hlo
      have e1 : (k : Int) + ((⟨#[c]⟩ : Str).length : Nat) = ((k + 1 : Nat) : Int) := rfl
      rw [e1, go_tail x ls (k + 1) (by omega), sub_skip (k := k - i), List.drop_drop]
      · have e2 : i + (k - i) = k := by omega
        rw [e2]
        have e3 := getElem?_of_getD hlt hk
        rw [List.getElem?_eq_some_iff] at e3
        obtain ⟨h3, e3⟩ := e3
        rw [List.drop_eq_getElem_cons h3, e3]
        simp [List.isSublist]
      · intro v hv q
        rw [List.getElem?_drop] at q
        exact hn (i + v) (by omega) (by omega) (getD_of_getElem? q)
theorem go_pieces (x : Str) (ls : List Nat) : go x (pieces ls) 0 = ls.isSublist x.cps.toList := by
  unfold pieces
  simp only [go]
  have := find3_empty x 0 (Nat.zero_le _)
  simp only [Int.ofNat_zero] at this
  rw [this, if_neg (by decide)]
  have e := go_tail x ls 0 (Nat.zero_le _)
  rw [List.drop_zero] at e
  rw [← e]
  rfl
end Mine
end
section
open PySem PySem.W PyProof.Rows
set_option Elab.async false
namespace Mine
/-- a list of n texts, the first and the last empty -/
noncomputable def Ends (vs : List Value) (n : Nat) : Prop := vs.length = n ∧ (∃ t, vs[0]? = some (.str ⟨#[]⟩ t)) ∧ ∃ t, vs[n - 1]? = some (.str ⟨#[]⟩ t)
theorem Strs.at : ∀ {vs : List Value} {xs : List Str}, Strs vs xs → ∀ {i : Nat} {x : Str}, xs[i]? = some x → ∃ t, vs[i]? = some (.str x t)
  | _ :: _, _ :: _, ⟨⟨t, e⟩, _⟩, 0, x, h => by simp at h; exact ⟨t, by rw [e, h]; rfl⟩
  | _ :: _, _ :: _, ⟨_, r⟩, i + 1, x, h => by simpa using r.at (i := i) (x := x) (by simpa using h)
  | [], [], _, _, _, h => by simp at h
theorem ends_of {vs : List Value} {ls : List Nat} (h : Strs vs (pieces ls)) (hn : 2 ≤ ls.length ∧ ls.length ≤ 4) : ∃ n, Ends vs n ∧ 4 ≤ n ∧ n ≤ 6 := by
  have hl : (pieces ls).length = ls.length + 2 := by simp [pieces]
  refine ⟨ls.length + 2, ⟨h.length.trans hl, h.at (x := ⟨#[]⟩) rfl, h.at (x := ⟨#[]⟩) ?_⟩, by omega, by omega⟩
  show (⟨#[]⟩ :: (ls.map (fun c => (⟨#[c]⟩ : Str)) ++ [⟨#[]⟩]))[ls.length + 1]? = _
  rw [List.getElem?_cons_succ, List.getElem?_append_right (by simp)]
  simp
section
variable {prog : Program} {w : World} {A : Around} {E : Value → Shared → Prop} {s : Shared} {h₀ : Heap} {L a : Addr} {news : List (Addr × Obj)} {vs : List Value} {n kd : Nat}
theorem len_ends {Q : Value → Shared → Prop} (N : News h₀ L s.heap news) (hm : (a, W.listOf vs.toArray kd) ∈ news) (he : Ends vs n) (hn : n ≤ 6) (h : Q (.int (n : Nat) (s.toks + 1)) { s with toks := s.toks + 1 + 1 }) : wpAny (model prog w) A (call (.builtin "len") [.ref a]) Q E s := by
  obtain ⟨rfl, _⟩ := he
  refine len_list (items := vs.toArray) ⟨_, (N _ hm).1, rfl, _, rfl⟩ (by rw [List.size_toArray]; omega) ?_
  rw [List.size_toArray]; exact h
theorem head_ends {value slice : Expr} {u : Tok} {Q : Value → Shared → Prop} (N : News h₀ L s.heap news) (hm : (a, W.listOf vs.toArray kd) ∈ news) (he : Ends vs n) (h : ∀ t, Q (.str ⟨#[]⟩ t) s)
    (hs : subscripted slice false (.ref a) (.int 0 u) = operate [.ref a, .int 0 u] (getItem (.ref a) (.int 0 u)) := by with_unfolding_all rfl)
    (hg : ∀ r, letTemporaryGo value (.ref a) r = pure () := by intro _; with_unfolding_all rfl) :
    wpAny (model prog w) A (subscriptTail value slice (.ref a) (.int 0 u)) Q E s := by
  obtain ⟨_, ⟨t, ht⟩, _⟩ := he
  have hls : s.heap.IsList a vs.toArray := ⟨_, (N _ hm).1, rfl, kd, rfl⟩
  exact item_list hls (Int.le_refl 0) (by decide) (by simpa using ht) (h t) hs hg
theorem last_ends {value slice : Expr} {u : Tok} {Q : Value → Shared → Prop} (N : News h₀ L s.heap news) (hm : (a, W.listOf vs.toArray kd) ∈ news) (he : Ends vs n) (h4 : 4 ≤ n) (h : ∀ t, Q (.str ⟨#[]⟩ t) s)
    (hs : subscripted slice false (.ref a) (.int (-1) u) = operate [.ref a, .int (-1) u] (getItem (.ref a) (.int (-1) u)) := by with_unfolding_all rfl)
    (hg : ∀ r, letTemporaryGo value (.ref a) r = pure () := by intro _; with_unfolding_all rfl) :
    wpAny (model prog w) A (subscriptTail value slice (.ref a) (.int (-1) u)) Q E s := by
  obtain ⟨hl, _, ⟨t, ht⟩⟩ := he
  have hls : s.heap.IsList a vs.toArray := ⟨_, (N _ hm).1, rfl, kd, rfl⟩
  have e : ((-1 : Int) + (vs.toArray.size : Nat)).toNat = n - 1 := by rw [List.size_toArray, hl]; omega
  exact subscriptTail_builtin hls.typeIs slot_list_getitem.lookup (wpAny_getItem_list_neg hls (by decide) (by rw [List.size_toArray, hl]; omega) (by decide) (by rw [e]; simpa using ht) (h t)) hs hg
end
theorem strs_of_values : ∀ (l : List (Str × Tok)), Strs (strValues l) (l.map (·.1))
  | [] => trivial
  | (_, t) :: l => ⟨⟨t, rfl⟩, strs_of_values l⟩
theorem split_rule {prog : Program} {w : World} {A : Around} {E : Value → Shared → Prop} {s : Shared} {h₀ : Heap} {L : Addr} {m : Str → Option Value} {news : List (Addr × Obj)} {ls : List Nat} {t u : Tok} {Q : Value → Shared → Prop}
    (hF : Fr h₀ L s.heap m) (hN : News h₀ L s.heap news) (hn : 2 ≤ ls.length ∧ ls.length ≤ 4) (hls : ∀ c ∈ ls, 97 ≤ c ∧ c ≤ 122)
    (h : ∀ vs l h' k, Strs vs (pieces ls) → (∀ p ∈ news, p.1 < l) → Fr h₀ L h' m → News h₀ L h' ((l, W.listOf vs.toArray 0) :: news) → Q (.ref l) { s with heap := h', toks := k }) :
    wpAny (model prog w) A (call (.builtin "str.split") [.str (wantOf ls) t, .str (Str.ofString "...") u]) Q E s := by
  refine splitN1 hF hN rfl (fun l h' k e F N => ?_) (by rw [want_len, PySem.sizeLine_eq]; omega)
  rw [split_want hn (fun c hc => by have := hls c hc; omega)] at e
  exact h _ _ _ _ (e ▸ strs_of_values l) (fun p hp => Heap.lt_size (hN p hp).1) F N
local macro_rules | `(tactic| walk_at "call builtin:str.split") => `(tactic| (k_here; (rename Fr _ _ _ _ => lF'); (rename News _ _ _ _ => lN'); (refine split_rule lF' lN' (by assumption) (by assumption) ?_); (intro vs8 l8 h8 k8 hs8 q8 F8 N8); (obtain ⟨n8, he8, hn4, hn6⟩ := ends_of hs8 (by assumption))))
local macro_rules | `(tactic| walk_at "subscriptTail Name Constant ref int") => `(tactic| (k_here; k_dflt (first | refine head_ends (by k_asm) (by k_mem) (by assumption) ?_ | refine last_ends (by k_asm) (by k_mem) (by assumption) (by assumption) ?_); intro t8))
local macro_rules | `(tactic| walk_at "subscriptTail Name UnaryOp ref int") => `(tactic| (k_here; k_dflt (refine last_ends (by k_asm) (by k_mem) (by assumption) (by assumption) ?_); intro t8))
local macro_rules | `(tactic| walk_at "call builtin:str.find") => `(tactic| (k_here; refine find4 (by assumption) ?_))
local macro_rules | `(tactic| walk_at "call builtin:len") => `(tactic| (k_here; (with_reducible show wpAny _ _ (call (Value.builtin "len") [Value.ref _]) _ _ _); k_dflt (refine len_ends (by k_asm) (by k_mem) (by assumption) (by assumption) ?_)))
local macro_rules | `(tactic| walk_at "call builtin:len") => `(tactic| (k_here; (first | refine len_four (by assumption) ?_ | refine PySem.P.len_str (by omega) ?_)))
theorem gen_list {g h : Heap} {L l D : Addr} {tup : Obj} {vs : List Value} {ws : Array Value} {k : Nat} {xs : List Str} {rest : List (Addr × Obj)} (N : News g L h ((D, tup) :: (l, W.listOf ws k) :: rest)) (hs : Strs vs xs) (e : ws = vs.toArray) :
    ∃ vs' l', Strs vs' xs ∧ News g L h ((l', W.listOf (List.toArray vs') k) :: rest) ∧ l' = l := ⟨vs, l, hs, e ▸ fun p hp => N p (List.mem_cons_of_mem _ hp), rfl⟩
set_option maxRecDepth 100000 in
set_option maxHeartbeats 8000000 in
theorem ellipsis (w : World) (news : List (Addr × Obj)) (ls : List Nat) (tt : Str) (tw tx : Tok) (hn : 2 ≤ ls.length ∧ ls.length ≤ 4) (hls : ∀ c ∈ ls, 97 ≤ c ∧ c ≤ 122) (hT : tt.length = 4) :
    Says w 52 [.str (wantOf ls) tw, .str tt tx] news 20 160 (fun r nw => r = .bool (ls.isSublist tt.cps.toList) ∧ nw = news) := by
  unfold Says PR
  w_top off
  k_fill
  intro mean mg mb dp un gd cn cs a ccd cl outer A₀ base h₀ L m s Q E B F X N T hk hdp hun hret
  have hT4 : (4 : Int) = tt.length := by rw [hT]; rfl
  refine wpAny_call ?_
  k_dflt ktr_enter
  k_steps
  · exact Bool.noConfusion ((has_dots ls).symm.trans (show (Builtin.Str.occurrences (wantOf ls) (Str.ofString "...") 0 (wantOf ls).length 1).isEmpty = true by assumption))
  rename Fr _ _ _ _ => F9
  rename News _ _ _ ((_, _) :: (_, W.listOf _ _) :: _) => N9
  rename Strs _ _ => hs8
  obtain ⟨vs, l, hvs, N8, rfl⟩ := gen_list N9 hs8 rfl
  clear N9 hs8
  rename l < _ ∧ AllLt _ _ => q1
  have q2 : ∀ p ∈ news, p.1 < l := by assumption
  unfold MyIter
  refine list_loop (lo := W.listOf (List.toArray vs) 0) (vs := vs) (k := 0) (fun i m₁ news₁ => news₁ = (l, W.listOf (List.toArray vs) 0) :: news ∧ m₁ (Str.ofString "got") = some (.str tt tx) ∧ ∃ sp st et, m₁ (Str.ofString "startpos") = some (.int sp st) ∧ m₁ (Str.ofString "endpos") = some (.int 4 et) ∧ go tt ((pieces ls).drop i) sp = go tt (pieces ls) 0) rfl rfl ?_ F9 N8 ⟨rfl, rfl, _, _, _, rfl, rfl, rfl⟩ ?_ ?_
  · rintro i m₁ news₁ ⟨rfl, _⟩
    exact List.mem_cons_self
  · rintro i v m₁ news₁ h tk I o hv hI ⟨rfl, j1, sp, st, et, j2, j3, hgo⟩ F₁ N₁
    obtain ⟨px, tp, hpx, rfl⟩ := hvs.get (i := i) (v := v) hv
    replace F₁ := frame_put (Str.ofString "got") F₁ (by (repeat (refine (if_neg (by decide)).trans ?_)); exact j1)
    replace F₁ := frame_put (Str.ofString "startpos") F₁ (by (repeat (refine (if_neg (by decide)).trans ?_)); exact j2)
    replace F₁ := frame_put (Str.ofString "endpos") F₁ (by (repeat (refine (if_neg (by decide)).trans ?_)); exact j3)
    clear F9 N8
    obtain ⟨hlt, hpe⟩ := List.getElem?_eq_some_iff.mp hpx
    rw [List.drop_eq_getElem_cons hlt, hpe] at hgo
    simp only [go] at hgo
    have hpl : px.length ≤ 1 := by
      have hm : px ∈ pieces ls := hpe ▸ List.getElem_mem hlt
      simp only [pieces, List.mem_cons, List.mem_append, List.mem_map, List.not_mem_nil, or_false] at hm
      rcases hm with e | ⟨c, _, e⟩ | e
      · rw [e]; exact Nat.zero_le _
      · rw [← e]; exact Nat.le_refl _
      · rw [e]; exact Nat.zero_le _
    k_steps
    · rw [if_pos (by assumption)] at hgo
      dsimp only [MyTurn]
      k_steps
      exact hret _ _ _ _ (by k_asm) (drop1 (drop1 (by k_asm))) ⟨by rw [← go_pieces, ← hgo], rfl⟩
    · rw [if_neg (by assumption)] at hgo
      refine MyTurn.next (by k_asm) (by k_asm) ?_ ⟨rfl, rfl, _, _, _, rfl, rfl, hgo⟩
      intro p hp q hq
      rw [List.mem_singleton.mp hq]
      exact hI p hp
  · rintro m₁ news₁ h tk ⟨rfl, j1, sp, st, et, j2, j3, hgo⟩ F₁ N₁
    rw [hvs.length, List.drop_length] at hgo
    clear F9 N8
    k_steps
    exact hret _ _ _ _ (by k_asm) (drop1 (by k_asm)) ⟨by rw [← go_pieces, ← hgo]; rfl, rfl⟩
end Mine
end
section
open PySem PySem.W PyProof.Rows
set_option Elab.async false
namespace Mine
structure Eqs where
  a : Bool
  b : Bool
  c : Bool
  d : Bool
noncomputable def Eqs.at (e : Eqs) : Nat → Nat → Bool
  | 0, 0 => e.a
  | 0, _ => e.b
  | _, 0 => e.c
  | _, _ => e.d
noncomputable def kids (e : Eqs) : List Nat × Nat × Nat → List (List Nat × Nat × Nat)
  | (sy, i, j) => (if i < 2 then [(sy ++ [i], i + 1, j)] else []) ++ (if j < 2 then [(sy ++ [2 + j], i, j + 1)] else []) ++ (if i < 2 ∧ j < 2 ∧ e.at i j = true then [(sy ++ [i], i + 1, j + 1)] else [])
noncomputable def queue (e : Eqs) : Nat → List (List Nat × Nat × Nat)
  | 0 => [([], 0, 0)]
  | n + 1 => queue e n ++ (match (queue e n)[n]? with | some x => kids e x | none => [])
noncomputable def rowsAt (e : Eqs) : Nat → List (List Nat × Nat)
  | 0 => []
  | n + 1 => rowsAt e n ++ (match (queue e n)[n]? with | some (sy, 2, 2) => [(sy, n + 1)] | _ => [])
noncomputable def queueGo (e : Eqs) : Nat → List (List Nat × Nat × Nat) → List (List Nat × Nat × Nat) → List (List Nat × Nat × Nat)
  | 0, done, todo => done ++ todo
  | _ + 1, done, [] => done
  | n + 1, done, x :: todo => queueGo e n (done ++ [x]) (todo ++ kids e x)
noncomputable def allEqs : List Eqs := [false, true].flatMap fun a => [false, true].flatMap fun b => [false, true].flatMap fun c => [false, true].map fun d => ⟨a, b, c, d⟩
theorem mem_of {e : Eqs} (h : allEqs.any (fun x => x.a == e.a && x.b == e.b && x.c == e.c && x.d == e.d) = true) : e ∈ allEqs := by
  obtain ⟨x, hx, h⟩ := List.any_eq_true.mp h
  simp only [Bool.and_eq_true, beq_iff_eq] at h
  obtain ⟨⟨⟨h1, h2⟩, h3⟩, h4⟩ := h
  cases x; cases e; simp only at h1 h2 h3 h4; subst h1 h2 h3 h4; exact hx
theorem mem_allEqs : ∀ e : Eqs, e ∈ allEqs := by
  rintro ⟨a, b, c, d⟩
  cases a <;> cases b <;> cases c <;> cases d <;> exact mem_of (by decide)
noncomputable def queueOk (e : Eqs) (n : Nat) : Bool :=
  let q := queue e n
  (decide (n < q.length → n < 31)) && decide (q.length ≤ 100) && q.all (fun x => x.1.length ≤ 4 && x.1.all (· < 4) && x.2.1 ≤ 2 && x.2.2 ≤ 2) && (rowsAt e n).all (fun x => x.1.all (· < 4) && decide (2 ≤ x.1.length) && decide (x.1.length ≤ 4) && decide (x.2 < 32)) && decide (q.length ≤ n → rowsAt e n = rowsAt e 31) && decide ((rowsAt e n).length ≤ 100)
theorem queue_ok : ∀ e ∈ allEqs, ∀ n ∈ List.range 32, queueOk e n = true := by decide +kernel
noncomputable def val (u v : Str) : Nat → Nat
  | 0 => u.cps.getD 0 0
  | 1 => u.cps.getD 1 0
  | 2 => v.cps.getD 0 0 - 32
  | _ => v.cps.getD 1 0 - 32
noncomputable def nmOf (ls : List Nat) : Str := ⟨(67 :: ls.flatMap fun c => [46, c]).toArray⟩
noncomputable def symName (u v : Str) (sy : List Nat) : Str := nmOf (sy.map (val u v))
noncomputable def eqsOf (u v : Str) : Eqs := ⟨u.cps.getD 0 0 == v.cps.getD 0 0, u.cps.getD 0 0 == v.cps.getD 1 0, u.cps.getD 1 0 == v.cps.getD 0 0, u.cps.getD 1 0 == v.cps.getD 1 0⟩
noncomputable def laidRows (u v : Str) (n : Nat) : List (Str × Str) := (rowsAt (eqsOf u v) n).map fun x => (symName u v x.1, lineOf x.2)
theorem nm_len (ls : List Nat) : (nmOf ls).length = 1 + 2 * ls.length := by
  show (List.toArray _).size = _
  simp only [List.size_toArray, List.length_cons]
  induction ls with
  | nil => rfl
  | cons a l ih => simp at ih ⊢; omega
theorem nm_snoc (ls : List Nat) (c : Nat) : nmOf ls ++ Str.ofString "." ++ ⟨#[c]⟩ = nmOf (ls ++ [c]) := by
  show (⟨(67 :: ls.flatMap fun c => [46, c]).toArray ++ #[46] ++ #[c]⟩ : Str) = _
  simp [nmOf]
theorem sym_snoc (u v : Str) (sy : List Nat) (c : Nat) : symName u v sy ++ Str.ofString "." ++ ⟨#[val u v c]⟩ = symName u v (sy ++ [c]) := by
  rw [symName, nm_snoc]; simp [symName]
structure QFacts (e : Eqs) (n : Nat) : Prop where
  on : n < (queue e n).length → n < 31
  len : (queue e n).length ≤ 100
  ent : ∀ x ∈ queue e n, x.1.length ≤ 4 ∧ (∀ c ∈ x.1, c < 4) ∧ x.2.1 ≤ 2 ∧ x.2.2 ≤ 2
  row : ∀ x ∈ rowsAt e n, (∀ c ∈ x.1, c < 4) ∧ 2 ≤ x.1.length ∧ x.1.length ≤ 4 ∧ x.2 < 32
  off : (queue e n).length ≤ n → rowsAt e n = rowsAt e 31
  rows : (rowsAt e n).length ≤ 100
theorem q_facts (e : Eqs) {n : Nat} (h : n < 32) : QFacts e n := by
  have := queue_ok e (mem_allEqs e) n (List.mem_range.mpr h)
  simp only [queueOk, Bool.and_eq_true, List.all_eq_true, decide_eq_true_eq] at this
  obtain ⟨⟨⟨⟨⟨h1, h2⟩, h3⟩, h4⟩, h5⟩, h6⟩ := this
  exact ⟨h1, h2, fun x hx => by have := h3 x hx; exact ⟨this.1.1.1, this.1.1.2, this.1.2, this.2⟩, fun x hx => by have := h4 x hx; exact ⟨this.1.1.1, this.1.1.2, this.1.2, this.2⟩, h5, h6⟩
theorem item_at {x : Str} {k : Nat} (hk : k < x.length) : Txt.item x (k : Int) = ⟨#[x.cps.getD k 0]⟩ := by
  have := item_nat hk
  rwa [Int.zero_add] at this
theorem val_u {u : Str} (v : Str) (hu : u.length = 2) {x : Nat} (hx : x < 2) : Txt.item u (x : Int) = ⟨#[val u v x]⟩ := by
  rw [item_at (by omega)]
  obtain rfl | rfl : x = 0 ∨ x = 1 := by omega
  · rfl
  · rfl
theorem val_v (u : Str) {v : Str} (hv : v.length = 2) (lv : Letters v) {y : Nat} (hy : y < 2) : Txt.upper (Txt.item v (y : Int)) = ⟨#[val u v (2 + y)]⟩ := by
  have h := lv y (by omega)
  rw [item_at (by omega), upper_letter h.1 h.2]
  obtain rfl | rfl : y = 0 ∨ y = 1 := by omega
  · rfl
  · rfl
theorem eq_at {u v : Str} (hu : u.length = 2) (hv : v.length = 2) {x y : Nat} (hx : x < 2) (hy : y < 2) : (Txt.item u (x : Int) == Txt.item v (y : Int)) = (eqsOf u v).at x y := by
  rw [item_at (by omega), item_at (by omega)]
  have e : ∀ a b : Nat, ((⟨#[a]⟩ : Str) == ⟨#[b]⟩) = (a == b) := by
    intro a b
    rw [Bool.eq_iff_iff, beq_iff_eq, beq_iff_eq]
    exact ⟨fun h => by injection h with h; simpa using h, fun h => by rw [h]⟩
  rw [e]
  obtain rfl | rfl : x = 0 ∨ x = 1 := by omega
  all_goals obtain rfl | rfl : y = 0 ∨ y = 1 := by omega
  all_goals rfl
theorem q_succ {e : Eqs} {n : Nat} {x : List Nat × Nat × Nat} (h : (queue e n)[n]? = some x) : queue e (n + 1) = queue e n ++ kids e x := by rw [queue, h]
theorem rows_no {e : Eqs} {n x y : Nat} {sy : List Nat} (h : (queue e n)[n]? = some (sy, x, y)) (hn : ¬ (x = 2 ∧ y = 2)) : rowsAt e (n + 1) = rowsAt e n := by
  rw [rowsAt, h]
  split
  · rename_i sy' heq
    cases heq
    exact absurd ⟨rfl, rfl⟩ hn
  · rw [List.append_nil]
theorem rows_yes {e : Eqs} {n : Nat} {sy : List Nat} (h : (queue e n)[n]? = some (sy, 2, 2)) : rowsAt e (n + 1) = rowsAt e n ++ [(sy, n + 1)] := by
  rw [rowsAt, h]
  rfl
theorem kids_22 {e : Eqs} {sy : List Nat} : kids e (sy, 2, 2) = [] := by simp [kids]
theorem kids_u {e : Eqs} {sy : List Nat} {x : Nat} (hx : x < 2) : kids e (sy, x, 2) = [(sy ++ [x], x + 1, 2)] := by simp [kids, hx]
theorem kids_v {e : Eqs} {sy : List Nat} {y : Nat} (hy : y < 2) : kids e (sy, 2, y) = [(sy ++ [2 + y], 2, y + 1)] := by simp [kids, hy]
theorem kids_2 {e : Eqs} {sy : List Nat} {x y : Nat} (hx : x < 2) (hy : y < 2) (h : e.at x y = false) : kids e (sy, x, y) = [(sy ++ [x], x + 1, y), (sy ++ [2 + y], x, y + 1)] := by simp [kids, hx, hy, h]
theorem kids_3 {e : Eqs} {sy : List Nat} {x y : Nat} (hx : x < 2) (hy : y < 2) (h : e.at x y = true) : kids e (sy, x, y) = [(sy ++ [x], x + 1, y), (sy ++ [2 + y], x, y + 1), (sy ++ [x], x + 1, y + 1)] := by simp [kids, hx, hy, h]
theorem val_clean {u v : Str} (hu : u.length = 2) (hv : v.length = 2) (lu : Letters u) (lv : Letters v) (c : Nat) : 65 ≤ val u v c ∧ val u v c ≤ 122 := by
  have u0 := lu 0 (by omega)
  have u1 := lu 1 (by omega)
  have v0 := lv 0 (by omega)
  have v1 := lv 1 (by omega)
  unfold val
  split <;> omega
theorem nm_clean : ∀ {ls : List Nat}, (∀ c ∈ ls, 32 ≤ c ∧ c < 127) → Clean (nmOf ls) := by
  intro ls h
  refine clean_lit _ ?_
  rw [nmOf]
  simp only [List.all_toArray, List.all_cons, List.all_eq_true, Bool.and_eq_true, decide_eq_true_eq, List.mem_flatMap]
  refine ⟨by decide, ?_⟩
  rintro x ⟨c, hc, hx⟩
  simp only [List.mem_cons, List.not_mem_nil, or_false] at hx
  rcases hx with rfl | rfl
  · decide
  · exact h x hc
theorem sym_clean {u v : Str} (hu : u.length = 2) (hv : v.length = 2) (lu : Letters u) (lv : Letters v) (sy : List Nat) : Clean (symName u v sy) :=
  nm_clean fun c hc => by
    obtain ⟨k, _, rfl⟩ := List.mem_map.mp hc
    have := val_clean hu hv lu lv k
    omega
theorem line_facts2 : ∀ c : Fin 33, (lineOf c.val).length ≤ 1000 ∧ (lineOf c.val).cps.all (fun c => 32 ≤ c && c < 127) = true := by decide +kernel
theorem line_len2 {i : Nat} (h : i < 33) : (lineOf i).length ≤ 1000 := (line_facts2 ⟨i, h⟩).1
theorem line_clean2 {i : Nat} (h : i < 33) : Clean (lineOf i) := clean_lit _ (line_facts2 ⟨i, h⟩).2
theorem line_succ (i : Nat) : Str.ofString (toString ((i : Int) + 1)) = lineOf (i + 1) := by
  rw [lineOf]
  have e : (i : Int) + 1 = 0 + ((i + 1 : Nat) : Int) := by omega
  rw [e]
end Mine
end
section
open PySem PySem.W PyProof.Rows
set_option Elab.async false
namespace Mine
/-- the number of ways to find w spread out in t -/
noncomputable def emb : List Nat → List Nat → Nat
  | [], _ => 1
  | _ :: _, [] => 0
  | a :: w, b :: t => (if a = b then emb w t else 0) + emb (a :: w) t
noncomputable def sumE (f : Nat → Nat) (t : List Nat) (ws : List (List Nat)) : Nat := (ws.map fun w => emb (w.map f) t).sum
noncomputable def inf (r : Nat → Nat → Bool) : List Nat → List Nat → List (List Nat)
  | [], v => [v]
  | u, [] => [u]
  | a :: u, b :: v => (inf r u (b :: v)).map (a :: ·) ++ (inf r (a :: u) v).map (b :: ·) ++ (if r a b = true then (inf r u v).map (a :: ·) else [])
termination_by u v => u.length + v.length
theorem emb_nil (t : List Nat) : emb [] t = 1 := by cases t <;> rfl
theorem sumE_append (f t a b) : sumE f t (a ++ b) = sumE f t a + sumE f t b := by simp [sumE]
theorem sumE_cons_nil (f : Nat → Nat) (a : Nat) (ws : List (List Nat)) : sumE f [] (ws.map (a :: ·)) = 0 := by
  induction ws with
  | nil => rfl
  | cons w ws ih => simpa [sumE, emb] using ih
theorem sumE_cons (f : Nat → Nat) (a b : Nat) (t : List Nat) (ws : List (List Nat)) : sumE f (b :: t) (ws.map (a :: ·)) = (if f a = b then sumE f t ws else 0) + sumE f t (ws.map (a :: ·)) := by
  induction ws with
  | nil => simp [sumE]
  | cons w ws ih =>
    simp only [sumE, List.map_cons, List.sum_cons, emb] at ih ⊢
    rw [ih]
    split <;> omega
theorem inf_law (f : Nat → Nat) (r : Nat → Nat → Bool) : ∀ (t : List Nat) (u v : List Nat), (∀ a ∈ u, ∀ b ∈ v, (r a b = true ↔ f a = f b)) → sumE f t (inf r u v) = emb (u.map f) t * emb (v.map f) t
  | t, [], v, _ => by rw [inf]; simp [sumE, emb_nil]
  | t, a :: u, [], _ => by rw [inf]; simp [sumE, emb_nil]; exact fun h => nomatch h
  | [], a :: u, b :: v, _ => by
    rw [inf, sumE_append, sumE_append, sumE_cons_nil, sumE_cons_nil]
    split
    · rw [sumE_cons_nil]; simp [emb]
    · simp [sumE, emb]
  | c :: t, a :: u, b :: v, h => by
    have h1 := inf_law f r t u (b :: v) (fun x hx y hy => h x (List.mem_cons_of_mem _ hx) y hy)
    have h2 := inf_law f r t (a :: u) v (fun x hx y hy => h x hx y (List.mem_cons_of_mem _ hy))
    have h3 := inf_law f r t u v (fun x hx y hy => h x (List.mem_cons_of_mem _ hx) y (List.mem_cons_of_mem _ hy))
    have h4 := inf_law f r t (a :: u) (b :: v) h
    have hab := h a List.mem_cons_self b List.mem_cons_self
    have e0 : ∀ t, sumE f t [] = 0 := fun _ => rfl
    rw [inf, sumE_append, sumE_append] at h4 ⊢
    rw [sumE_cons, sumE_cons, h1, h2]
    simp only [List.map_cons, emb] at h4 ⊢
    have hrw : sumE f (c :: t) (if r a b = true then (inf r u v).map (a :: ·) else []) = (if f a = c ∧ f b = c then emb (u.map f) t * emb (v.map f) t else 0) + sumE f t (if r a b = true then (inf r u v).map (a :: ·) else []) := by
      by_cases hr : r a b = true
      · rw [if_pos hr, sumE_cons, h3, ← hab.mp hr]; simp only [and_self]
      · rw [if_neg hr, e0, e0, if_neg (fun q => hr (hab.mpr (q.1.trans q.2.symm)))]
    rw [hrw]
    by_cases hc : f a = c <;> by_cases hc' : f b = c <;> simp only [hc, hc', and_true, true_and, and_false, if_true, if_false, Nat.zero_add, Nat.add_mul, Nat.mul_add] at h4 ⊢ <;> omega
theorem sumE_perm (f : Nat → Nat) (t : List Nat) {a b : List (List Nat)} (h : a.Perm b) : sumE f t a = sumE f t b := (h.map _).sum_nat
/-- the symbols of the paths -/
noncomputable def paths (e : Eqs) : List (List Nat) := (rowsAt e 31).map (·.1)
noncomputable def rOf (e : Eqs) (x y : Nat) : Bool := e.at x (y - 2)
noncomputable def infGo (r : Nat → Nat → Bool) : Nat → List Nat → List Nat → List (List Nat)
  | 0, _, _ => []
  | _ + 1, [], v => [v]
  | _ + 1, u, [] => [u]
  | n + 1, a :: u, b :: v => (infGo r n u (b :: v)).map (a :: ·) ++ (infGo r n (a :: u) v).map (b :: ·) ++ (if r a b = true then (infGo r n u v).map (a :: ·) else [])
theorem infGo_eq (r : Nat → Nat → Bool) : ∀ (n : Nat) (u v : List Nat), u.length + v.length < n → infGo r n u v = inf r u v
  | 0, _, _, h => absurd h (Nat.not_lt_zero _)
  | _ + 1, [], v, _ => by rw [inf, infGo]
  | _ + 1, a :: u, [], _ => by rw [inf, infGo] <;> simp
  | n + 1, a :: u, b :: v, h => by
    simp only [List.length_cons] at h
    rw [inf, infGo, infGo_eq r n u (b :: v) (by simp; omega), infGo_eq r n (a :: u) v (by simp; omega), infGo_eq r n u v (by omega)]
theorem paths_ok : ∀ e ∈ allEqs, ((paths e).map List.reverse).isPerm (infGo (rOf e) 5 [1, 0] [3, 2]) = true := by decide +kernel
theorem paths_perm (e : Eqs) : ((paths e).map List.reverse).Perm (inf (rOf e) [1, 0] [3, 2]) := by
  rw [← infGo_eq (rOf e) 5 [1, 0] [3, 2] (by decide)]
  exact List.isPerm_iff.mp (paths_ok e (mem_allEqs e))
end Mine
end
section
open PySem PySem.W PyProof.Rows
set_option Elab.async false
namespace Mine
/-- the first k letters, backwards -/
noncomputable def pre (tt : Str) (k : Nat) : List Nat := (tt.cps.toList.take k).reverse
noncomputable def lowOf (ls : List Nat) : Str := ⟨(99 :: ls.flatMap fun c => [46, c]).toArray⟩
theorem pre_succ {tt : Str} {k : Nat} (h : k < tt.length) : pre tt (k + 1) = tt.cps.getD k 0 :: pre tt k := by
  unfold pre
  have h' : k < tt.cps.toList.length := h
  rw [List.take_succ_eq_append_getElem h', List.reverse_append]
  simp only [List.reverse_cons, List.reverse_nil, List.nil_append, List.singleton_append, List.cons.injEq, and_true]
  rw [Array.getD_eq_getD_getElem?, Array.getElem?_eq_getElem (by simpa using h')]
  rfl
theorem pre_zero (tt : Str) : pre tt 0 = [] := rfl
theorem lower_nm {ls : List Nat} (h : ∀ c ∈ ls, c < 128) : Txt.lower (nmOf ls) = lowOf (ls.map lo1) := by
  rw [lower_ascii]
  · show (⟨((67 :: ls.flatMap fun c => [46, c]).toArray).map lo1⟩ : Str) = _
    rw [List.map_toArray, lowOf, List.map_cons, List.map_flatMap, List.flatMap_map]
    rfl
  · intro c hc
    simp only [nmOf, List.mem_cons, List.mem_flatMap, List.not_mem_nil, or_false] at hc
    rcases hc with rfl | ⟨d, hd, rfl | rfl⟩
    · decide
    · decide
    · exact h _ hd
theorem lower_low {ls : List Nat} (h : ∀ c ∈ ls, c < 128) : Txt.lower (lowOf ls) = lowOf (ls.map lo1) := by
  rw [lower_ascii]
  · show (⟨((99 :: ls.flatMap fun c => [46, c]).toArray).map lo1⟩ : Str) = _
    rw [List.map_toArray, lowOf, List.map_cons, List.map_flatMap, List.flatMap_map]
    rfl
  · intro c hc
    simp only [lowOf, List.mem_cons, List.mem_flatMap, List.not_mem_nil, or_false] at hc
    rcases hc with rfl | ⟨d, hd, rfl | rfl⟩
    · decide
    · decide
    · exact h _ hd
theorem lo1_low {c : Nat} (h : 97 ≤ c) : lo1 c = c := by unfold lo1; rw [if_neg]; omega
theorem lo1_up {c : Nat} (h : 97 ≤ c ∧ c ≤ 122) : lo1 (c - 32) = c := by unfold lo1; rw [if_pos (by omega)]; omega
theorem lower_low' {ls : List Nat} (h : ∀ c ∈ ls, 97 ≤ c ∧ c ≤ 122) : Txt.lower (lowOf ls) = lowOf ls := by
  rw [lower_low (fun c hc => by have := h c hc; omega)]
  congr 1
  exact (List.map_congr_left fun c hc => lo1_low (h c hc).1).trans (List.map_id _)
theorem flat_inj : ∀ {a b : List Nat}, (a.flatMap fun c => [46, c]) = (b.flatMap fun c => [46, c]) → a = b
  | [], [], _ => rfl
  | [], _ :: _, h => by simp at h
  | _ :: _, [], h => by simp at h
  | x :: a, y :: b, h => by
    simp only [List.flatMap_cons, List.cons_append, List.nil_append, List.cons.injEq, true_and] at h
    rw [h.1, flat_inj h.2]
theorem low_inj {a b : List Nat} (h : lowOf a = lowOf b) : a = b := by
  unfold lowOf at h
  injection h with h
  have := congrArg Array.toList h
  simp only [List.cons.injEq, true_and] at this
  exact flat_inj this
/-- the letters which the choice c takes among the first k -/
noncomputable def pos (tt : Str) (c : Nat) : Nat → List Nat
  | 0 => []
  | k + 1 => if c.testBit k then pos tt c k ++ [tt.cps.getD k 0] else pos tt c k
noncomputable def caps (tt : Str) (c : Nat) : Nat → List Nat
  | 0 => []
  | k + 1 => if c.testBit k then caps tt c k ++ [if k % 2 = 1 then tt.cps.getD k 0 - 32 else tt.cps.getD k 0] else caps tt c k
theorem name_caps {tt : Str} (hT : tt.length = 4) (hl : Letters tt) (c : Nat) : ∀ k, k ≤ 4 → nameUpTo tt c k = nmOf (caps tt c k)
  | 0, _ => rfl
  | k + 1, h => by
    have hk := hl k (by omega)
    rw [nameUpTo, caps, name_caps hT hl c k (by omega)]
    split
    · rw [← nm_snoc, pick, item_nat (by omega)]
      split
      · rw [upper_letter hk.1 hk.2]
      · rfl
    · rfl
theorem caps_low {tt : Str} (hT : tt.length = 4) (hl : Letters tt) (c : Nat) : ∀ k, k ≤ 4 → (caps tt c k).map lo1 = pos tt c k ∧ ∀ x ∈ caps tt c k, x < 128
  | 0, _ => ⟨rfl, fun _ h => nomatch h⟩
  | k + 1, h => by
    have hk := hl k (by omega)
    obtain ⟨ih1, ih2⟩ := caps_low hT hl c k (by omega)
    rw [caps, pos]
    split
    · refine ⟨?_, ?_⟩
      · rw [List.map_append, ih1, List.map_cons, List.map_nil]
        split
        · rw [lo1_up hk]
        · rw [lo1_low hk.1]
      · intro x hx
        rcases List.mem_append.mp hx with hx | hx
        · exact ih2 x hx
        · rw [List.mem_singleton.mp hx]; split <;> omega
    · exact ⟨ih1, ih2⟩
theorem lower_name {tt : Str} (hT : tt.length = 4) (hl : Letters tt) (c : Nat) : Txt.lower (nameUpTo tt c 4) = lowOf (pos tt c 4) := by
  obtain ⟨h1, h2⟩ := caps_low hT hl c 4 (Nat.le_refl 4)
  rw [name_caps hT hl c 4 (Nat.le_refl 4), lower_nm h2, h1]
theorem hits_low {tt : Str} (hT : tt.length = 4) (hl : Letters tt) {x : Str} {ls : List Nat} (hx : Txt.lower x = lowOf ls) : hitsN tt x = (List.range 16).filter fun c => decide (pos tt c 4 = ls) := by
  unfold hitsN
  congr 1
  funext c
  rw [lower_name hT hl, hx, Bool.eq_iff_iff, beq_iff_eq, decide_eq_true_iff]
  exact ⟨low_inj, fun h => by rw [h]⟩
theorem pos_high {tt : Str} {c k : Nat} (h : c < 2 ^ k) : ∀ m, pos tt c (k + m) = pos tt c k
  | 0 => rfl
  | m + 1 => by
    rw [← Nat.add_assoc, pos, if_neg, pos_high h m]
    rw [Nat.testBit_lt_two_pow (Nat.lt_of_lt_of_le h (Nat.pow_le_pow_right (by decide) (Nat.le_add_right k m)))]
    decide
theorem pos_add {tt : Str} {c k : Nat} (h : c < 2 ^ k) : ∀ j, j ≤ k → pos tt (2 ^ k + c) j = pos tt c j
  | 0, _ => rfl
  | j + 1, hj => by
    rw [pos, pos, pos_add h j (by omega), Nat.testBit_two_pow_add_gt (by omega)]
/-- the number of choices among the first k letters that spell ls -/
noncomputable def cnt (tt : Str) (ls : List Nat) (k : Nat) : Nat := ((List.range (2 ^ k)).filter fun c => decide (pos tt c k = ls)).length
theorem cnt_succ (tt : Str) (ls : List Nat) (k : Nat) : cnt tt ls (k + 1) = cnt tt ls k + ((List.range (2 ^ k)).filter fun c => decide (pos tt c k ++ [tt.cps.getD k 0] = ls)).length := by
  unfold cnt
  rw [Nat.pow_succ, Nat.mul_two, List.range_add, List.filter_append, List.length_append]
  congr 1
  · congr 1
    apply List.filter_congr
    intro c hc
    have hc := List.mem_range.mp hc
    rw [pos, Nat.testBit_lt_two_pow hc]
    rfl
  · rw [List.filter_map, List.length_map]
    congr 1
    apply List.filter_congr
    intro c hc
    have hc := List.mem_range.mp hc
    show decide (pos tt (2 ^ k + c) (k + 1) = ls) = _
    rw [pos, Nat.testBit_two_pow_add_eq, Nat.testBit_lt_two_pow hc, pos_add hc k (Nat.le_refl k)]
    rfl
theorem cnt_emb {tt : Str} : ∀ k, k ≤ tt.length → ∀ ls : List Nat, cnt tt ls k = emb ls.reverse (pre tt k)
  | 0, _, ls => by
    have e : cnt tt ls 0 = (([0] : List Nat).filter fun c => decide ([] = ls)).length := rfl
    rw [e, pre_zero]
    cases ls with
    | nil => rfl
    | cons a l =>
      have : (a :: l).reverse ≠ [] := by simp
      cases h : (a :: l).reverse with
      | nil => exact absurd h this
      | cons b m => simp [emb]
  | k + 1, h, ls => by
    rw [cnt_succ, cnt_emb k (by omega) ls, pre_succ (by omega)]
    rcases List.eq_nil_or_concat ls with rfl | ⟨l, a, rfl⟩
    · have e : ((List.range (2 ^ k)).filter fun c => decide (pos tt c k ++ [tt.cps.getD k 0] = [])) = [] := by simp
      rw [e]; simp [emb_nil]
    · rw [List.concat_eq_append, List.reverse_append]
      simp only [List.reverse_cons, List.reverse_nil, List.nil_append, List.singleton_append, emb]
      rw [← cnt_emb k (by omega) l, Nat.add_comm]
      congr 1
      by_cases ha : a = tt.cps.getD k 0
      · rw [if_pos ha, ha]
        unfold cnt
        congr 1
        apply List.filter_congr
        intro c _
        simp
      · rw [if_neg ha]
        simp
        intro c _ h1 h2
        exact ha (by rw [Array.getD_eq_getD_getElem?]; exact h2.symm)
theorem told_emb {tt : Str} (hT : tt.length = 4) (hl : Letters tt) {x : Str} {ls : List Nat} (hx : Txt.lower x = lowOf ls) : toldL tt x = (List.range 5).map fun k => ((emb ls.reverse (pre tt k) : Nat) : Int) := by
  unfold toldL
  apply List.map_congr_left
  intro k hk
  have hk := List.mem_range.mp hk
  rw [hits_low hT hl hx, ← cnt_emb k (by omega) ls]
  congr 1
  unfold cnt
  rw [List.filter_filter]
  have e : ∀ c, c < 2 ^ k → pos tt c 4 = pos tt c k := fun c hc => by
    have := pos_high (tt := tt) hc (4 - k)
    have e : k + (4 - k) = 4 := by omega
    rwa [e] at this
  have e2 : ((List.range 16).filter fun c => decide (c < 2 ^ k)) = List.range (2 ^ k) := by
    obtain rfl | rfl | rfl | rfl | rfl : k = 0 ∨ k = 1 ∨ k = 2 ∨ k = 3 ∨ k = 4 := by omega
    all_goals decide
  rw [← e2, List.filter_filter]
  congr 1
  apply List.filter_congr
  intro c _
  by_cases hc : c < 2 ^ k
  · rw [e c hc, Bool.and_comm]
  · simp [hc]
theorem stepAt_get (wd : Str) (c : Nat) (cs : List Int) (k j : Nat) (hk : k < cs.length) : (stepAt wd c cs k).getD j 0 = if j = k ∧ wd.cps.getD (k - 1) 0 = c then cs.getD k 0 + cs.getD (k - 1) 0 else cs.getD j 0 := by
  unfold stepAt
  by_cases hc : wd.cps.getD (k - 1) 0 = c
  · rw [if_pos hc]
    by_cases hj : j = k
    · subst hj
      rw [if_pos ⟨rfl, hc⟩, List.getD_eq_getElem?_getD, List.getElem?_set_self hk]
      rfl
    · rw [if_neg (fun h => hj h.1), List.getD_eq_getElem?_getD, List.getElem?_set_ne (fun h => hj h.symm), ← List.getD_eq_getElem?_getD]
  · rw [if_neg hc, if_neg (fun h => hc h.2)]
theorem inner_get (wd : Str) (c : Nat) (cs : List Int) (n : Nat) (hl : cs.length = n + 1) : ∀ m, m ≤ n → ∀ j, (inner wd c cs n m).getD j 0 = if n - m < j ∧ j ≤ n ∧ wd.cps.getD (j - 1) 0 = c then cs.getD j 0 + cs.getD (j - 1) 0 else cs.getD j 0
  | 0, _, j => by rw [inner, if_neg (by omega)]
  | m + 1, hm, j => by
    rw [inner, stepAt_get _ _ _ _ _ (by rw [inner_len, hl]; omega), inner_get wd c cs n hl m (by omega) (n - m), inner_get wd c cs n hl m (by omega) (n - m - 1), inner_get wd c cs n hl m (by omega) j]
    rw [if_neg (c := n - m < n - m ∧ _) (by omega), if_neg (c := n - m < n - m - 1 ∧ _) (by omega)]
    by_cases hj : j = n - m
    · subst hj
      by_cases hc : wd.cps.getD (n - m - 1) 0 = c
      · rw [if_pos ⟨rfl, hc⟩, if_pos ⟨by omega, by omega, hc⟩]
      · rw [if_neg (fun h => hc h.2), if_neg (by omega), if_neg (fun h => hc h.2.2)]
    · rw [if_neg (fun h => hj h.1)]
      by_cases h1 : n - m < j ∧ j ≤ n ∧ wd.cps.getD (j - 1) 0 = c
      · rw [if_pos h1, if_pos ⟨by omega, h1.2⟩]
      · rw [if_neg h1, if_neg]
        rintro ⟨h2, h3, h4⟩
        exact h1 ⟨by omega, h3, h4⟩
theorem counts_emb {tt : Str} (ls : List Nat) : ∀ i, i ≤ tt.length → ∀ j, j ≤ ls.length → (countsAt ⟨ls.toArray⟩ tt ls.length i).getD j 0 = ((emb (ls.take j).reverse (pre tt i) : Nat) : Int)
  | 0, _, j, hj => by
    rw [countsAt, pre_zero]
    cases j with
    | zero => rfl
    | succ j =>
      have e : ((ls.take (j + 1)).reverse) ≠ [] := by
        intro h
        have := congrArg List.length h
        rw [List.length_reverse, List.length_take, List.length_nil] at this
        omega
      have e2 : emb (ls.take (j + 1)).reverse [] = 0 := by
        cases h : (ls.take (j + 1)).reverse with
        | nil => exact absurd h e
        | cons => rfl
      rw [e2, List.getD_cons_succ]
      simp only [List.getD_eq_getElem?_getD, List.getElem?_replicate]
      split <;> rfl
  | i + 1, hi, j, hj => by
    rw [countsAt, inner_get _ _ _ _ (countsAt_len _ _ _ _) ls.length (Nat.le_refl _) j, counts_emb ls i (by omega) j hj, pre_succ (by omega)]
    cases j with
    | zero => rw [if_neg (by omega)]; simp [emb_nil]
    | succ j =>
      have hj' : j < ls.length := by omega
      have e : (ls.take (j + 1)).reverse = ls[j] :: (ls.take j).reverse := by rw [List.take_succ_eq_append_getElem hj']; simp
      have e1 : (⟨ls.toArray⟩ : Str).cps.getD (j + 1 - 1) 0 = ls[j] := by
        show ls.toArray.getD j 0 = _
        simp [Array.getD_eq_getD_getElem?, hj']
      rw [e1, counts_emb ls i (by omega) (j + 1 - 1) (by omega), e, emb]
      by_cases hc : ls[j] = tt.cps.getD i 0
      · rw [if_pos ⟨by omega, by omega, hc⟩, if_pos hc]
        show _ + ((emb (List.take j ls).reverse (pre tt i) : Nat) : Int) = _
        omega
      · rw [if_neg (fun h => hc h.2.2), if_neg hc, Nat.zero_add]
theorem reck_emb {tt : Str} (hT : tt.length = 4) (ls : List Nat) : reckonUp ⟨ls.toArray⟩ tt ls.length 4 = (List.range 5).map fun k => ((emb ls.reverse (pre tt k) : Nat) : Int) := by
  unfold reckonUp
  apply List.map_congr_left
  intro k hk
  have hk := List.mem_range.mp hk
  rw [counts_emb ls k (by omega) ls.length (Nat.le_refl _), List.take_length]
theorem emb_pos : ∀ w t : List Nat, 0 < emb w t ↔ w.Sublist t
  | [], t => by rw [emb_nil]; simp
  | a :: w, [] => by simp [emb]
  | a :: w, b :: t => by
    rw [emb]
    have h1 := emb_pos w t
    have h2 := emb_pos (a :: w) t
    by_cases hab : a = b
    · subst hab
      rw [if_pos rfl, List.cons_sublist_cons]
      constructor
      · intro h
        rcases Nat.eq_zero_or_pos (emb w t) with e | e
        · have h3 : 0 < emb (a :: w) t := by omega
          exact ((List.sublist_cons_self a w).trans (h2.mp h3))
        · exact h1.mp e
      · intro h
        have := h1.mpr h
        omega
    · rw [if_neg hab, Nat.zero_add, h2]
      constructor
      · exact fun h => h.cons b
      · intro h
        cases h with
        | cons _ h => exact h
        | cons_cons _ h => exact absurd rfl hab
theorem sub_emb {tt : Str} (hT : tt.length = 4) (ls : List Nat) : ls.isSublist tt.cps.toList = decide (0 < emb ls.reverse (pre tt 4)) := by
  have e : pre tt 4 = tt.cps.toList.reverse := by
    unfold pre
    have : tt.cps.toList.length = 4 := hT
    rw [List.take_of_length_le (by omega)]
  rw [e, Bool.eq_iff_iff, List.isSublist_iff_sublist, decide_eq_true_iff, emb_pos, List.reverse_sublist]
end Mine
end
section
open PySem PySem.W PyProof.Rows
set_option Elab.async false
namespace Mine
noncomputable def dedStep (xs : List Str) (x : Str) : List Str := if xs.any (· == x) = true then xs else xs ++ [x]
noncomputable def ded (L : List Str) : List Str := L.foldl dedStep []
theorem names_ded (ps : List Str) : namesOf ps = ded (ps.map Txt.lower) := by
  unfold namesOf ded
  rw [List.foldl_map]
  rfl
noncomputable def cntS (x : Str) (L : List Str) : Nat := (L.filter fun y => y == x).length
theorem any_mem {xs : List Str} {x : Str} : xs.any (· == x) = true ↔ x ∈ xs := by
  rw [List.any_eq_true]
  constructor
  · rintro ⟨y, hy, e⟩; rw [← eq_of_beq e]; exact hy
  · intro h; exact ⟨x, h, beq_self_eq_true x⟩
theorem ded_snoc (L : List Str) (y : Str) : ded (L ++ [y]) = dedStep (ded L) y := by
  unfold ded; rw [List.foldl_append]; rfl
theorem sum_zero {f : Str → Nat} : ∀ l : List Str, (∀ x ∈ l, f x = 0) → (l.map f).sum = 0
  | [], _ => rfl
  | a :: l, h => by rw [List.map_cons, List.sum_cons, h a List.mem_cons_self, sum_zero l fun x hx => h x (List.mem_cons_of_mem _ hx)]
theorem sum_single {F : Str → Nat} {y : Str} : ∀ {l : List Str}, l.Nodup → y ∈ l → (l.map fun x => (if y = x then 1 else 0) * F x).sum = F y
  | [], _, h => nomatch h
  | a :: l, hn, h => by
    rw [List.nodup_cons] at hn
    rw [List.map_cons, List.sum_cons]
    by_cases e : y = a
    · subst e
      have hz : (l.map fun x => (if y = x then 1 else 0) * F x).sum = 0 := sum_zero l fun x hx => by
        rw [if_neg (fun q : y = x => hn.1 (q ▸ hx)), Nat.zero_mul]
      rw [hz, if_pos rfl, Nat.one_mul, Nat.add_zero]
    · rw [if_neg e, Nat.zero_mul, Nat.zero_add]
      rcases List.mem_cons.mp h with h | h
      · exact absurd h e
      · exact sum_single hn.2 h
theorem sum_add {f g : Str → Nat} : ∀ l : List Str, (l.map fun x => f x + g x).sum = (l.map f).sum + (l.map g).sum
  | [] => rfl
  | a :: l => by simp only [List.map_cons, List.sum_cons, sum_add l]; omega
theorem cntS_snoc (x y : Str) (L : List Str) : cntS x (L ++ [y]) = cntS x L + (if y = x then 1 else 0) := by
  unfold cntS
  rw [List.filter_append, List.length_append]
  congr 1
  by_cases e : y = x
  · subst e; simp
  · rw [if_neg e]
    have : (y == x) = false := beq_eq_false_iff_ne.mpr e
    simp [this]
theorem cntS_zero {x : Str} {L : List Str} (h : x ∉ L) : cntS x L = 0 := by
  unfold cntS
  rw [List.length_eq_zero_iff, List.filter_eq_nil_iff]
  intro y hy e
  exact h (eq_of_beq e ▸ hy)
theorem ded_facts (F : Str → Nat) : ∀ R : List Str, (ded R.reverse).Nodup ∧ (∀ x, x ∈ ded R.reverse ↔ x ∈ R) ∧ ((ded R.reverse).map fun x => cntS x R.reverse * F x).sum = (R.map F).sum
  | [] => ⟨List.nodup_nil, fun _ => Iff.rfl, rfl⟩
  | y :: R => by
    obtain ⟨h1, h2, h3⟩ := ded_facts F R
    rw [List.reverse_cons, ded_snoc]
    have hsum : ∀ l : List Str, (l.map fun x => cntS x (R.reverse ++ [y]) * F x).sum = (l.map fun x => cntS x R.reverse * F x).sum + (l.map fun x => (if y = x then 1 else 0) * F x).sum := by
      intro l
      rw [← sum_add]
      congr 1
      apply List.map_congr_left
      intro x _
      rw [cntS_snoc, Nat.add_mul]
    unfold dedStep
    by_cases hy : (ded R.reverse).any (· == y) = true
    · rw [if_pos hy]
      have hm := any_mem.mp hy
      refine ⟨h1, fun x => ?_, ?_⟩
      · rw [h2, List.mem_cons]
        exact ⟨.inr, fun h => h.elim (fun e => e ▸ (h2 y).mp hm) id⟩
      · rw [hsum, h3, sum_single h1 hm, List.map_cons, List.sum_cons, Nat.add_comm]
    · rw [if_neg hy]
      have hm : y ∉ ded R.reverse := fun h => hy (any_mem.mpr h)
      have hR : y ∉ R := fun h => hm ((h2 y).mpr h)
      have hz : ((ded R.reverse).map fun x => (if y = x then 1 else 0) * F x).sum = 0 := sum_zero _ fun x hx => by
        rw [if_neg (fun q : y = x => hm (q ▸ hx)), Nat.zero_mul]
      refine ⟨?_, fun x => ?_, ?_⟩
      · rw [List.nodup_append]
        refine ⟨h1, by simp, ?_⟩
        intro a ha b hb
        rw [List.mem_singleton.mp hb]
        exact fun e => hm (e ▸ ha)
      · rw [List.mem_append, h2, List.mem_singleton, List.mem_cons]
        exact Or.comm
      · rw [List.map_append, List.sum_append, hsum, h3, hz, List.map_cons, List.map_nil, List.sum_cons, List.sum_nil, cntS_snoc, if_pos rfl, cntS_zero (by rw [List.mem_reverse]; exact hR), List.map_cons, List.sum_cons]
        omega
theorem ded_sum (F : Str → Nat) (L : List Str) : ((ded L).map fun x => cntS x L * F x).sum = (L.map F).sum := by
  have := (ded_facts F L.reverse).2.2
  rw [List.reverse_reverse] at this
  rw [this]
  exact (((List.reverse_perm L).map F).sum_nat)
theorem mem_ded {L : List Str} {x : Str} : x ∈ ded L ↔ x ∈ L := by
  have := (ded_facts (fun _ => 0) L.reverse).2.1 x
  rw [List.reverse_reverse] at this
  rw [this, List.mem_reverse]
end Mine
end
section
open PySem PySem.W PyProof.Rows
set_option Elab.async false
namespace Mine
theorem sub_join (c : Nat) (z : Str) : ∀ parts : List Str, (∀ p ∈ parts, c ∉ p.cps.toList) → (Str.join z parts).cps.toList = (Str.join ⟨#[c]⟩ parts).cps.toList.flatMap fun d => if d = c then z.cps.toList else [d]
  | [], _ => rfl
  | [p], h => flat_free c z.cps.toList (h p (List.mem_singleton.mpr rfl))
  | p :: q :: r, h => by
    have ih := sub_join c z (q :: r) fun a ha => h a (List.mem_cons_of_mem _ ha)
    show (p ++ z ++ Str.join z (q :: r)).cps.toList = (p ++ ⟨#[c]⟩ ++ Str.join ⟨#[c]⟩ (q :: r)).cps.toList.flatMap _
    simp only [Str.cps_append, Array.toList_append, List.flatMap_append]
    rw [ih, ← flat_free c z.cps.toList (h p List.mem_cons_self)]
    simp
where flat_free (c : Nat) (z : List Nat) : ∀ {l : List Nat}, c ∉ l → l = l.flatMap fun d => if d = c then z else [d]
  | [], _ => rfl
  | a :: l, h => by
    rw [List.flatMap_cons, if_neg (fun e => h (by rw [e]; exact List.mem_cons_self)), ← flat_free c z (fun m => h (List.mem_cons_of_mem _ m))]
    rfl
theorem replace_flat (x z : Str) (c : Nat) : Txt.replace x ⟨#[c]⟩ z = ⟨(x.cps.toList.flatMap fun d => if d = c then z.cps.toList else [d]).toArray⟩ := by
  have h := sub_join c z _ (StrLaws.split_free x c)
  rw [← StrLaws.replace_one, StrLaws.join_split] at h
  rw [← h]
/-- the word that a name spells -/
noncomputable def wordOf (ls : List Nat) : Str := ⟨ls.toArray⟩
noncomputable def tailOf (ls : List Nat) : Str := ⟨(ls.flatMap fun c => [46, c]).toArray⟩
theorem tail_word {ls : List Nat} (h : ∀ c ∈ ls, 97 ≤ c ∧ c ≤ 122) : Txt.replace (tailOf ls) ⟨#[46]⟩ ⟨#[]⟩ = wordOf ls := by
  rw [replace_flat, tailOf, wordOf]
  congr 2
  show (ls.flatMap fun c => [46, c]).flatMap _ = ls
  induction ls with
  | nil => rfl
  | cons a l ih =>
    have ha := h a List.mem_cons_self
    have e := ih fun c hc => h c (List.mem_cons_of_mem _ hc)
    have hne : ¬ a = 46 := by omega
    simp only [List.flatMap_cons, List.flatMap_append, List.flatMap_nil, List.append_nil, hne, if_true, if_false] at e ⊢
    rw [e]; rfl
theorem tail_want {ls : List Nat} (h : ∀ c ∈ ls, 97 ≤ c ∧ c ≤ 122) : Txt.replace (tailOf ls) ⟨#[46]⟩ ⟨#[46, 46, 46]⟩ ++ ⟨#[46, 46, 46]⟩ = wantOf ls := by
  rw [replace_flat, tailOf, wantOf]
  have key : ((ls.flatMap fun c => [46, c]).flatMap fun d => if d = 46 then [46, 46, 46] else [d]) ++ [46, 46, 46] = 46 :: 46 :: 46 :: ls.flatMap fun c => [c, 46, 46, 46] := by
    induction ls with
    | nil => rfl
    | cons a l ih =>
      have ha := h a List.mem_cons_self
      have e := ih fun c hc => h c (List.mem_cons_of_mem _ hc)
      have hne : ¬ a = 46 := by omega
      simp only [List.flatMap_cons, List.flatMap_append, List.flatMap_nil, List.append_nil, hne, if_true, if_false, List.append_assoc] at e ⊢
      rw [e]; rfl
  show (⟨_ ++ #[46, 46, 46]⟩ : Str) = _
  rw [← key]
  simp
noncomputable def lval (u v : Str) (c : Nat) : Nat := lo1 (val u v c)
theorem lval_letter {u v : Str} (hu : u.length = 2) (hv : v.length = 2) (lu : Letters u) (lv : Letters v) (c : Nat) : 97 ≤ lval u v c ∧ lval u v c ≤ 122 := by
  have u0 := lu 0 (by omega)
  have u1 := lu 1 (by omega)
  have v0 := lv 0 (by omega)
  have v1 := lv 1 (by omega)
  unfold lval val
  split
  · rw [lo1_low u0.1]; exact u0
  · rw [lo1_low u1.1]; exact u1
  · rw [lo1_up v0]; exact v0
  · rw [lo1_up v1]; exact v1
theorem lval_0 {u : Str} (v : Str) (hu : u.length = 2) (lu : Letters u) : lval u v 0 = u.cps.getD 0 0 := lo1_low (lu 0 (by omega)).1
theorem lval_1 {u : Str} (v : Str) (hu : u.length = 2) (lu : Letters u) : lval u v 1 = u.cps.getD 1 0 := lo1_low (lu 1 (by omega)).1
theorem lval_2 (u : Str) {v : Str} (hv : v.length = 2) (lv : Letters v) : lval u v 2 = v.cps.getD 0 0 := lo1_up (lv 0 (by omega))
theorem lval_3 (u : Str) {v : Str} (hv : v.length = 2) (lv : Letters v) : lval u v 3 = v.cps.getD 1 0 := lo1_up (lv 1 (by omega))
theorem lower_sym {u v : Str} (hu : u.length = 2) (hv : v.length = 2) (lu : Letters u) (lv : Letters v) (sy : List Nat) : Txt.lower (symName u v sy) = lowOf (sy.map (lval u v)) := by
  unfold symName
  rw [lower_nm, List.map_map]
  · rfl
  · intro c hc
    obtain ⟨k, _, rfl⟩ := List.mem_map.mp hc
    have := val_clean hu hv lu lv k
    omega
theorem rows_lower {u v : Str} (hu : u.length = 2) (hv : v.length = 2) (lu : Letters u) (lv : Letters v) : (laidRows u v 31).map (fun p => Txt.lower p.1) = (paths (eqsOf u v)).map fun sy => lowOf (sy.map (lval u v)) := by
  unfold laidRows paths
  rw [List.map_map, List.map_map]
  apply List.map_congr_left
  intro x _
  exact lower_sym hu hv lu lv x.1
theorem laid_names {u v : Str} (hu : u.length = 2) (hv : v.length = 2) (lu : Letters u) (lv : Letters v) : namesOf ((laidRows u v 31).map (·.1)) = ded ((paths (eqsOf u v)).map fun sy => lowOf (sy.map (lval u v))) := by
  rw [names_ded, List.map_map]
  exact congrArg ded (rows_lower hu hv lu lv)
theorem law_name {u v : Str} (hu : u.length = 2) (hv : v.length = 2) (lu : Letters u) (lv : Letters v) {x : Str} (hx : x ∈ namesOf ((laidRows u v 31).map (·.1))) :
    ∃ ls : List Nat, x = lowOf ls ∧ (2 ≤ ls.length ∧ ls.length ≤ 4) ∧ (∀ c ∈ ls, 97 ≤ c ∧ c ≤ 122) := by
  rw [laid_names hu hv lu lv, mem_ded] at hx
  obtain ⟨sy, hs, rfl⟩ := List.mem_map.mp hx
  obtain ⟨y, hy, rfl⟩ := List.mem_map.mp hs
  have := (q_facts (eqsOf u v) (n := 31) (by decide)).row y hy
  refine ⟨_, rfl, by rw [List.length_map]; exact ⟨this.2.1, this.2.2.1⟩, ?_⟩
  intro c hc
  obtain ⟨k, _, rfl⟩ := List.mem_map.mp hc
  exact lval_letter hu hv lu lv k
theorem low_len (ls : List Nat) : (lowOf ls).length = 1 + 2 * ls.length := nm_len ls
noncomputable def ways (u v : Str) (x : Str) : Nat := (hits (laidRows u v 31) x).length
theorem ways_cnt {u v : Str} (hu : u.length = 2) (hv : v.length = 2) (lu : Letters u) (lv : Letters v) {x : Str} (hx : Txt.lower x = x) : ways u v x = cntS x ((paths (eqsOf u v)).map fun sy => lowOf (sy.map (lval u v))) := by
  unfold ways hits cntS
  rw [← rows_lower hu hv lu lv, List.filter_map, List.length_map, List.length_map, hx]
  rfl
theorem paths_sum {u v : Str} (hu : u.length = 2) (hv : v.length = 2) (lu : Letters u) (lv : Letters v) (t : List Nat) :
    ((paths (eqsOf u v)).map fun sy => emb (sy.map (lval u v)).reverse t).sum = emb [u.cps.getD 1 0, u.cps.getD 0 0] t * emb [v.cps.getD 1 0, v.cps.getD 0 0] t := by
  have h := inf_law (lval u v) (rOf (eqsOf u v)) t [1, 0] [3, 2] (by
    intro a ha b hb
    simp only [List.mem_cons, List.not_mem_nil, or_false] at ha hb
    rcases ha with rfl | rfl <;> rcases hb with rfl | rfl <;> simp [rOf, Eqs.at, eqsOf, lval_0 v hu lu, lval_1 v hu lu, lval_2 u hv lv, lval_3 u hv lv])
  rw [← sumE_perm _ _ (paths_perm (eqsOf u v))] at h
  unfold sumE at h
  rw [List.map_map] at h
  simp only [List.map_cons, List.map_nil, lval_0 v hu lu, lval_1 v hu lu, lval_2 u hv lv, lval_3 u hv lv] at h
  rw [← h]
  refine congrArg List.sum (List.map_congr_left fun sy _ => ?_)
  show emb (sy.map (lval u v)).reverse t = emb ((sy.reverse).map (lval u v)) t
  rw [List.map_reverse]
/-- what told says of a name at k -/
noncomputable def tl (tt x : Str) (k : Nat) : Nat := ((hitsN tt x).filter fun c => decide (c < 2 ^ k)).length
theorem told_tl (tt x : Str) : toldL tt x = (List.range 5).map fun k => ((tl tt x k : Nat) : Int) := rfl
theorem tl_emb {tt : Str} (hT : tt.length = 4) (hl : Letters tt) {x : Str} {ls : List Nat} (hx : Txt.lower x = lowOf ls) {k : Nat} (hk : k < 5) : tl tt x k = emb ls.reverse (pre tt k) := by
  have h := told_emb hT hl hx
  rw [told_tl] at h
  have := congrArg (fun l : List Int => l[k]?) h
  simp [hk] at this
  exact Int.ofNat.inj this
/-- the due count over a list of names -/
noncomputable def dueOf (tt u v : Str) (xs : List Str) (k : Nat) : Nat := (xs.map fun x => ways u v x * tl tt x k).sum
theorem due_law {tt u v : Str} (hT : tt.length = 4) (hl : Letters tt) (hu : u.length = 2) (hv : v.length = 2) (lu : Letters u) (lv : Letters v) {x y : Str} (hx : Txt.lower x = lowOf [u.cps.getD 0 0, u.cps.getD 1 0]) (hy : Txt.lower y = lowOf [v.cps.getD 0 0, v.cps.getD 1 0]) {k : Nat} (hk : k < 5) :
    dueOf tt u v (namesOf ((laidRows u v 31).map (·.1))) k = tl tt x k * tl tt y k := by
  rw [tl_emb hT hl hx hk, tl_emb hT hl hy hk]
  have h := paths_sum hu hv lu lv (pre tt k)
  simp only [List.reverse_cons, List.reverse_nil, List.nil_append, List.cons_append] at h ⊢
  rw [← h]
  have e : dueOf tt u v (namesOf ((laidRows u v 31).map (·.1))) k = ((ded ((paths (eqsOf u v)).map fun sy => lowOf (sy.map (lval u v)))).map fun x => cntS x ((paths (eqsOf u v)).map fun sy => lowOf (sy.map (lval u v))) * tl tt x k).sum := by
    unfold dueOf
    rw [← laid_names hu hv lu lv]
    refine congrArg List.sum (List.map_congr_left fun x hx => ?_)
    obtain ⟨ls, rfl, _, h3⟩ := law_name hu hv lu lv hx
    rw [ways_cnt hu hv lu lv (lower_low' h3)]
  rw [e, ded_sum (fun x => tl tt x k), List.map_map]
  refine congrArg List.sum (List.map_congr_left fun sy _ => ?_)
  refine tl_emb hT hl (lower_low' ?_) hk
  intro c hc
  obtain ⟨j, _, rfl⟩ := List.mem_map.mp hc
  exact lval_letter hu hv lu lv j
theorem told_reck {tt : Str} (hT : tt.length = 4) (hl : Letters tt) {x : Str} {ls : List Nat} (hx : Txt.lower x = lowOf ls) : toldL tt x = reckonUp (wordOf ls) tt ls.length 4 := by
  rw [told_emb hT hl hx]
  exact (reck_emb hT ls).symm
theorem sub_tl {tt : Str} (hT : tt.length = 4) (hl : Letters tt) {x : Str} {ls : List Nat} (hx : Txt.lower x = lowOf ls) : ls.isSublist tt.cps.toList = decide (0 < tl tt x 4) := by
  rw [sub_emb hT, tl_emb hT hl hx (by decide)]
end Mine
end
section
open PySem PySem.W PyProof.Rows
set_option Elab.async false
namespace Mine
noncomputable def QAt (u v : Str) (news : List (Addr × Obj)) (y : Value) (x : List Nat × Nat × Nat) : Prop := ∃ t tn ti tj, y = .ref t ∧ (t, tupO [.str (symName u v x.1) tn, .int (x.2.1 : Nat) ti, .int (x.2.2 : Nat) tj]) ∈ news
noncomputable def QRows (u v : Str) (news : List (Addr × Obj)) : List Value → List (List Nat × Nat × Nat) → Prop
  | [], [] => True
  | y :: vs, x :: xs => QAt u v news y x ∧ QRows u v news vs xs
  | _, _ => False
theorem QRows.mono {u v : Str} {news news' : List (Addr × Obj)} (hs : ∀ p ∈ news, p ∈ news') : ∀ {vs : List Value} {xs : List (List Nat × Nat × Nat)}, QRows u v news vs xs → QRows u v news' vs xs
  | [], [], _ => trivial
  | _ :: _, _ :: _, ⟨⟨t, tn, ti, tj, e, hm⟩, r⟩ => ⟨⟨t, tn, ti, tj, e, hs _ hm⟩, r.mono hs⟩
theorem QRows.append {u v : Str} {news : List (Addr × Obj)} {ws : List Value} {ys : List (List Nat × Nat × Nat)} (hw : QRows u v news ws ys) : ∀ {vs : List Value} {xs : List (List Nat × Nat × Nat)}, QRows u v news vs xs → QRows u v news (vs ++ ws) (xs ++ ys)
  | [], [], _ => hw
  | _ :: _, _ :: _, ⟨h, r⟩ => ⟨h, QRows.append hw r⟩
theorem QRows.length {u v : Str} {news : List (Addr × Obj)} : ∀ {vs : List Value} {xs : List (List Nat × Nat × Nat)}, QRows u v news vs xs → vs.length = xs.length
  | [], [], _ => rfl
  | _ :: _, _ :: _, ⟨_, r⟩ => by simp [r.length]
theorem QRows.get {u v : Str} {news : List (Addr × Obj)} : ∀ {vs : List Value} {xs : List (List Nat × Nat × Nat)}, QRows u v news vs xs → ∀ {i : Nat} {x : List Nat × Nat × Nat}, xs[i]? = some x → ∃ y, vs[i]? = some y ∧ QAt u v news y x
  | _ :: _, _ :: _, ⟨h, _⟩, 0, _, e => ⟨_, rfl, by cases e; exact h⟩
  | _ :: _, _ :: _, ⟨_, r⟩, i + 1, x, e => r.get (i := i) (x := x) e
  | [], [], _, _, _, e => by simp at e
theorem led9 {g h : Heap} {L wl lst x d D D1 : Addr} {o1 o2 : Obj} {hh : Int} {kt : Tok} {n1 n dn : Nat} {ws : Array Value} {news : List (Addr × Obj)} (N : News g L h ((wl, W.listOf ws n1) :: (D, o1) :: (D1, o2) :: (lst, listOf #[] n) :: (x, instObj 224 d) :: (d, hdrD hh kt lst dn) :: news)) :
    ∃ wl' lst' x' d' D' D1', wl' = wl ∧ lst' = lst ∧ x' = x ∧ d' = d ∧ D' = D ∧ D1' = D1 ∧ News g L h ((lst', listOf #[] n) :: (wl', W.listOf ws n1) :: (D', o1) :: (D1', o2) :: (x', instObj 224 d') :: (d', hdrD hh kt lst' dn) :: news) :=
  ⟨wl, lst, x, d, D, D1, rfl, rfl, rfl, rfl, rfl, rfl, fun p hp => N p (by simp only [List.mem_cons] at hp ⊢; rcases hp with h | h | h | h | h | h | h <;> simp [h])⟩
theorem some_int {x y : Int} {t : Tok} {v : Option Value} (h : x = y) (e : v = some (Value.int x t)) : ∃ t', v = some (Value.int y t') := ⟨t, h ▸ e⟩
noncomputable def LaidInv (u v : Str) (tu tv : Tok) (news : List (Addr × Obj)) (wl lst tbl dd : Addr) (n : Nat) (m₁ : Str → Option Value) (news₁ : List (Addr × Obj)) : Prop :=
  ∃ i, n = 32 - i ∧ i < 32 ∧ m₁ (Str.ofString "u") = some (.str u tu) ∧ m₁ (Str.ofString "v") = some (.str v tv) ∧ m₁ (Str.ofString "table") = some (.ref tbl) ∧ m₁ (Str.ofString "waiting") = some (.ref wl) ∧ (∃ ta, m₁ (Str.ofString "at") = some (.int (i : Nat) ta)) ∧
    ∃ vs k its n2 rest es hh kt dn, news₁ = (lst, W.listOf its n2) :: (wl, W.listOf (List.toArray vs) k) :: rest ∧ QRows u v rest vs (queue (eqsOf u v) i) ∧ Rows es its.toList (laidRows u v i) ∧ (∀ p ∈ rest, p.1 ≠ wl) ∧ (∀ p ∈ rest, p.1 ≠ lst) ∧ (tbl, instObj 224 dd) ∈ es ∧ (dd, hdrD hh kt lst dn) ∈ es ∧ rest = es ++ news ∧ (∀ p ∈ es, ∀ q ∈ news, p.1 ≠ q.1)
theorem qat_u {u v : Str} {news : List (Addr × Obj)} {sy : List Nat} {x y : Nat} {t : Addr} {tn ti tj : Tok} (hu : u.length = 2) (hx : x < 2) (hm : (t, tupO [.str (symName u v sy ++ Str.ofString "." ++ Txt.item u (x : Int)) tn, .int ((x : Int) + 1) ti, .int (y : Int) tj]) ∈ news) : QAt u v news (.ref t) (sy ++ [x], x + 1, y) := by
  rw [val_u v hu hx, sym_snoc] at hm
  exact ⟨_, _, _, _, rfl, hm⟩
theorem qat_d {u v : Str} {news : List (Addr × Obj)} {sy : List Nat} {x y : Nat} {t : Addr} {tn ti tj : Tok} (hu : u.length = 2) (hx : x < 2) (hm : (t, tupO [.str (symName u v sy ++ Str.ofString "." ++ Txt.item u (x : Int)) tn, .int ((x : Int) + 1) ti, .int ((y : Int) + 1) tj]) ∈ news) : QAt u v news (.ref t) (sy ++ [x], x + 1, y + 1) := by
  rw [val_u v hu hx, sym_snoc] at hm
  exact ⟨_, _, _, _, rfl, hm⟩
theorem qat_v {u v : Str} {news : List (Addr × Obj)} {sy : List Nat} {x y : Nat} {t : Addr} {tn ti tj : Tok} (hv : v.length = 2) (lv : Letters v) (hy : y < 2) (hm : (t, tupO [.str (symName u v sy ++ Str.ofString "." ++ Txt.upper (Txt.item v (y : Int))) tn, .int (x : Int) ti, .int ((y : Int) + 1) tj]) ∈ news) : QAt u v news (.ref t) (sy ++ [2 + y], x, y + 1) := by
  rw [val_v u hv lv hy, sym_snoc] at hm
  exact ⟨_, _, _, _, rfl, hm⟩
theorem laid_next {h₀ h' : Heap} {L wl lst tbl dd : Addr} {s : Shared} {tk i n2 k dn x y : Nat} {m₂ : Str → Option Value} {u v : Str} {tu tv kt : Tok} {hh : Int} {news ds rest es : List (Addr × Obj)} {sy : List Nat} {vs ws : List Value} {arr its : Array Value}
    (hx : (queue (eqsOf u v) i)[i]? = some (sy, x, y)) (hi : i < 31) (F : Fr h₀ L h' m₂) (N : News h₀ L h' ((lst, W.listOf its n2) :: (wl, W.listOf arr k) :: (ds ++ rest)))
    (e1 : m₂ (Str.ofString "u") = some (.str u tu)) (e2 : m₂ (Str.ofString "v") = some (.str v tv)) (e3 : m₂ (Str.ofString "table") = some (.ref tbl)) (e4 : m₂ (Str.ofString "waiting") = some (.ref wl)) (e5 : ∃ ta, m₂ (Str.ofString "at") = some (.int ((i : Int) + 1) ta))
    (harr : arr = (vs ++ ws).toArray) (hq : QRows u v rest vs (queue (eqsOf u v) i)) (hk : QRows u v (ds ++ rest) ws (kids (eqsOf u v) (sy, x, y))) (hro : Rows (ds ++ es) its.toList (laidRows u v (i + 1)))
    (hnw : ∀ p ∈ rest, p.1 ≠ wl) (hnl : ∀ p ∈ rest, p.1 ≠ lst) (dw : ∀ p ∈ ds, p.1 ≠ wl) (dl : ∀ p ∈ ds, p.1 ≠ lst) (ht : (tbl, instObj 224 dd) ∈ es) (hd : (dd, hdrD hh kt lst dn) ∈ es) (hrest : rest = es ++ news) (hoff : ∀ p ∈ es, ∀ q ∈ news, p.1 ≠ q.1) (dof : ∀ p ∈ ds, ∀ q ∈ rest, p.1 ≠ q.1) :
    WhileStep h₀ L s (LaidInv u v tu tv news wl lst tbl dd) (32 - i) .next { s with heap := h', toks := tk } := by
  subst harr
  refine WhileStep.intro F N (n' := 32 - (i + 1)) (by omega) ⟨i + 1, rfl, by omega, e1, e2, e3, e4, e5, vs ++ ws, k, its, n2, ds ++ rest, ds ++ es, hh, kt, dn, rfl, ?_, hro, ?_, ?_, List.mem_append_right _ ht, List.mem_append_right _ hd, by rw [hrest, List.append_assoc], ?_⟩
  · rw [q_succ hx]
    exact QRows.append hk (hq.mono fun p hp => List.mem_append_right _ hp)
  · intro p hp
    rcases List.mem_append.mp hp with hp | hp
    · exact dw p hp
    · exact hnw p hp
  · intro p hp
    rcases List.mem_append.mp hp with hp | hp
    · exact dl p hp
    · exact hnl p hp
  · intro p hp q hq
    rcases List.mem_append.mp hp with hp | hp
    · exact dof p hp q (by rw [hrest]; exact List.mem_append_right _ hq)
    · exact hoff p hp q hq
theorem rows_keep {u v : Str} {ds rest : List (Addr × Obj)} {i x y : Nat} {sy : List Nat} {vs : List Value} (hx : (queue (eqsOf u v) i)[i]? = some (sy, x, y)) (hn : ¬ (x = 2 ∧ y = 2)) (h : Rows rest vs (laidRows u v i)) : Rows (ds ++ rest) vs (laidRows u v (i + 1)) := by
  rw [laidRows, rows_no hx hn]
  exact Rows.mono (fun p hp => List.mem_append_right _ hp) h
theorem rows_add {u v : Str} {rest : List (Addr × Obj)} {i x y : Nat} {sy : List Nat} {its : Array Value} {t : Addr} {o : Addr × Obj} {tx ty : Tok} (hx : (queue (eqsOf u v) i)[i]? = some (sy, x, y)) (h2 : x = 2) (h3 : y = 2) (ho : o = (t, tupO [.str (symName u v sy) tx, .str (Str.ofString (toString ((i : Int) + 1))) ty])) (h : Rows rest its.toList (laidRows u v i)) :
    Rows ([o] ++ rest) (its.push (.ref t)).toList (laidRows u v (i + 1)) := by
  subst h2 h3 ho
  rw [laidRows, rows_yes hx, List.map_append, Array.toList_push]
  rw [line_succ]
  exact Rows.snoc (p := (symName u v sy, lineOf (i + 1))) ⟨t, tx, ty, rfl, List.mem_cons_self⟩ (Rows.mono (fun p hp => List.mem_cons_of_mem _ hp) h)
theorem mv1 {g h : Heap} {L : Addr} {a b c : Addr × Obj} {r : List (Addr × Obj)} (N : News g L h (b :: a :: c :: r)) : News g L h (b :: c :: ([a] ++ r)) := fun p hp => N p (by simp only [List.cons_append, List.nil_append, List.mem_cons] at hp ⊢; rcases hp with h | h | h | h <;> simp [h])
theorem mv2 {g h : Heap} {L : Addr} {a b x y : Addr × Obj} {r : List (Addr × Obj)} (N : News g L h (a :: b :: x :: y :: r)) : News g L h (x :: y :: ([a, b] ++ r)) := fun p hp => N p (by simp only [List.cons_append, List.nil_append, List.mem_cons] at hp ⊢; rcases hp with h | h | h | h | h <;> simp [h])
theorem mv4 {g h : Heap} {L : Addr} {a b c d x y : Addr × Obj} {r : List (Addr × Obj)} (N : News g L h (a :: b :: c :: d :: x :: y :: r)) : News g L h (x :: y :: ([a, b, c, d] ++ r)) := fun p hp => N p (by simp only [List.cons_append, List.nil_append, List.mem_cons] at hp ⊢; rcases hp with h | h | h | h | h | h | h <;> simp [h])
theorem mv6 {g h : Heap} {L : Addr} {a b c d e f x y : Addr × Obj} {r : List (Addr × Obj)} (N : News g L h (a :: b :: c :: d :: e :: f :: x :: y :: r)) : News g L h (x :: y :: ([a, b, c, d, e, f] ++ r)) := fun p hp => N p (by simp only [List.cons_append, List.nil_append, List.mem_cons] at hp ⊢; rcases hp with h | h | h | h | h | h | h | h | h <;> simp [h])
theorem off_nil {wl : Addr} : ∀ p ∈ ([] : List (Addr × Obj)), p.1 ≠ wl := fun _ h => nomatch h
theorem off_cons {wl a : Addr} {o : Obj} {l : List (Addr × Obj)} (h1 : @LT.lt Nat _ wl a) (h2 : ∀ p ∈ l, p.1 ≠ wl) : ∀ p ∈ (a, o) :: l, p.1 ≠ wl := fun p hp => by
  rcases List.mem_cons.mp hp with e | hp
  · rw [e]; exact Nat.ne_of_gt h1
  · exact h2 p hp
theorem dof_nil {rest : List (Addr × Obj)} : ∀ p ∈ ([] : List (Addr × Obj)), ∀ q ∈ rest, p.1 ≠ q.1 := fun _ h => nomatch h
theorem dof_cons {rest ds : List (Addr × Obj)} {a : Addr} {o : Obj} (h1 : AllLt a rest) (h2 : ∀ p ∈ ds, ∀ q ∈ rest, p.1 ≠ q.1) : ∀ p ∈ (a, o) :: ds, ∀ q ∈ rest, p.1 ≠ q.1 := by
  intro p hp q hq
  rcases List.mem_cons.mp hp with e | hp
  · rw [e]; exact Nat.ne_of_gt (ktn_ltOf h1 q hq)
  · exact h2 p hp q hq
theorem kids_v' {e : Eqs} {sy : List Nat} {x y : Nat} (hx : x = 2) (hy : y < 2) : kids e (sy, x, y) = [(sy ++ [2 + y], x, y + 1)] := by subst hx; exact kids_v hy
theorem kids_u' {e : Eqs} {sy : List Nat} {x y : Nat} (hx : x < 2) (hy : y = 2) : kids e (sy, x, y) = [(sy ++ [x], x + 1, y)] := by subst hy; exact kids_u hx
theorem push2 {vs : List Value} {a b : Value} : (vs ++ [a] ++ [b]).toArray = (vs ++ [a, b]).toArray := by simp
theorem push3 {vs : List Value} {a b c : Value} : (vs ++ [a] ++ [b]).toArray.push c = (vs ++ [a, b, c]).toArray := by simp
theorem push2' {vs : List Value} {a b : Value} : (vs.toArray.push a).push b = (vs ++ [a, b]).toArray := by simp
theorem push3' {vs : List Value} {a b c : Value} : ((vs.toArray.push a).push b).push c = (vs ++ [a, b, c]).toArray := by simp
end Mine
end
section
open PySem PySem.W PyProof.Rows
set_option Elab.async false
namespace Mine
noncomputable def MyWhile (prog : Program) (w : World) (A : Around) (env : Env) (test : Expr) (body : List Stmt) (pos : Pos) (Q : Flow → Shared → Prop) (E : Value → Shared → Prop) (s : Shared) : Prop :=
  wpAny (model prog w) A (exec (.While test body [] pos) env) Q E s
theorem While_stop {prog : Program} {w : World} {A : Around} {env : Env} {test : Expr} {body : List Stmt} {pos : Pos} {Q : Flow → Shared → Prop} {E : Value → Shared → Prop} {s : Shared}
    (h : MyWhile prog w A env test body pos Q E s) : wpAny (model prog w) A (exec (.While test body [] pos) env) Q E s := h
local macro_rules | `(tactic| walk_at "exec While Compare") => `(tactic| (k_here; refine While_stop ?_))
local macro_rules | `(tactic| walk_at "exec While") => `(tactic| (k_here; refine While_stop ?_))
local macro_rules | `(tactic| walk_at "call ref") => `(tactic| (k_here; (with_reducible show wpAny _ _ (call (.ref 45) _) _ _ _); k_dflt (refine' sA (S := build_none _ _ _ (by k_mem)) (ret := ?_)); intro h9 tk9 tk8 F9 N9; (try dsimp only); (try k_fold)))
local macro_rules | `(tactic| walk_at "call ref") => `(tactic| (k_here; (with_reducible show wpAny _ _ (call (.ref 45) _) _ _ _); k_dflt (refine' sA (S := build_two _ _ _ _ _ _ _ (by k_mem) (by first | assumption | omega) (by first | assumption | omega | exact Nat.le_of_ble_eq_true rfl)) (ret := ?_)); intro h9 tk9 tk8 F9 N9; (try dsimp only); (try k_fold)))
local macro_rules | `(tactic| walk_at "call ref") => `(tactic| (k_here; (with_reducible show wpAny _ _ (call (.ref 221) _) _ _ _); k_dflt (refine su (S := add_header _ _ _ _ _ _ _ _ _ _ _ _ _ _ (by k_mem) (by k_mem) (by assumption) (by first | assumption | omega) (by first | assumption | omega) (by assumption) (by assumption) (by first | assumption | omega)) (ret := ?_)); intro r9 nw9 h9 tk9 F9 N9 hP9; obtain ⟨e9, t9, tx9, ty9, e8, hl9, hr9⟩ := hP9; subst e9; subst e8; (try dsimp only); (try k_fold)))
theorem len_two {prog : Program} {w : World} {A : Around} {E : Value → Shared → Prop} {s : Shared} {x : Str} {t : Tok} {Q : Value → Shared → Prop} (hx : x.length = 2) (h : Q (.int 2 (s.toks + 1)) { s with toks := s.toks + 1 + 1 }) :
    wpAny (model prog w) A (call (.builtin "len") [.str x t]) Q E s := by
  refine PySem.P.len_str (by rw [hx]; decide) ?_
  rw [hx]; exact h
local macro_rules | `(tactic| walk_at "call builtin:len") => `(tactic| (k_here; refine len_two (by assumption) ?_))
theorem fits_small {x : Nat} (h : x ≤ 2) : fitsSsize (x : Int) = true := fitsSsize_of (N := 5) (by omega) (by omega) (by decide)
theorem item_small {prog : Program} {w : World} {A : Around} {E : Value → Shared → Prop} {s : Shared} {value slice : Expr} {x : Str} {t u : Tok} {i : Nat} {Q : Value → Shared → Prop} (hx : x.length = 2) (hi : (i : Int) < 2)
    (h : (1 ≤ (Txt.item x i).length ∧ (Txt.item x i).length ≤ 1) → Q (.str (Txt.item x i) s.toks) { s with toks := s.toks + 1 })
    (hs : subscripted slice false (.str x t) (.int i u) = operate [.str x t, .int i u] (getItem (.str x t) (.int i u)) := by with_unfolding_all rfl)
    (ht : ∀ r, letTemporaryGo value (.str x t) r = pure () := by intro _; with_unfolding_all rfl) :
    wpAny (model prog w) A (subscriptTail value slice (.str x t) (.int i u)) Q E s := item_str (fits_small (by omega)) (by omega) (by rw [hx]; exact hi) h hs ht
theorem lt_two {x : Nat} (h : x ≤ 2) (hn : ¬ (x : Int) = 2) : (x : Int) < 2 := by omega
theorem lt_two' {x y : Nat} (h : y ≤ 2) (e : (x : Int) = 2) (hn : ¬ ((x : Int) = 2 ∧ (y : Int) = 2)) : (y : Int) < 2 := by omega
local macro_rules | `(tactic| walk_at "subscriptTail Name Name str int") => `(tactic| (k_here; refine item_small (by assumption) (by first | assumption | omega) ?_; intro _))
local macro_rules | `(tactic| walk_at "subscriptTail Name Name ref int") => `(tactic| (k_here; refine item_list (News.isList (by assumption) (by k_mem)) (by omega) (by omega) (by assumption) ?_))
set_option maxRecDepth 100000 in
set_option maxHeartbeats 8000000 in
theorem laid (w : World) (news : List (Addr × Obj)) (u v : Str) (tu tv : Tok) (hu : u.length = 2) (hv : v.length = 2) (lu : Letters u) (lv : Letters v) :
    Says w 242 [.str u tu, .str v tv] news 20 160 (fun r nw => ∃ tbl ds, r = .ref tbl ∧ nw = ds ++ news ∧ Table ds tbl (laidRows u v 31) ∧ (∀ p ∈ ds, ∀ q ∈ news, p.1 ≠ q.1)) := by
  unfold Says PR
  w_top off
  k_fill
  intro mean mg mb dp un gd cn cs a ccd cl outer A₀ base h₀ L m s Q E B F X N T hk hdp hun hret
  refine wpAny_call ?_
  k_dflt ktr_enter
  k_steps
  rename Fr _ _ _ _ => F9
  rename News _ _ _ ((_, W.listOf #[] 0) :: _) => N9
  with_unfolding_all refine For_none F9 rfl ?_
  k_steps
  refine ⟨_, _, _, _, rfl, F9, N9, List.mem_cons_self, ?_⟩
  clear F9 N9
  intro h' F' N'
  k_steps
  rename Fr _ _ _ _ => F9
  rename News _ _ _ ((_, W.listOf _ _) :: _ :: _ :: _) => N9
  obtain ⟨wl, lst, tbl, dd, D, D1, rfl, rfl, rfl, rfl, rfl, rfl, N8⟩ := led9 N9
  rename D < wl ∧ D1 < wl ∧ lst < wl ∧ tbl < wl ∧ dd < wl ∧ AllLt wl news => q1
  rename D1 < D ∧ lst < D ∧ tbl < D ∧ dd < D ∧ AllLt D news => q2
  rename lst < D1 ∧ tbl < D1 ∧ dd < D1 ∧ AllLt D1 news => q3
  rename tbl < lst ∧ dd < lst ∧ AllLt lst news => q4
  rename ∀ p ∈ news, p.1 < dd => q5
  rename dd < tbl => q6
  have hwl : @Ne Nat lst wl := Nat.ne_of_lt q1.2.2.1
  unfold MyWhile
  refine While_inv (n₀ := 32) (LaidInv u v tu tv news wl lst tbl dd) F9 N8 ?_ ?_
  · refine ⟨0, rfl, by decide, rfl, rfl, rfl, rfl, ⟨_, rfl⟩, [_], _, _, _, _, [_, _, _, _], _, _, _, rfl, ⟨⟨_, _, _, _, rfl, List.mem_cons_self⟩, trivial⟩, trivial, ?_, ?_, List.mem_cons_of_mem _ (List.mem_cons_of_mem _ List.mem_cons_self), List.mem_cons_of_mem _ (List.mem_cons_of_mem _ (List.mem_cons_of_mem _ List.mem_cons_self)), rfl, dof_cons q2.2.2.2.2 (dof_cons q3.2.2.2 (two_off q5 q6))⟩
    · intro p hp
      have h1 : ∀ p ∈ news, p.1 < wl := ktn_ltOf q1.2.2.2.2.2
      simp only [List.mem_cons] at hp
      rcases hp with e | e | e | e | hp
      · rw [e]; exact Nat.ne_of_lt q1.1
      · rw [e]; exact Nat.ne_of_lt q1.2.1
      · rw [e]; exact Nat.ne_of_lt q1.2.2.2.1
      · rw [e]; exact Nat.ne_of_lt q1.2.2.2.2.1
      · exact Nat.ne_of_lt (h1 p hp)
    · intro p hp
      have h1 : ∀ p ∈ news, p.1 < lst := ktn_ltOf q4.2.2
      simp only [List.mem_cons] at hp
      rcases hp with e | e | e | e | hp
      · rw [e]; exact Nat.ne_of_gt q2.2.1
      · rw [e]; exact Nat.ne_of_gt q3.1
      · rw [e]; exact Nat.ne_of_lt q4.1
      · rw [e]; exact Nat.ne_of_lt q4.2.1
      · exact Nat.ne_of_lt (h1 p hp)
  rintro n m₁ news₁ h tk F₁ N₁ ⟨i, rfl, hi, j1, j2, j3, j4, ⟨ta, j5⟩, vs, k, its, n2, rest, es, hh, kt, dn, rfl, hq, hro, hnw, hnl, hte, hde, hrest, hoff⟩
  have ht : (tbl, instObj 224 dd) ∈ rest := by rw [hrest]; exact List.mem_append_left _ hte
  have hd : (dd, hdrD hh kt lst dn) ∈ rest := by rw [hrest]; exact List.mem_append_left _ hde
  replace F₁ := frame_put (Str.ofString "u") F₁ j1
  replace F₁ := frame_put (Str.ofString "v") F₁ (by (repeat (refine (if_neg (by decide)).trans ?_)); exact j2)
  replace F₁ := frame_put (Str.ofString "table") F₁ (by (repeat (refine (if_neg (by decide)).trans ?_)); exact j3)
  replace F₁ := frame_put (Str.ofString "waiting") F₁ (by (repeat (refine (if_neg (by decide)).trans ?_)); exact j4)
  replace F₁ := frame_put (Str.ofString "at") F₁ (by (repeat (refine (if_neg (by decide)).trans ?_)); exact j5)
  clear F9 N9 N8 j1 j2 j3 j4 j5 q1 q2 q3 q4
  have QF := q_facts (eqsOf u v) hi
  have hvl : vs.toArray.size = (queue (eqsOf u v) i).length := by rw [List.size_toArray]; exact hq.length
  have hvl2 := QF.len
  by_cases hlt : i < (queue (eqsOf u v) i).length
  · obtain ⟨⟨sy, x, y⟩, hx⟩ : ∃ x, (queue (eqsOf u v) i)[i]? = some x := ⟨_, List.getElem?_eq_getElem hlt⟩
    obtain ⟨yv, hy, t, tn, ti, tj, rfl, hm⟩ := hq.get hx
    have hen := QF.ent _ (List.mem_of_getElem? hx)
    replace hy : vs.toArray[(i : Int).toNat]? = some (.ref t) := by simpa using hy
    have nl : (symName u v sy).length ≤ 1000 := by rw [symName, nm_len, List.length_map]; have := hen.1; simp only at this; omega
    have hx2 : x ≤ 2 := hen.2.2.1
    have hy2 : y ≤ 2 := hen.2.2.2
    have nc := sym_clean hu hv lu lv sy
    have ll : (Str.ofString (toString ((i : Int) + 1))).length ≤ 1000 := by rw [line_succ]; exact line_len2 (by omega)
    have lc : Clean (Str.ofString (toString ((i : Int) + 1))) := by rw [line_succ]; exact line_clean2 (by omega)
    have hi31 := QF.on hlt
    have hsz : its.size ≤ 100000 := by
      have := hro.length
      have h2 := QF.rows
      simp only [laidRows, List.length_map, Array.length_toList] at this
      omega
    have hnl2 : ∀ p ∈ (wl, W.listOf vs.toArray k) :: rest, p.1 ≠ lst := List.forall_mem_cons.mpr ⟨fun e => hwl e.symm, hnl⟩
    clear hen
    simp only at hm
    k_steps
    · rename Fr _ _ _ _ => F9
      rename News _ _ _ ((_, _) :: _) => N9
      rename _ ≠ lst => hl9
      rename ∀ p ∈ (wl, _) :: rest, p.1 ≠ _ => hr9
      have hx2 : x = 2 := by omega
      have hy2 : y = 2 := by omega
      refine laid_next (ws := []) hx hi31 F9 (mv1 N9) rfl rfl rfl rfl ⟨_, rfl⟩ (by rw [List.append_nil]) hq ?_ (rows_add hx hx2 hy2 rfl hro) hnw hnl ?_ ?_ hte hde hrest hoff ?_
      · rw [hx2, hy2, kids_22]; exact trivial
      · intro p hp; rw [List.mem_singleton.mp hp]; exact fun e => hr9 _ List.mem_cons_self e.symm
      · intro p hp; rw [List.mem_singleton.mp hp]; exact hl9
      · intro p hp q hq; rw [List.mem_singleton.mp hp]; exact fun e => hr9 q (List.mem_cons_of_mem _ hq) e.symm
    · rename Fr _ _ _ _ => F9
      rename News _ _ _ ((_, _) :: _) => N9
      have hx2 : x = 2 := by omega
      have hy2 : y < 2 := by omega
      refine laid_next (ws := [_]) hx hi31 F9 (mv2 N9) rfl rfl rfl rfl ⟨_, rfl⟩ (List.push_toArray vs _) hq ?_ (rows_keep hx (by omega) hro) hnw hnl (by refine off_cons (by omega) ?_; refine off_cons (by omega) ?_; exact off_nil) (by refine off_cons (by omega) ?_; refine off_cons (by omega) ?_; exact off_nil) hte hde hrest hoff (by refine dof_cons (show AllLt _ rest from (‹_ ∧ _ ∧ _ ∧ AllLt _ rest›).2.2.2) ?_; refine dof_cons (show AllLt _ rest from (‹_ ∧ _ ∧ AllLt _ rest›).2.2) ?_; exact dof_nil)
      rw [kids_v' hx2 hy2]
      exact ⟨qat_v hv lv hy2 (List.mem_cons_self), trivial⟩
    · rename Fr _ _ _ _ => F9
      rename News _ _ _ ((_, _) :: _) => N9
      have hx2 : x < 2 := by omega
      have hy2 : y < 2 := by omega
      refine laid_next (ws := [_, _, _]) hx hi31 F9 (mv6 N9) rfl rfl rfl rfl ⟨_, rfl⟩ (by first | exact push3' | exact push3) hq ?_ (rows_keep hx (by omega) hro) hnw hnl (by refine off_cons (by omega) ?_; refine off_cons (by omega) ?_; refine off_cons (by omega) ?_; refine off_cons (by omega) ?_; refine off_cons (by omega) ?_; refine off_cons (by omega) ?_; exact off_nil) (by refine off_cons (by omega) ?_; refine off_cons (by omega) ?_; refine off_cons (by omega) ?_; refine off_cons (by omega) ?_; refine off_cons (by omega) ?_; refine off_cons (by omega) ?_; exact off_nil) hte hde hrest hoff (by refine dof_cons (show AllLt _ rest from (‹_ ∧ _ ∧ _ ∧ _ ∧ _ ∧ _ ∧ _ ∧ AllLt _ rest›).2.2.2.2.2.2.2) ?_; refine dof_cons (show AllLt _ rest from (‹_ ∧ _ ∧ _ ∧ _ ∧ _ ∧ _ ∧ AllLt _ rest›).2.2.2.2.2.2) ?_; refine dof_cons (show AllLt _ rest from (‹_ ∧ _ ∧ _ ∧ _ ∧ _ ∧ AllLt _ rest›).2.2.2.2.2) ?_; refine dof_cons (show AllLt _ rest from (‹_ ∧ _ ∧ _ ∧ _ ∧ AllLt _ rest›).2.2.2.2) ?_; refine dof_cons (show AllLt _ rest from (‹_ ∧ _ ∧ _ ∧ AllLt _ rest›).2.2.2) ?_; refine dof_cons (show AllLt _ rest from (‹_ ∧ _ ∧ AllLt _ rest›).2.2) ?_; exact dof_nil)
      rw [kids_3 hx2 hy2 (by rw [← eq_at hu hv hx2 hy2]; assumption)]
      exact ⟨qat_u hu hx2 (List.mem_cons_of_mem _ (List.mem_cons_of_mem _ (List.mem_cons_of_mem _ (List.mem_cons_of_mem _ List.mem_cons_self)))), qat_v hv lv hy2 (List.mem_cons_of_mem _ (List.mem_cons_of_mem _ List.mem_cons_self)), qat_d hu hx2 (List.mem_cons_self), trivial⟩
    · rename Fr _ _ _ _ => F9
      rename News _ _ _ ((_, _) :: _) => N9
      have hx2 : x < 2 := by omega
      have hy2 : y < 2 := by omega
      refine laid_next (ws := [_, _]) hx hi31 F9 (mv4 N9) rfl rfl rfl rfl ⟨_, rfl⟩ (by first | exact push2' | exact push2) hq ?_ (rows_keep hx (by omega) hro) hnw hnl (by refine off_cons (by omega) ?_; refine off_cons (by omega) ?_; refine off_cons (by omega) ?_; refine off_cons (by omega) ?_; exact off_nil) (by refine off_cons (by omega) ?_; refine off_cons (by omega) ?_; refine off_cons (by omega) ?_; refine off_cons (by omega) ?_; exact off_nil) hte hde hrest hoff (by refine dof_cons (show AllLt _ rest from (‹_ ∧ _ ∧ _ ∧ _ ∧ _ ∧ AllLt _ rest›).2.2.2.2.2) ?_; refine dof_cons (show AllLt _ rest from (‹_ ∧ _ ∧ _ ∧ _ ∧ AllLt _ rest›).2.2.2.2) ?_; refine dof_cons (show AllLt _ rest from (‹_ ∧ _ ∧ _ ∧ AllLt _ rest›).2.2.2) ?_; refine dof_cons (show AllLt _ rest from (‹_ ∧ _ ∧ AllLt _ rest›).2.2) ?_; exact dof_nil)
      rw [kids_2 hx2 hy2 (by rw [← eq_at hu hv hx2 hy2]; assumption)]
      exact ⟨qat_u hu hx2 (List.mem_cons_of_mem _ (List.mem_cons_of_mem _ List.mem_cons_self)), qat_v hv lv hy2 (List.mem_cons_self), trivial⟩
    · rename Fr _ _ _ _ => F9
      rename News _ _ _ ((_, _) :: _) => N9
      have hx2 : x < 2 := by omega
      have hy2 : y = 2 := by omega
      refine laid_next (ws := [_]) hx hi31 F9 (mv2 N9) rfl rfl rfl rfl ⟨_, rfl⟩ (List.push_toArray vs _) hq ?_ (rows_keep hx (by omega) hro) hnw hnl (by refine off_cons (by omega) ?_; refine off_cons (by omega) ?_; exact off_nil) (by refine off_cons (by omega) ?_; refine off_cons (by omega) ?_; exact off_nil) hte hde hrest hoff (by refine dof_cons (show AllLt _ rest from (‹_ ∧ _ ∧ _ ∧ AllLt _ rest›).2.2.2) ?_; refine dof_cons (show AllLt _ rest from (‹_ ∧ _ ∧ AllLt _ rest›).2.2) ?_; exact dof_nil)
      rw [kids_u' hx2 hy2]
      exact ⟨qat_u hu hx2 (List.mem_cons_self), trivial⟩
  · have hro2 : Rows es its.toList (laidRows u v 31) := by
      have e := QF.off (by omega)
      rw [laidRows] at hro ⊢
      rwa [e] at hro
    clear QF hq hro
    k_steps
    refine hret _ _ _ _ (by k_asm) (by k_asm) ⟨tbl, _ :: _ :: es, rfl, by rw [hrest]; rfl, ⟨lst, dd, its, n2, hh, kt, dn, List.mem_cons_of_mem _ (List.mem_cons_of_mem _ hte), List.mem_cons_of_mem _ (List.mem_cons_of_mem _ hde), List.mem_cons_self, Rows.mono (fun p hp => List.mem_cons_of_mem _ (List.mem_cons_of_mem _ hp)) hro2⟩, one_off (fun q hq z => ?_) (one_off (fun q hq z => ?_) hoff)⟩
    · exact hnl q (by rw [hrest]; exact List.mem_append_right _ hq) z.symm
    · exact hnw q (by rw [hrest]; exact List.mem_append_right _ hq) z.symm
end Mine
end
section
open PySem PySem.W PyProof.Rows
set_option Elab.async false
namespace Mine
theorem regroup {h₀ h : Heap} {L : Addr} {ds rest : List (Addr × Obj)} {a b c d e : Addr} {oa ob oc od oe : Obj} {tb : Addr} {rows : List (Str × Str)} (N : News h₀ L h (ds ++ ((a, oa) :: (b, ob) :: (c, oc) :: (d, od) :: (e, oe) :: rest)))
    (ho : ∀ p ∈ ds, ∀ q ∈ (a, oa) :: (b, ob) :: (c, oc) :: (d, od) :: (e, oe) :: rest, p.1 ≠ q.1) (hT : Table ds tb rows)
    (ha : ∀ p ∈ rest, p.1 ≠ a) (hb : ∀ p ∈ rest, p.1 ≠ b) (hc : ∀ p ∈ rest, p.1 ≠ c) (hd : ∀ p ∈ rest, p.1 ≠ d) (he : ∀ p ∈ rest, p.1 ≠ e) :
    ∃ wd, News h₀ L h ((a, oa) :: (b, ob) :: (c, oc) :: (d, od) :: (e, oe) :: wd) ∧ Table wd tb rows ∧ (∀ t r, Table rest t r → Table wd t r) ∧ (∀ p ∈ wd, p.1 ≠ a) ∧ (∀ p ∈ wd, p.1 ≠ b) ∧ (∀ p ∈ wd, p.1 ≠ c) ∧ (∀ p ∈ wd, p.1 ≠ d) ∧ (∀ p ∈ wd, p.1 ≠ e) := by
  have key : ∀ z, (∃ o, (z, o) ∈ (a, oa) :: (b, ob) :: (c, oc) :: (d, od) :: (e, oe) :: rest) → (∀ p ∈ rest, p.1 ≠ z) → ∀ p ∈ ds ++ rest, p.1 ≠ z := by
    rintro z ⟨o, hz⟩ hr p hp
    rcases List.mem_append.mp hp with hp | hp
    · exact ho p hp _ hz
    · exact hr p hp
  refine ⟨ds ++ rest, ?_, hT.mono fun p hp => List.mem_append_left _ hp, fun t r h => h.mono fun p hp => List.mem_append_right _ hp, key a ⟨oa, by simp⟩ ha, key b ⟨ob, by simp⟩ hb, key c ⟨oc, by simp⟩ hc, key d ⟨od, by simp⟩ hd, key e ⟨oe, by simp⟩ he⟩
  intro p hp
  refine N p ?_
  simp only [List.mem_cons, List.mem_append] at hp ⊢
  rcases hp with h | h | h | h | h | h | h <;> simp [h]
theorem off_cells {news : List (Addr × Obj)} {L : Addr} (h : ∀ p ∈ news, p.1 < L) : (∀ p ∈ news, p.1 ≠ L + 1) ∧ (∀ p ∈ news, p.1 ≠ L + 1 + 1) ∧ (∀ p ∈ news, p.1 ≠ L + 1 + 1 + 1) ∧ (∀ p ∈ news, p.1 ≠ L + 1 + 1 + 1 + 1) ∧ (∀ p ∈ news, p.1 ≠ L + 1 + 1 + 1 + 1 + 1) := by
  have k : ∀ n : Nat, ∀ p ∈ news, p.1 ≠ L + n + 1 := fun n p hp => Nat.ne_of_lt (Nat.lt_of_lt_of_le (h p hp) (by have : L ≤ L + n := Nat.le_add_right L n; exact Nat.le_succ_of_le this))
  exact ⟨k 0, k 1, k 2, k 3, k 4⟩
@[irreducible] noncomputable def LR (u v : Str) : List (Str × Str) := laidRows u v 31
@[irreducible] noncomputable def FR (tt : Str) : List (Str × Str) := filedUpTo tt 16
theorem LR_eq (u v : Str) : LR u v = laidRows u v 31 := by unfold LR; rfl
theorem FR_eq (tt : Str) : FR tt = filedUpTo tt 16 := by unfold FR; rfl
theorem filed2 (w : World) (news : List (Addr × Obj)) (tt : Str) (tx : Tok) (htl : tt.length = 4) (hlt : Letters tt) :
    Says w 235 [.str tt tx] news 20 160 (fun r nw => ∃ tbl ds, r = .ref tbl ∧ nw = ds ++ news ∧ Table ds tbl (FR tt) ∧ (∀ p ∈ ds, ∀ q ∈ news, p.1 ≠ q.1)) := by
  rw [FR_eq]; exact filed w news tt tx htl hlt
theorem laid2 (w : World) (news : List (Addr × Obj)) (u v : Str) (tu tv : Tok) (hu : u.length = 2) (hv : v.length = 2) (lu : Letters u) (lv : Letters v) :
    Says w 242 [.str u tu, .str v tv] news 20 160 (fun r nw => ∃ tbl ds, r = .ref tbl ∧ nw = ds ++ news ∧ Table ds tbl (LR u v) ∧ (∀ p ∈ ds, ∀ q ∈ news, p.1 ≠ q.1)) := by
  rw [LR_eq]; exact laid w news u v tu tv hu hv lu lv
theorem told2 (w : World) (news : List (Addr × Obj)) (tbl : Addr) (tt : Str) (x : Str) (tx t4 : Tok) (hT : Table news tbl (FR tt)) (hx : x.length ≤ 1000) (cx : Clean (Txt.lower x)) :
    Says w 247 [.ref tbl, .str x tx, .int 4 t4] news 20 160 (fun r nw => ∃ l ys, r = .ref l ∧ IntsAre ys (toldL tt x) ∧ nw = (l, LCg.lst ys) :: news ∧ (∀ p ∈ news, p.1 ≠ l)) :=
  told w news tbl tt x tx t4 (FR_eq tt ▸ hT) hx cx
theorem reckoned2 (w : World) (news : List (Addr × Obj)) (ls : List Nat) (y tt : Str) (tw tx : Tok) (hy : y = wordOf ls) (hn : 2 ≤ ls.length ∧ ls.length ≤ 4) (hT : tt.length = 4) (hl : Letters tt) :
    Says w 254 [.str y tw, .str tt tx] news 20 160 (fun r nw => ∃ l ys k, r = .ref l ∧ IntsAre ys (reckonUp (wordOf ls) tt ls.length 4) ∧ nw = (l, listOf ys.toArray k) :: news ∧ (∀ p ∈ news, p.1 ≠ l)) := by
  subst hy
  exact reckoned w news ls.length (wordOf ls) tt tw tx hn rfl hT hl
theorem ellipsis_y (w : World) (news : List (Addr × Obj)) (ls : List Nat) (y tt : Str) (tw tx : Tok) (hy : y = wantOf ls) (hn : 2 ≤ ls.length ∧ ls.length ≤ 4) (hls : ∀ c ∈ ls, 97 ≤ c ∧ c ≤ 122) (hT : tt.length = 4) :
    Says w 52 [.str y tw, .str tt tx] news 20 160 (fun r nw => r = .bool (ls.isSublist tt.cps.toList) ∧ nw = news) := by
  subst hy
  exact ellipsis w news ls tt tw tx hn hls hT
theorem ne_led {prog : Program} {w : World} {A : Around} {E : Value → Shared → Prop} {s : Shared} {h₀ : Heap} {L a b : Addr} {news : List (Addr × Obj)} {xs ys : List Value} {ns ms : List Int} {k : Nat} {Q : Value → Shared → Prop} (N : News h₀ L s.heap news)
    (hm : (a, LCg.lst xs) ∈ news) (hm2 : (b, W.listOf ys.toArray k) ∈ news) (hi : IntsAre xs ns) (hj : IntsAre ys ms) (hu : A.units + 64 < cLine) (he : ns = ms) (h : Q (.bool false) s) : wpAny (model prog w) A (compareOp .NotEq (.ref a) (.ref b)) Q E s :=
  ke_ne_ints ⟨_, (N _ hm).1, rfl, _, rfl⟩ ⟨_, (N _ hm2).1, rfl, _, rfl⟩ hi hj hu (by subst he; simpa using h)
theorem slice_one {a : Nat} {l : List Nat} : Txt.slice ⟨(a :: l).toArray⟩ (some 1) none = ⟨l.toArray⟩ := by
  have hlen : (⟨(a :: l).toArray⟩ : Str).length = l.length + 1 := by simp [Str.length]
  have e1 : PySem.Builtin.Str.strSliceIndices (some 1) none 1 (l.length + 1) = PySem.Builtin.Str.strSliceIndices (some ((1 : Nat) : Int)) (some ((l.length + 1 : Nat) : Int)) 1 (l.length + 1) := by rw [PySem.StrLaws.sliceIdx_none_hi]; rfl
  have e2 := PySem.StrLaws.sliced_plain ⟨(a :: l).toArray⟩ (a := 1) (b := l.length + 1) (by omega) (by rw [hlen]; exact Nat.le_refl _)
  unfold Txt.slice
  rw [hlen, e1]
  rw [hlen] at e2
  rw [if_neg, e2]
  · simp
  · rw [PySem.StrLaws.strSliceIndices_plain (by omega) (Nat.le_refl _)]
    simp
theorem low_slice (ls : List Nat) : Txt.slice (lowOf ls) (some 1) none = tailOf ls := slice_one
theorem low_clean {ls : List Nat} (h : ∀ c ∈ ls, 97 ≤ c ∧ c ≤ 122) : Clean (lowOf ls) := by
  refine clean_lit _ ?_
  rw [lowOf]
  simp only [List.all_toArray, List.all_cons, List.all_eq_true, Bool.and_eq_true, decide_eq_true_eq, List.mem_flatMap]
  refine ⟨by decide, ?_⟩
  rintro x ⟨c, hc, hx⟩
  simp only [List.mem_cons, List.not_mem_nil, or_false] at hx
  rcases hx with rfl | rfl
  · decide
  · have := h x hc; omega
theorem name10 {g h : Heap} {L l D x a b c d e : Addr} {o0 oa ob oc od oe : Obj} {ys : List Value} {ds : Array Value} {k k2 : Nat} {wd : List (Addr × Obj)} (N : News g L h ((l, W.listOf ys.toArray k) :: (D, W.listOf ds k2) :: (x, o0) :: (a, oa) :: (b, ob) :: (c, oc) :: (d, od) :: (e, oe) :: wd)) :
    ∃ nl dl wd' zs k', nl = l ∧ dl = D ∧ wd' = wd ∧ zs = ys ∧ k' = k ∧ News g L h ((nl, W.listOf (List.toArray zs) k') :: (dl, W.listOf ds k2) :: (a, oa) :: (b, ob) :: (c, oc) :: (d, od) :: (e, oe) :: wd') :=
  ⟨l, D, wd, ys, k, rfl, rfl, rfl, rfl, rfl, fun p hp => N p (by simp only [List.mem_cons] at hp ⊢; rcases hp with h | h | h | h | h | h | h | h <;> simp [h])⟩
theorem tbl_name {news : List (Addr × Obj)} {t : Addr} {r : List (Str × Str)} (_ : Table news t r) : ∃ t', t' = t := ⟨t, rfl⟩
theorem LR_small (u v : Str) : (LR u v).length ≤ 1000 ∧ ∀ p ∈ LR u v, p.1.length ≤ 1000 := by
  rw [LR_eq]
  have h := q_facts (eqsOf u v) (n := 31) (by decide)
  refine ⟨by have := h.rows; unfold laidRows; rw [List.length_map]; omega, ?_⟩
  intro p hp
  obtain ⟨x, hx, rfl⟩ := List.mem_map.mp hp
  have := h.row x hx
  show (symName u v x.1).length ≤ 1000
  rw [symName, nm_len, List.length_map]
  omega
end Mine
end
section
open PySem PySem.W PyProof.Rows
set_option Elab.async false
namespace Mine
theorem all_cons {a l : Addr} {o : Obj} {X : List (Addr × Obj)} (h : ∀ p ∈ (a, o) :: X, p.1 ≠ l) : @Ne Nat a l ∧ ∀ p ∈ X, p.1 ≠ l := ⟨h _ List.mem_cons_self, fun p hp => h p (List.mem_cons_of_mem _ hp)⟩
theorem off1_of {D : Addr} : ∀ {l : List (Addr × Obj)}, (∀ p ∈ l, p.1 ≠ D) → LCg.Off1 D l
  | [], _ => trivial
  | _ :: _, h => ⟨h _ List.mem_cons_self, off1_of fun p hp => h p (List.mem_cons_of_mem _ hp)⟩
theorem fits_1000 {n : Nat} (h : n ≤ 1000) : n ≤ sizeLine := Nat.le_trans h (by rw [PySem.sizeLine_eq]; decide)
theorem len_ledn {prog : Program} {w : World} {A : Around} {E : Value → Shared → Prop} {s : Shared} {h₀ : Heap} {L a : Addr} {news : List (Addr × Obj)} {ys : List Value} {n : Nat} {Q : Value → Shared → Prop} (N : News h₀ L s.heap news) (hm : (a, LCg.lst ys) ∈ news) (hl : ys.length = n) (hn : n ≤ 1000)
    (h : Q (.int (n : Nat) (s.toks + 1)) { s with toks := s.toks + 1 + 1 }) : wpAny (model prog w) A (call (.builtin "len") [.ref a]) Q E s := by
  subst hl
  exact len_led N hm hn h
theorem ne_by {a c : Addr} {o : Obj} {X : List (Addr × Obj)} (h : ∀ p ∈ X, p.1 ≠ a) (hm : (c, o) ∈ X) : @Ne Nat a c := fun e => h _ hm e.symm
abbrev cellsOf (L : Addr) : List (Addr × Obj) := [(L + 1 + 1 + 1 + 1 + 1, LCg.lst []), (L + 1 + 1 + 1 + 1, LCg.lst []), (L + 1 + 1 + 1, LCg.lst []), (L + 1 + 1, LCg.lst []), (L + 1, LCg.lst [])]
theorem cells_off {L a : Addr} (h5 : @Ne Nat (L + 1 + 1 + 1 + 1 + 1) a) (h4 : @Ne Nat (L + 1 + 1 + 1 + 1) a) (h3 : @Ne Nat (L + 1 + 1 + 1) a) (h2 : @Ne Nat (L + 1 + 1) a) (h1 : @Ne Nat (L + 1) a) : ∀ p ∈ cellsOf L, p.1 ≠ a := by
  intro p hp
  simp only [cellsOf, List.mem_cons, List.not_mem_nil, or_false] at hp
  rcases hp with e | e | e | e | e <;> rw [e] <;> assumption
theorem cells_of {L a : Addr} {o5 o4 o3 o2 o1 : Obj} {r : List (Addr × Obj)} (h : ∀ p ∈ (L + 1 + 1 + 1 + 1 + 1, o5) :: (L + 1 + 1 + 1 + 1, o4) :: (L + 1 + 1 + 1, o3) :: (L + 1 + 1, o2) :: (L + 1, o1) :: r, p.1 ≠ a) : ∀ p ∈ cellsOf L, p.1 ≠ a :=
  cells_off (h (_, o5) (by simp)) (h (_, o4) (by simp)) (h (_, o3) (by simp)) (h (_, o2) (by simp)) (h (_, o1) (by simp))
theorem lt_k1 (a : Nat) : a < a + 1 := Nat.lt_succ_self a
theorem lt_k2 (a : Nat) : a < a + 1 + 1 := Nat.lt_succ_of_lt (lt_k1 a)
theorem lt_k3 (a : Nat) : a < a + 1 + 1 + 1 := Nat.lt_succ_of_lt (lt_k2 a)
theorem lt_k4 (a : Nat) : a < a + 1 + 1 + 1 + 1 := Nat.lt_succ_of_lt (lt_k3 a)
theorem bound_lo {TL : List Int} (h : ∀ k : Nat, 0 ≤ TL.getD k 0 ∧ TL.getD k 0 ≤ 16) (k : Nat) : 0 ≤ TL.getD k 0 := (h k).1
theorem bound_hi {TL : List Int} (h : ∀ k : Nat, 0 ≤ TL.getD k 0 ∧ TL.getD k 0 ≤ 16) (k : Nat) : TL.getD k 0 ≤ 1000 := Int.le_trans (h k).2 (by decide)
theorem cast_le {n : Nat} (h : n ≤ 1000) : (n : Int) ≤ 1000 := by omega
theorem pick_turn {g h : Heap} {L : Addr} {D x1 x2 x3 I nl dl c5 c4 c3 c2 c1 : Addr × Obj} {wd : List (Addr × Obj)} (N : News g L h (D :: x1 :: x2 :: x3 :: I :: nl :: dl :: c5 :: c4 :: c3 :: c2 :: c1 :: wd)) :
    News g L h ([I] ++ (nl :: D :: c5 :: c4 :: c3 :: c2 :: c1 :: wd)) := fun p hp => N p (by
  simp only [List.cons_append, List.nil_append, List.mem_cons] at hp ⊢
  rcases hp with h | h | h | h | h | h | h | h | h <;> simp [h])
theorem turn_off {I nl dl D b5 b4 b3 b2 b1 : Addr} {o on od oD c5 c4 c3 c2 c1 e5 e4 e3 e2 e1 : Obj} {wd : List (Addr × Obj)} (hI : ∀ p ∈ (nl, on) :: (dl, od) :: (b5, c5) :: (b4, c4) :: (b3, c3) :: (b2, c2) :: (b1, c1) :: wd, p.1 ≠ I) (hD : @Ne Nat I D) :
    ∀ p ∈ (nl, on) :: (D, oD) :: (b5, e5) :: (b4, e4) :: (b3, e3) :: (b2, e2) :: (b1, e1) :: wd, ∀ q ∈ [(I, o)], p.1 ≠ q.1 := by
  intro p hp q hq
  rw [List.mem_singleton.mp hq]
  simp only [List.mem_cons] at hp
  rcases hp with e | e | e | e | e | e | e | hp
  · rw [e]; exact hI (nl, on) (by simp)
  · rw [e]; exact hD.symm
  · rw [e]; exact hI (b5, c5) (by simp)
  · rw [e]; exact hI (b4, c4) (by simp)
  · rw [e]; exact hI (b3, c3) (by simp)
  · rw [e]; exact hI (b2, c2) (by simp)
  · rw [e]; exact hI (b1, c1) (by simp)
  · exact hI p (by simp [hp])
theorem map_snoc {f : Nat → Int} {qs : List Value} {j : Nat} {t : Tok} (h : IntsAre qs ((List.range j).map f)) : IntsAre (qs ++ [.int (f j) t]) ((List.range (j + 1)).map f) := by
  rw [List.range_succ, List.map_append]
  exact ints_snoc h
theorem to_nat0 (j : Nat) : (0 + (j : Int)).toNat = j := by omega
theorem told3 (w : World) (news : List (Addr × Obj)) (tbl : Addr) (tt : Str) (x : Str) (tx t4 : Tok) (TL : List Int) (hT : Table news tbl (FR tt)) (hx : x.length ≤ 1000) (cx : Clean (Txt.lower x)) (hL : toldL tt x = TL) :
    Says w 247 [.ref tbl, .str x tx, .int 4 t4] news 20 160 (fun r nw => ∃ l ys, r = .ref l ∧ IntsAre ys TL ∧ nw = (l, LCg.lst ys) :: news ∧ (∀ p ∈ news, p.1 ≠ l)) := by
  subst hL
  exact told2 w news tbl tt x tx t4 hT hx cx
theorem reckoned3 (w : World) (news : List (Addr × Obj)) (ls : List Nat) (y tt : Str) (tw tx : Tok) (TL : List Int) (hy : y = wordOf ls) (hn : 2 ≤ ls.length ∧ ls.length ≤ 4) (hT : tt.length = 4) (hl : Letters tt) (hL : reckonUp (wordOf ls) tt ls.length 4 = TL) :
    Says w 254 [.str y tw, .str tt tx] news 20 160 (fun r nw => ∃ l ys k, r = .ref l ∧ IntsAre ys TL ∧ nw = (l, listOf ys.toArray k) :: news ∧ (∀ p ∈ news, p.1 ≠ l)) := by
  subst hL
  exact reckoned2 w news ls y tt tw tx hy hn hT hl
theorem ellipsis3' (w : World) (news : List (Addr × Obj)) (ls : List Nat) (y tt : Str) (tw tx : Tok) (b : Bool) (hy : y = wantOf ls) (hn : 2 ≤ ls.length ∧ ls.length ≤ 4) (hls : ∀ c ∈ ls, 97 ≤ c ∧ c ≤ 122) (hT : tt.length = 4) (hb : ls.isSublist tt.cps.toList = b) :
    Says w 52 [.str y tw, .str tt tx] news 20 160 (fun r nw => r = .bool b ∧ nw = news) := by
  subst hb
  exact ellipsis_y w news ls y tt tw tx hy hn hls hT
theorem get_all3 (w : World) (news : List (Addr × Obj)) (tbl : Addr) (ps : List (Str × Str)) (x : Str) (tx : Tok) (n : Nat) (hT : Table news tbl ps) (hx : x.length ≤ 1000) (cx : Clean (Txt.lower x)) (hps : ps.length ≤ 1000) (hp1 : ∀ p ∈ ps, p.1.length ≤ 1000) (hL : (hits ps x).length = n) :
    Says w 163 [.ref tbl, .str x tx] news 10 80 (fun r nw => ∃ l ys, r = .ref l ∧ ys.length = n ∧ nw = (l, LCg.lst ys) :: news ∧ (∀ p ∈ news, p.1 ≠ l)) := by
  refine says_mono (get_all w news tbl ps x tx hT hx cx hps hp1) ?_
  rintro r nw ⟨l, ys, e1, hs, e2, hl⟩
  exact ⟨l, ys, e1, hs.length.trans hL, e2, hl⟩
/-- the due sums over the names so far -/
noncomputable def duesOf (tt u v : Str) (xs : List Str) : List Int := (List.range 5).map fun k => ((dueOf tt u v xs k : Nat) : Int)
theorem dues_nil (tt u v : Str) : duesOf tt u v [] = (List.replicate (4 + 1 : Int).toNat [(0 : Int)]).flatten := rfl
@[irreducible] noncomputable def NR (u v : Str) : List Str := namesOf ((LR u v).map (·.1))
theorem NR_eq (u v : Str) : NR u v = namesOf ((LR u v).map (·.1)) := by unfold NR; rfl
@[irreducible] noncomputable def DU (tt u v : Str) (i : Nat) : List Int := duesOf tt u v ((NR u v).take i)
theorem DU_eq (tt u v : Str) (i : Nat) : DU tt u v i = duesOf tt u v ((NR u v).take i) := by unfold DU; rfl
theorem DU_zero (tt u v : Str) : DU tt u v 0 = (List.replicate (4 + 1 : Int).toNat [(0 : Int)]).flatten := by rw [DU_eq, List.take_zero, dues_nil]
theorem DU_len (tt u v : Str) (i : Nat) : (DU tt u v i).length = 5 := by rw [DU_eq]; simp [duesOf]
theorem DU_succ {tt u v x : Str} {i nW : Nat} {TL : List Int} (hx : (NR u v)[i]? = some x) (hn : (hits (LR u v) x).length = nW) (hL : toldL tt x = TL) : DU tt u v (i + 1) = (List.range 5).map fun k => (DU tt u v i).getD k 0 + (nW : Int) * TL.getD k 0 := by
  subst hn hL
  rw [DU_eq, DU_eq]
  unfold duesOf
  apply List.map_congr_left
  intro k hk
  have hk5 := List.mem_range.mp hk
  have e1 : dueOf tt u v ((NR u v).take (i + 1)) k = dueOf tt u v ((NR u v).take i) k + ways u v x * tl tt x k := by
    unfold dueOf
    rw [List.take_add_one, hx]
    simp
  rw [e1, told_tl]
  have e2 : ((List.range 5).map fun k => ((dueOf tt u v ((NR u v).take i) k : Nat) : Int)).getD k 0 = ((dueOf tt u v ((NR u v).take i) k : Nat) : Int) := by simp [List.getD_eq_getElem?_getD, hk5]
  have e3 : ((List.range 5).map fun k => ((tl tt x k : Nat) : Int)).getD k 0 = ((tl tt x k : Nat) : Int) := by simp [List.getD_eq_getElem?_getD, hk5]
  rw [e2, e3, LR_eq]
  unfold ways
  omega
theorem ways_le (u v x : Str) : (hits (LR u v) x).length ≤ 1000 := by
  unfold hits
  rw [List.length_map]
  exact Nat.le_trans (List.length_filter_le _ _) (LR_small u v).1
theorem tl_le (tt x : Str) (k : Nat) : tl tt x k ≤ 16 := by
  unfold tl hitsN
  exact Nat.le_trans (List.length_filter_le _ _) (Nat.le_trans (List.length_filter_le _ _) (by simp))
theorem TL_facts {tt x : Str} {TL : List Int} (hL : toldL tt x = TL) : TL.length = 5 ∧ ∀ k : Nat, 0 ≤ TL.getD k 0 ∧ TL.getD k 0 ≤ 16 := by
  subst hL
  refine ⟨by simp [toldL], fun k => ?_⟩
  rw [told_tl]
  by_cases hk : k < 5
  · have e3 : ((List.range 5).map fun k => ((tl tt x k : Nat) : Int)).getD k 0 = ((tl tt x k : Nat) : Int) := by simp [List.getD_eq_getElem?_getD, hk]
    have := tl_le tt x k
    rw [e3]; omega
  · have e3 : ((List.range 5).map fun k => ((tl tt x k : Nat) : Int)).getD k 0 = 0 := by simp [List.getD_eq_getElem?_getD, hk]
    rw [e3]; omega
theorem TL_sub {tt x : Str} {ls : List Nat} {TL : List Int} (hT : tt.length = 4) (hl : Letters tt) (hx : Txt.lower x = lowOf ls) (hL : toldL tt x = TL) : ls.isSublist tt.cps.toList = decide (0 < TL.getD 4 0) := by
  subst hL
  rw [sub_tl hT hl hx, told_tl]
  have e3 : ((List.range 5).map fun k => ((tl tt x k : Nat) : Int)).getD 4 0 = ((tl tt x 4 : Nat) : Int) := by simp [List.getD_eq_getElem?_getD]
  rw [e3, decide_eq_decide]
  omega
theorem slice_word {x : Str} {ls : List Nat} (e : x = lowOf ls) (h : ∀ c ∈ ls, 97 ≤ c ∧ c ≤ 122) : Txt.replace (Txt.slice x (some 1) none) (Str.ofString ".") (Str.ofString "") = wordOf ls := by
  rw [e, low_slice]; exact tail_word h
theorem slice_want {x : Str} {ls : List Nat} (e : x = lowOf ls) (h : ∀ c ∈ ls, 97 ≤ c ∧ c ≤ 122) : Txt.replace (Txt.slice x (some 1) none) (Str.ofString ".") (Str.ofString "...") ++ Str.ofString "..." = wantOf ls := by
  rw [e, low_slice]; exact tail_want h
/-- the facts of a name of the laid table -/
theorem name_facts {u v x tt : Str} {i : Nat} (hT : tt.length = 4) (hl : Letters tt) (hu : u.length = 2) (hv : v.length = 2) (lu : Letters u) (lv : Letters v) (hx : (NR u v)[i]? = some x) :
    ∃ (ls : List Nat) (TL : List Int) (nW : Nat) (b : Bool), (2 ≤ ls.length ∧ ls.length ≤ 4) ∧ (∀ c ∈ ls, 97 ≤ c ∧ c ≤ 122) ∧ x.length ≤ 1000 ∧ Clean (Txt.lower x) ∧ toldL tt x = TL ∧ reckonUp (wordOf ls) tt ls.length 4 = TL ∧ (hits (LR u v) x).length = nW ∧ nW ≤ 1000 ∧
      ls.isSublist tt.cps.toList = b ∧ b = decide (0 < TL.getD 4 0) ∧ TL.length = 5 ∧ (∀ k : Nat, 0 ≤ TL.getD k 0 ∧ TL.getD k 0 ≤ 16) ∧ Txt.replace (Txt.slice x (some 1) none) (Str.ofString ".") (Str.ofString "") = wordOf ls ∧ Txt.replace (Txt.slice x (some 1) none) (Str.ofString ".") (Str.ofString "...") ++ Str.ofString "..." = wantOf ls ∧ (Txt.replace (Txt.slice x (some 1) none) (Str.ofString ".") (Str.ofString "...")).length + (Str.ofString "...").length ≤ 1000 ∧
      DU tt u v (i + 1) = (List.range 5).map fun k => (DU tt u v i).getD k 0 + (nW : Int) * TL.getD k 0 := by
  have hm : x ∈ namesOf ((laidRows u v 31).map (·.1)) := by
    rw [← LR_eq, ← NR_eq]; exact List.mem_of_getElem? hx
  obtain ⟨ls, e, hn, hls⟩ := law_name hu hv lu lv hm
  have hlow : Txt.lower x = lowOf ls := by rw [e]; exact lower_low' hls
  refine ⟨ls, toldL tt x, (hits (LR u v) x).length, ls.isSublist tt.cps.toList, hn, hls, by rw [e, low_len]; omega, by rw [hlow]; exact low_clean hls, rfl, (told_reck hT hl hlow).symm, rfl, ways_le u v x, rfl, TL_sub hT hl hlow rfl, (TL_facts rfl).1, (TL_facts rfl).2, slice_word e hls, slice_want e hls, by rw [← len_app, slice_want e hls, want_len]; omega, DU_succ hx rfl rfl⟩
theorem two_word {u : Str} (hu : u.length = 2) : u = wordOf [u.cps.getD 0 0, u.cps.getD 1 0] := by
  have hs : u.cps.size = 2 := hu
  have h0 : u.cps.getD 0 0 = u.cps[0]'(by omega) := by simp [Array.getD_eq_getD_getElem?, hs]
  have h1 : u.cps.getD 1 0 = u.cps[1]'(by omega) := by simp [Array.getD_eq_getD_getElem?, hs]
  have e : u.cps = #[u.cps.getD 0 0, u.cps.getD 1 0] := by
    apply Array.ext
    · simp [hs]
    · intro i h2 h3
      have : i = 0 ∨ i = 1 := by omega
      rcases this with rfl | rfl
      · rw [h0]; rfl
      · rw [h1]; rfl
  show u = ⟨_⟩
  cases u with
  | mk c => simp only at e ⊢; rw [← e]
theorem item0 {u : Str} (hu : u.length = 2) : Txt.item u 0 = ⟨#[u.cps.getD 0 0]⟩ := item_at (x := u) (k := 0) (by omega)
theorem item1 {u : Str} (hu : u.length = 2) : Txt.item u 1 = ⟨#[u.cps.getD 1 0]⟩ := item_at (x := u) (k := 1) (by omega)
theorem left_name {u : Str} (hu : u.length = 2) : Str.ofString "c." ++ Txt.item u 0 ++ Str.ofString "." ++ Txt.item u 1 = lowOf [u.cps.getD 0 0, u.cps.getD 1 0] := by
  rw [item0 hu, item1 hu]
  show (⟨#[99, 46] ++ #[u.cps.getD 0 0] ++ #[46] ++ #[u.cps.getD 1 0]⟩ : Str) = _
  rfl
theorem right_name {u : Str} (hu : u.length = 2) : Str.ofString "C." ++ Txt.item u 0 ++ Str.ofString "." ++ Txt.item u 1 = nmOf [u.cps.getD 0 0, u.cps.getD 1 0] := by
  rw [item0 hu, item1 hu]
  show (⟨#[67, 46] ++ #[u.cps.getD 0 0] ++ #[46] ++ #[u.cps.getD 1 0]⟩ : Str) = _
  rfl
theorem two_letters {u : Str} (hu : u.length = 2) (lu : Letters u) : ∀ c ∈ [u.cps.getD 0 0, u.cps.getD 1 0], 97 ≤ c ∧ c ≤ 122 := by
  intro c hc
  simp only [List.mem_cons, List.not_mem_nil, or_false] at hc
  rcases hc with rfl | rfl
  · exact lu 0 (by omega)
  · exact lu 1 (by omega)
theorem end_facts {u tt x : Str} (hT : tt.length = 4) (hl : Letters tt) (hu : u.length = 2) (lu : Letters u) (hlow : Txt.lower x = lowOf [u.cps.getD 0 0, u.cps.getD 1 0]) (hlen : x.length ≤ 1000) :
    ∃ (ls : List Nat) (TL : List Int), u = wordOf ls ∧ (2 ≤ ls.length ∧ ls.length ≤ 4) ∧ x.length ≤ 1000 ∧ Clean (Txt.lower x) ∧ toldL tt x = TL ∧ reckonUp (wordOf ls) tt ls.length 4 = TL ∧ TL.length = 5 ∧ (∀ k : Nat, 0 ≤ TL.getD k 0 ∧ TL.getD k 0 ≤ 16) ∧ Txt.lower x = lowOf [u.cps.getD 0 0, u.cps.getD 1 0] :=
  ⟨_, toldL tt x, two_word hu, ⟨Nat.le_refl 2, by show 2 ≤ 4; decide⟩, hlen, by rw [hlow]; exact low_clean (two_letters hu lu), rfl, (told_reck hT hl hlow).symm, (TL_facts rfl).1, (TL_facts rfl).2, hlow⟩
theorem left_facts {u tt : Str} (hT : tt.length = 4) (hl : Letters tt) (hu : u.length = 2) (lu : Letters u) :
    ∃ (ls : List Nat) (TL : List Int), u = wordOf ls ∧ (2 ≤ ls.length ∧ ls.length ≤ 4) ∧ (Str.ofString "c." ++ Txt.item u 0 ++ Str.ofString "." ++ Txt.item u 1).length ≤ 1000 ∧ Clean (Txt.lower (Str.ofString "c." ++ Txt.item u 0 ++ Str.ofString "." ++ Txt.item u 1)) ∧ toldL tt (Str.ofString "c." ++ Txt.item u 0 ++ Str.ofString "." ++ Txt.item u 1) = TL ∧ reckonUp (wordOf ls) tt ls.length 4 = TL ∧ TL.length = 5 ∧ (∀ k : Nat, 0 ≤ TL.getD k 0 ∧ TL.getD k 0 ≤ 16) ∧ Txt.lower (Str.ofString "c." ++ Txt.item u 0 ++ Str.ofString "." ++ Txt.item u 1) = lowOf [u.cps.getD 0 0, u.cps.getD 1 0] :=
  end_facts hT hl hu lu (by rw [left_name hu]; exact lower_low' (two_letters hu lu)) (by rw [left_name hu, low_len]; show 1 + 2 * 2 ≤ 1000; decide)
theorem right_facts {u tt : Str} (hT : tt.length = 4) (hl : Letters tt) (hu : u.length = 2) (lu : Letters u) :
    ∃ (ls : List Nat) (TL : List Int), u = wordOf ls ∧ (2 ≤ ls.length ∧ ls.length ≤ 4) ∧ (Str.ofString "C." ++ Txt.item u 0 ++ Str.ofString "." ++ Txt.item u 1).length ≤ 1000 ∧ Clean (Txt.lower (Str.ofString "C." ++ Txt.item u 0 ++ Str.ofString "." ++ Txt.item u 1)) ∧ toldL tt (Str.ofString "C." ++ Txt.item u 0 ++ Str.ofString "." ++ Txt.item u 1) = TL ∧ reckonUp (wordOf ls) tt ls.length 4 = TL ∧ TL.length = 5 ∧ (∀ k : Nat, 0 ≤ TL.getD k 0 ∧ TL.getD k 0 ≤ 16) ∧ Txt.lower (Str.ofString "C." ++ Txt.item u 0 ++ Str.ofString "." ++ Txt.item u 1) = lowOf [u.cps.getD 0 0, u.cps.getD 1 0] := by
  refine end_facts hT hl hu lu ?_ (by rw [right_name hu, nm_len]; show 1 + 2 * 2 ≤ 1000; decide)
  rw [right_name hu, lower_nm]
  · congr 1
    simp only [List.map_cons, List.map_nil]
    rw [lo1_low (two_letters hu lu _ (by simp)).1, lo1_low (two_letters hu lu _ (by simp)).1]
  · intro c hc
    have := two_letters hu lu c hc
    omega
theorem eq_led {prog : Program} {w : World} {A : Around} {E : Value → Shared → Prop} {s : Shared} {h₀ : Heap} {L a b : Addr} {news : List (Addr × Obj)} {xs ys : List Value} {ns ms : List Int} {k k2 : Nat} {Q : Value → Shared → Prop} (N : News h₀ L s.heap news)
    (hm : (a, W.listOf xs.toArray k) ∈ news) (hm2 : (b, W.listOf ys.toArray k2) ∈ news) (hi : IntsAre xs ns) (hj : IntsAre ys ms) (hu : A.units + 64 < cLine) (he : ns = ms) (h : Q (.bool true) s) : wpAny (model prog w) A (compareOp .Eq (.ref a) (.ref b)) Q E s :=
  ke_eq_ints ⟨_, (N _ hm).1, rfl, _, rfl⟩ ⟨_, (N _ hm2).1, rfl, _, rfl⟩ hi hj hu (by subst he; simpa using h)
/-- the end: the due sums are the products -/
theorem DU_end {tt u v : Str} (hT : tt.length = 4) (hl : Letters tt) (hu : u.length = 2) (hv : v.length = 2) (lu : Letters u) (lv : Letters v) {x y : Str} (hx : Txt.lower x = lowOf [u.cps.getD 0 0, u.cps.getD 1 0]) (hy : Txt.lower y = lowOf [v.cps.getD 0 0, v.cps.getD 1 0]) {i : Nat} (hi : (NR u v).length ≤ i) {TL TR : List Int} (hL : toldL tt x = TL) (hR : toldL tt y = TR) :
    DU tt u v i = (List.range 5).map fun k => TL.getD k 0 * TR.getD k 0 := by
  subst hL hR
  rw [DU_eq, List.take_of_length_le hi, NR_eq, LR_eq]
  unfold duesOf
  apply List.map_congr_left
  intro k hk
  have hk5 := List.mem_range.mp hk
  rw [due_law hT hl hu hv lu lv hx hy hk5, told_tl, told_tl]
  have e3 : ∀ x, ((List.range 5).map fun k => ((tl tt x k : Nat) : Int)).getD k 0 = ((tl tt x k : Nat) : Int) := by intro x; simp [List.getD_eq_getElem?_getD, hk5]
  rw [e3, e3]
  omega
section
variable {prog : Program} {w : World} {A : Around} {E : Value → Shared → Prop} {s : Shared} {h₀ : Heap} {L : Addr} {m : Str → Option Value} {news : List (Addr × Obj)} {x : Str} {t : Tok} {value slice : Expr} {Q : Value → Shared → Prop}
theorem post_ge {c : Prop} [Decidable c] {y z : Str} (h : (if c then y else z).length ≤ sizeLine ∧ ∀ t' k, s.toks ≤ k → Q (.str (if c then y else z) t') { s with toks := k }) :
    (if c then Made.val (.str y t) else Made.str z).post Q s := by
  by_cases hc : c
  · rw [if_pos hc]; have h' := h.2 t s.toks (Nat.le_refl _); rw [if_pos hc] at h'; exact h'
  · rw [if_neg hc]; have h' := h.2 s.toks (s.toks + 1) (Nat.le_succ _); have h1 := h.1; rw [if_neg hc] at h' h1; exact ⟨h1, h'⟩
/-- a text's end from a place on; the counter of tokens does not go back -/
theorem slice_ge {i : Int} {ui : Tok} (hF : Fr h₀ L s.heap m) (hN : News h₀ L s.heap news) (h : ∀ h' t' k, s.toks ≤ k → Fr h₀ L h' m → News h₀ L h' news → Q (.str (Txt.slice x (some i) none) t') { s with heap := h', toks := k })
    (hs : subscripted slice false (.str x t) (.ref s.heap.objs.size) = operate [.ref s.heap.objs.size, .str x t] (getItem (.str x t) (.ref s.heap.objs.size)) := by with_unfolding_all rfl)
    (ht : ∀ r, letTemporaryGo value (.str x t) r = pure () := by intro _; with_unfolding_all rfl) (hsz : x.length ≤ sizeLine := by size_fits) :
    wpAny (model prog w) A (subscriptTail value slice (.str x t) (.ref s.heap.objs.size)) Q E { s with heap := s.heap.push { cls := .type "slice", data := .fields #[.int i ui, .none, .none] } } :=
  tail_of_ItemOn ⟨"str", _, PySem.F.slot_str_getitem.lookup, typeIs_str _ _ _, wpAny_getItem_str_slice (l := some (i, ui)) (u := none) (st := none) ⟨_, Heap.get?_push_size _ rfl, rfl, rfl⟩ rfl
    (post_ge ⟨Nat.le_trans (Txt.slice_le x _ _) hsz, fun t' k hk => h _ t' k hk (hF.push _) (fun p hp => ⟨Heap.get?_push_of_some _ (hN p hp).1, (hN p hp).2⟩)⟩)⟩ hs ht
end
section
variable {prog : Program} {w : World} {A : Around} {E : Value → Shared → Prop} {s : Shared} {h₀ : Heap} {L : Addr} {m : Str → Option Value} {env : Env}
noncomputable def MySrc (prog : Program) (w : World) (A : Around) (h₀ : Heap) (L : Addr) (m : Str → Option Value) (env : Env) (elt : Expr) (x : Str) (scope : Scope) (cl : List (Str × Addr)) (Fin : Shared → List Value → List (Addr × Obj) → Prop) (xv : Value) (s₁ : Shared) : Prop :=
  LCg.CompSrc prog w A h₀ L m env elt x scope cl Fin xv s₁
theorem comp_my {elt iter : Expr} {x : Str} {px : Pos} {scope : Scope} {cl : List (Str × Addr)} {pos : Pos} {Q : Value → Shared → Prop} (F₀ : Fr h₀ L s.heap m)
    (hclos : closureFor scope env = pure cl) (hcell : ∀ y ∈ scope.names, y.2 ≠ .cell) (hkind : scope.kind = .function)
    (hnames : ∀ y ∈ scope.names, y.2 = .local → scope.names.lookup y.1 = some .local) (hx : scope.names.lookup x = some .local)
    (h : wpAny (model prog w) A (eval iter env) (MySrc prog w A h₀ L m env elt x scope cl (fun s₂ => LCg.FinE h₀ L m s₂ Q)) E s)
    (hs : ∀ x, foldedSetIterable iter env x = pure x := by intro _; rfl) :
    wpAny (model prog w) A (eval (.ListComp elt [⟨.Name x px, iter, [], 0⟩] scope pos) env) Q E s := LCg.ListComp_U F₀ hclos hcell hkind hnames hx h hs
theorem item_ints_led {news : List (Addr × Obj)} {a : Addr} {ys : List Value} {ns : List Int} {kd : Nat} {k : Int} {u : Tok} {value slice : Expr} {Q : Value → Shared → Prop} (N : News h₀ L s.heap news) (hm : (a, W.listOf ys.toArray kd) ∈ news) (hi : IntsAre ys ns) (h0 : 0 ≤ k) (hk : k < 5) (h5 : ns.length = 5)
    (h : ∀ t, Q (.int (ns.getD k.toNat 0) t) s)
    (hs : subscripted slice false (.ref a) (.int k u) = operate [.ref a, .int k u] (getItem (.ref a) (.int k u)) := by with_unfolding_all rfl)
    (ht : ∀ r, letTemporaryGo value (.ref a) r = pure () := by intro _; with_unfolding_all rfl) :
    wpAny (model prog w) A (subscriptTail value slice (.ref a) (.int k u)) Q E s := by
  have hl : k.toNat < ys.length := by rw [hi.length, h5]; omega
  have hv : ys[k.toNat]? = some ys[k.toNat] := List.getElem?_eq_getElem hl
  obtain ⟨q, t, e, hq⟩ := hi.at k.toNat _ hv
  have e2 : ns.getD k.toNat 0 = q := by rw [List.getD_eq_getElem?_getD, hq]; rfl
  rw [e2] at h
  have hls : s.heap.IsList a ys.toArray := ⟨_, (N _ hm).1, rfl, kd, rfl⟩
  rw [e] at hv
  exact item_list hls h0 (by omega) (by simpa using hv) (h t) hs ht
end
end Mine
end
section
open PySem PySem.W PyProof.Rows
set_option Elab.async false
namespace Mine
local macro_rules | `(tactic| walk_at "subscriptTail Name Slice str ref") => `(tactic| ((with_reducible show wpAny _ _ (subscriptTail _ (Expr.Slice (some _) none none _) _ _) _ _ _); (with_reducible rename Fr _ _ _ _ => F'); (with_reducible rename News _ _ _ _ => N'); (refine slice_ge (hsz := ?hsz) (s := ⟨_, _, _, _, _⟩) F' N' ?_); (case hsz => (rw [PySem.sizeLine_eq]; omega)); intro h8 t8 k8 g8 F8 N8; (dsimp only at g8)))
local macro_rules | `(tactic| walk_at "call builtin:str.replace") => `(tactic| (k_here; (with_reducible show wpAny _ _ (call (Value.builtin "str.replace") [Value.str (Txt.slice _ _ _) _, Value.str _ _, Value.str _ _]) _ _ _); (refine SC.replaceW (by (show @Ne Nat _ _); omega) (by (show @Ne Nat _ _); omega) (by (show @Ne Nat _ _); omega) (by decide) (Nat.le_trans (Txt.slice_le _ _ _) (by omega)) (by decide) ?_); intro _ _))
local macro_rules | `(tactic| walk_at "binaryOp Add str str") => `(tactic| (k_here; (with_reducible show wpAny _ _ (binaryOp _ (Value.str (Txt.replace _ _ _) _) _) _ _ _); (refine add_str ?_ (fits_1000 (by assumption))); intro t' tk'))
local macro_rules | `(tactic| walk_at "compareOp Eq ref ref") => `(tactic| (k_here; k_dflt (refine' eq_led ?k1 ?k2 ?k3 ?k4 ?k5 ?k6 ?k7 ?_; (case k1 => k_asm); (case k2 => k_mem); (case k3 => k_mem); (case k4 => assumption); (case k5 => assumption); (case k6 => k_units); (case k7 => assumption))))
local macro_rules | `(tactic| walk_at "compareOp NotEq ref ref") => `(tactic| (k_here; k_dflt (refine' ne_led ?k1 ?k2 ?k3 ?k4 ?k5 ?k6 rfl ?_; (case k1 => k_asm); (case k2 => k_mem); (case k3 => k_mem); (case k4 => assumption); (case k5 => assumption); (case k6 => k_units))))
local macro_rules | `(tactic| walk_at "call ref") => `(tactic| (k_here; (with_reducible show wpAny _ _ (call (.ref 247) _) _ _ _); k_dflt (refine' sB (S := told3 _ _ _ _ _ _ _ _ ?w1 (by k_asm) (by k_asm) (by k_asm)) (ret := ?_); (case w1 => ((repeat refine Table.cons ?_); assumption))); intro h9 tk9 l9 ys9 F9 N9 hs9 hl9; (try dsimp only); (try k_fold)))
local macro_rules | `(tactic| walk_at "call ref") => `(tactic| (k_here; (with_reducible show wpAny _ _ (call (.ref 254) _) _ _ _); k_dflt (refine' sC (S := reckoned3 _ _ _ _ _ _ _ _ (by k_asm) (by k_asm) (by k_asm) (by k_asm) (by k_asm)) (ret := ?_)); intro h9 tk9 l9 ys9 k9 F9 N9 hs9 hl9; (try dsimp only); (try k_fold)))
local macro_rules | `(tactic| walk_at "call ref") => `(tactic| (k_here; (with_reducible show wpAny _ _ (call (.ref 52) _) _ _ _); k_dflt (refine' sD (S := ellipsis3' _ _ _ _ _ _ _ _ (by k_asm) (by k_asm) (by k_asm) (by k_asm) (by k_asm)) (ret := ?_)); intro h9 tk9 F9 N9; (try dsimp only); (try k_fold)))
local macro_rules | `(tactic| walk_at "call ref") => `(tactic| (k_here; (with_reducible show wpAny _ _ (call (.ref 163) _) _ _ _); k_dflt (refine' sB (S := get_all3 _ _ _ _ _ _ _ ?w1 (by k_asm) (by k_asm) (by assumption) (by assumption) (by k_asm)) (ret := ?_); (case w1 => ((repeat refine Table.cons ?_); assumption))); intro h9 tk9 l9 ys9 F9 N9 hs9 hl9; (try dsimp only); (try k_fold)))
local macro_rules | `(tactic| walk_at "call ref") => `(tactic| (k_here; (with_reducible show wpAny _ _ (call (.ref 59) _) _ _ _); k_dflt (refine' sI (S := add_two _ _ _ _ _ _) (ret := ?_)); intro h9 tk9 tk8 F9 N9; (try dsimp only); (try k_fold)))
local macro_rules | `(tactic| walk_at "call ref") => `(tactic| (k_here; (with_reducible show wpAny _ _ (call (.ref 80) _) _ _ _); k_dflt (refine' sI (S := mul_two _ _ _ _ _ _ (by first | exact Int.natCast_nonneg _ | exact bound_lo (by assumption) _) (by first | exact cast_le (by assumption) | exact bound_hi (by assumption) _)) (ret := ?_)); intro h9 tk9 tk8 F9 N9; (try dsimp only); (try k_fold)))
local macro_rules | `(tactic| walk_at "eval ListComp") => `(tactic| (k_here; k_dflt (refine comp_my (F₀ := by k_asm) (by with_unfolding_all rfl) (by decide) (by rfl) (by decide) (by rfl) ?_)))
local macro_rules | `(tactic| walk_at "subscriptTail Name Name ref int") => `(tactic| (k_here; k_dflt (refine' item_ints_led ?k1 ?k2 ?k3 ?k4 ?k5 ?k6 ?_; (case k1 => k_asm); (case k2 => k_mem); (case k3 => assumption); (case k4 => omega); (case k5 => omega); (case k6 => first | assumption | exact DU_len _ _ _ _)); intro t8))
local macro_rules | `(tactic| k_ne) => `(tactic| (refine neN ?_; (try dsimp only); first | exact Nat.ne_of_lt (lt_k1 _) | exact Nat.ne_of_gt (lt_k1 _) | exact Nat.ne_of_lt (lt_k2 _) | exact Nat.ne_of_gt (lt_k2 _) | exact Nat.ne_of_lt (lt_k3 _) | exact Nat.ne_of_gt (lt_k3 _) | exact Nat.ne_of_lt (lt_k4 _) | exact Nat.ne_of_gt (lt_k4 _) | exact ne_by (by assumption) (by k_mem) | exact Ne.symm (ne_by (by assumption) (by k_mem)) | omega))
local macro_rules | `(tactic| k_mem) => `(tactic| first | assumption | exact List.mem_cons_self | (refine List.mem_cons_of_mem _ ?_; k_mem))
local macro_rules | `(tactic| walk_at "call builtin:len") => `(tactic| (k_here; refine len_four (by assumption) ?_))
local macro_rules | `(tactic| walk_at "call builtin:len") => `(tactic| (k_here; (with_reducible show wpAny _ _ (call (Value.builtin "len") [Value.ref _]) _ _ _); k_dflt (refine' len_ledn ?k1 ?k2 ?k3 ?k4 ?_; (case k1 => k_asm); (case k2 => k_mem); (case k3 => assumption); (case k4 => assumption))))
local macro_rules | `(tactic| walk_at "call ref") => `(tactic| (k_here; (with_reducible show wpAny _ _ (call (.ref 235) _) _ _ _); k_dflt (refine su (S := filed2 _ _ _ _ (by assumption) (by assumption)) (ret := ?_)); intro r9 nw9 h9 tk9 F9 N9 hP9; obtain ⟨tb9, ds9, e8, e9, hT9, ho9⟩ := hP9; subst e8; subst e9; obtain ⟨wd9, N8, hT8, hs8, hc1, hc2, hc3, hc4, hc5⟩ := regroup N9 ho9 hT9 (by assumption) (by assumption) (by assumption) (by assumption) (by assumption); clear N9 hT9 ho9; (try dsimp only); (try k_fold)))
local macro_rules | `(tactic| walk_at "call ref") => `(tactic| (k_here; (with_reducible show wpAny _ _ (call (.ref 242) _) _ _ _); k_dflt (refine su (S := laid2 _ _ _ _ _ _ (by assumption) (by assumption) (by assumption) (by assumption)) (ret := ?_)); intro r9 nw9 h9 tk9 F9 N9 hP9; obtain ⟨tb9, ds9, e8, e9, hT9, ho9⟩ := hP9; subst e8; subst e9; obtain ⟨wd9, N8, hT8, hs8, hc1, hc2, hc3, hc4, hc5⟩ := regroup N9 ho9 hT9 (by assumption) (by assumption) (by assumption) (by assumption) (by assumption); clear N9 hT9 ho9; (try dsimp only); (try k_fold)))
local macro_rules | `(tactic| walk_at "call ref") => `(tactic| (k_here; (with_reducible show wpAny _ _ (call (.ref 261) _) _ _ _); k_dflt (refine' sC (S := names _ _ _ _ ?w1 (by assumption) (by assumption)) (ret := ?_); (case w1 => ((repeat refine Table.cons ?_); assumption))); intro h9 tk9 l9 ys9 k9 F9 N9 hs9 hl9; (try dsimp only); (try k_fold)))
noncomputable def HJ (u v tt : Str) (tu tv t0 : Tok) (tf tlb nl L : Addr) (zs : List Value) (k : Nat) (wd : List (Addr × Obj)) (i : Nat) (m₁ : Str → Option Value) (news₁ : List (Addr × Obj)) : Prop :=
  m₁ (Str.ofString "text") = some (.str tt t0) ∧ m₁ (Str.ofString "u") = some (.str u tu) ∧ m₁ (Str.ofString "v") = some (.str v tv) ∧ m₁ (Str.ofString "filed") = some (.ref tf) ∧ m₁ (Str.ofString "laid") = some (.ref tlb) ∧ (∃ ts, m₁ (Str.ofString "size") = some (.int 4 ts)) ∧
    ∃ dl ys kd c1 c2 c3 c4 c5, news₁ = (nl, W.listOf (List.toArray zs) k) :: (dl, W.listOf (List.toArray ys) kd) :: (L + 1 + 1 + 1 + 1 + 1, c5) :: (L + 1 + 1 + 1 + 1, c4) :: (L + 1 + 1 + 1, c3) :: (L + 1 + 1, c2) :: (L + 1, c1) :: wd ∧
      c1.data = .cell (some (.ref dl)) ∧ (∃ x, c2.data = .cell x) ∧ (∃ x, c3.data = .cell x) ∧ (∃ x, c4.data = .cell x) ∧ (∃ x, c5.data = .cell x) ∧ IntsAre ys (DU tt u v i) ∧
      (∀ p ∈ cellsOf L, p.1 ≠ dl)
set_option maxRecDepth 100000 in
set_option maxHeartbeats 8000000 in
theorem holds (w : World) (news : List (Addr × Obj)) (tt u v : Str) (t0 tu tv : Tok) (hT : tt.length = 4) (hl : Letters tt) (hu : u.length = 2) (hv : v.length = 2) (lu : Letters u) (lv : Letters v) :
    Says w 266 [.str tt t0, .str u tu, .str v tv] news 60 480 (fun r _ => r = .bool true) := by
  obtain ⟨hps, hp1⟩ := LR_small u v
  unfold Says PR
  w_top off
  k_fill
  intro mean mg mb dp un gd cn cs a ccd cl outer A₀ base h₀ L m s Q E B F X N T hk hdp hun hret
  refine wpAny_call ?_
  k_dflt (refine' code_defC ?k1 ?k2 ?k3 ?k4 ?k5 ?kA ?kF ?kK ?k6 ?k7 ?k8 ?k9 ?kB ?kD ?_ ?c2 ?c3 ?c4; (case kA => exact rfl); (case kF => exact rfl); (case kK => assumption); (case k1 => k_asm); (case k2 => k_asm); (case k3 => k_asm); (case k4 => k_asm); (case k5 => k_asm); (case k6 => k_is); (case k7 => k_is); (case k8 => ktr_room); (case k9 => exact BindsTo.of_eq rfl); (case kB => exact rfl); (case kD => decide +kernel); (case c2 => exact rfl); (case c3 => exact rfl); (case c4 => exact rfl); k_whole; intro g' L' h' tk' cells' FG' F' N' Y' B' X' T' l1; (try k_lt l1); k_cells Y'; (try simp only [List.cons_append, List.nil_append] at N'); (try dsimp only); (try k_lift B'); (try k_fold))
  obtain ⟨hn1, hn2, hn3, hn4, hn5⟩ := off_cells l1
  k_steps
  rename Fr _ _ _ _ => F9
  rename News _ _ _ ((_, _) :: (_, _) :: (_, _) :: _) => N9
  rename Strs _ _ => hs9
  rw [← NR_eq] at hs9
  rename Table _ _ (FR tt) => hTf0
  rename Table _ _ (LR u v) => hTl
  obtain ⟨tf, rfl⟩ := tbl_name hTf0
  obtain ⟨tlb, rfl⟩ := tbl_name hTl
  obtain ⟨nl, dl, wd, zs, k, rfl, rfl, rfl, rfl, rfl, N8⟩ := name10 N9
  rename ∀ p ∈ (dl, _) :: _, p.1 ≠ nl => hl9
  rename ∀ (t : Addr) (r : List (Str × Str)), Table _ t r → Table wd t r => hs8
  have hTf := hs8 _ _ hTf0
  have hnl := cells_of (fun p hp => hl9 p (List.mem_cons_of_mem _ (List.mem_cons_of_mem _ hp)))
  rename _ < dl ∧ L' + 1 + 1 + 1 + 1 + 1 < dl ∧ _ < dl ∧ _ < dl ∧ _ < dl ∧ _ < dl ∧ AllLt dl wd => q1
  have hdl0 := cells_off (Nat.ne_of_lt q1.2.1) (Nat.ne_of_lt q1.2.2.1) (Nat.ne_of_lt q1.2.2.2.1) (Nat.ne_of_lt q1.2.2.2.2.1) (Nat.ne_of_lt q1.2.2.2.2.2.1)
  clear hl9 hTf0 hs8
  unfold MyIter
  refine list_loop (lo := W.listOf (List.toArray zs) k) (vs := zs) (k := k) (HJ u v tt tu tv t0 tf tlb nl L' zs k wd) rfl rfl ?_ F9 N8 ?_ ?_ ?_
  · rintro i m₁ news₁ ⟨_, _, _, _, _, _, _, _, _, _, _, _, _, _, rfl, _⟩
    exact List.mem_cons_self
  · refine ⟨rfl, rfl, rfl, rfl, rfl, ⟨_, rfl⟩, dl, _, 0, _, _, _, _, _, rfl, ?_, ⟨_, by assumption⟩, ⟨_, by assumption⟩, ⟨_, by assumption⟩, ⟨_, by assumption⟩, ?_, hdl0⟩
    · assumption
    · rw [DU_zero]; assumption
  · rintro i vv m₁ news₁ h tk I o hvv hI ⟨j1, j2, j3, j4, j5, ⟨ts, j6⟩, dl₂, ys, kd, c1, c2, c3, c4, c5, rfl, e1, ⟨x2, e2⟩, ⟨x3, e3⟩, ⟨x4, e4⟩, ⟨x5, e5⟩, hys, hdl⟩ F₁ N₁
    obtain ⟨px, tp, hpx, rfl⟩ := hs9.get (i := i) (v := vv) hvv
    replace F₁ := frame_put (Str.ofString "text") F₁ (by (repeat (refine (if_neg (by decide)).trans ?_)); exact j1)
    replace F₁ := frame_put (Str.ofString "filed") F₁ (by (repeat (refine (if_neg (by decide)).trans ?_)); exact j4)
    replace F₁ := frame_put (Str.ofString "laid") F₁ (by (repeat (refine (if_neg (by decide)).trans ?_)); exact j5)
    replace F₁ := frame_put (Str.ofString "size") F₁ (by (repeat (refine (if_neg (by decide)).trans ?_)); exact j6)
    replace F₁ := frame_put (Str.ofString "u") F₁ (by (repeat (refine (if_neg (by decide)).trans ?_)); exact j2)
    replace F₁ := frame_put (Str.ofString "v") F₁ (by (repeat (refine (if_neg (by decide)).trans ?_)); exact j3)
    clear F9 N9 N8 q1 hdl0
    obtain ⟨ls, TL, nW, b, hn, hls, lpx, cpx, hTL, hRK, hnW, nW1, hsb, hbv, TL5, TLb, hword, hwant, hwl, hDU⟩ := name_facts hT hl hu hv lu lv hpx
    have hTl' := hTl
    obtain ⟨lst2, d2, its2, n2', hh2, kt2, dn2, g1, g2, g3, _⟩ := hTl'
    k_steps
    · exfalso
      rename (b != _) = true => hbad
      have e4 : decide (0 < TL.getD (Int.toNat 4) 0) = b := hbv.symm
      rw [e4] at hbad
      simp at hbad
    rename Fr _ _ _ _ => F9
    rename News _ _ _ _ => N9
    rename IsRange _ _ _ _ _ _ _ _ => R9
    unfold MySrc
    refine LCg.CompSrc.range (n := 5) rfl F9 N9 R9 (by decide) (by decide) (by rw [PySem.sizeLine_eq]; decide) ?_
    intro g9
    refine rest_ind 5 (fun j qs => IntsAre qs ((List.range j).map fun k => (DU tt u v i).getD k 0 + (nW : Int) * TL.getD k 0)) trivial ?_ ?_ 5 0 [] rfl .nil
    · clear F9 N9 R9
      intro j qs hj hqs v9 I₂ oI C oC D m₂ h₂ tk₂ E' hP hC hx₂ F' N' off ne
      obtain ⟨t9, rfl⟩ := hP
      k_steps
      rw [to_nat0]
      exact MyCE.intro (by k_asm) (by k_asm) (map_snoc (f := fun k => (DU tt u v i).getD k 0 + (nW : Int) * TL.getD k 0) hqs)
    · intro qs hqs
      clear F9 N9 R9
      k_steps
      rename Fr _ _ _ _ => F9
      rename News _ _ _ _ => N9
      rename @Ne Nat _ _ ∧ @Ne Nat _ _ ∧ @Ne Nat _ _ ∧ @Ne Nat I _ ∧ _ => o9
      refine MyTurn.next F9 (pick_turn N9) (turn_off hI o9.2.2.2.1) ⟨rfl, rfl, rfl, rfl, rfl, ⟨_, rfl⟩, _, qs, qs.length, _, _, _, _, _, rfl, by assumption, ⟨_, by assumption⟩, ⟨_, by assumption⟩, ⟨_, by assumption⟩, ⟨_, by assumption⟩, by rw [hDU]; exact hqs, cells_off o9.2.2.2.2.2.2.1 o9.2.2.2.2.2.2.2.1 o9.2.2.2.2.2.2.2.2.1 o9.2.2.2.2.2.2.2.2.2.1 o9.2.2.2.2.2.2.2.2.2.2.1⟩
  · rintro m₁ news₁ h tk ⟨j1, j2, j3, j4, j5, ⟨ts, j6⟩, dl₂, ys, kd, c1, c2, c3, c4, c5, rfl, e1, ⟨x2, e2⟩, ⟨x3, e3⟩, ⟨x4, e4⟩, ⟨x5, e5⟩, hys, hdl⟩ F₁ N₁
    replace F₁ := frame_put (Str.ofString "text") F₁ j1
    replace F₁ := frame_put (Str.ofString "filed") F₁ (by (repeat (refine (if_neg (by decide)).trans ?_)); exact j4)
    replace F₁ := frame_put (Str.ofString "laid") F₁ (by (repeat (refine (if_neg (by decide)).trans ?_)); exact j5)
    replace F₁ := frame_put (Str.ofString "size") F₁ (by (repeat (refine (if_neg (by decide)).trans ?_)); exact j6)
    replace F₁ := frame_put (Str.ofString "u") F₁ (by (repeat (refine (if_neg (by decide)).trans ?_)); exact j2)
    replace F₁ := frame_put (Str.ofString "v") F₁ (by (repeat (refine (if_neg (by decide)).trans ?_)); exact j3)
    clear F9 N9 N8 q1 hdl0
    obtain ⟨lsu, TLu, hwu, hnu, hlu1, hcu, hTLu, hRKu, hTu5, hTub, hlowu⟩ := left_facts (u := u) hT hl hu lu
    obtain ⟨lsv, TLv, hwv, hnv, hlv1, hcv, hTLv, hRKv, hTv5, hTvb, hlowv⟩ := right_facts (u := v) hT hl hv lv
    have hEnd := DU_end hT hl hu hv lu lv hlowu hlowv (i := zs.length) (Nat.le_of_eq hs9.length.symm) hTLu hTLv
    clear hlowu hlowv
    k_steps
    rename Fr _ _ _ _ => F9
    rename News _ _ _ _ => N9
    rename IsRange _ _ _ _ _ _ _ _ => R9
    unfold MySrc
    refine LCg.CompSrc.range (n := 5) rfl F9 N9 R9 (by decide) (by decide) (by rw [PySem.sizeLine_eq]; decide) ?_
    intro g9
    refine rest_ind 5 (fun j qs => IntsAre qs ((List.range j).map fun k => TLu.getD k 0 * TLv.getD k 0)) trivial ?_ ?_ 5 0 [] rfl .nil
    · clear F9 N9 R9
      intro j qs hj hqs v9 I₂ oI C oC D m₂ h₂ tk₂ E' hP hC hx₂ F' N' off ne
      obtain ⟨t9, rfl⟩ := hP
      k_steps
      rw [to_nat0]
      exact MyCE.intro (by k_asm) (by k_asm) (map_snoc (f := fun k => TLu.getD k 0 * TLv.getD k 0) hqs)
    · intro qs hqs
      clear F9 N9 R9
      k_steps
      exact hret _ _ _ _ (by k_asm) (by k_asm) rfl
end Mine
end
end
section
open PySem PySem.W PyProof.Rows
set_option Elab.async false
namespace Mine
theorem row_facts {ws : List Value} {a : List Int} (h : IntsAre ws (List.take 8 (a ++ [0, 0, 0, 0, 0, 0, 0, 0]))) : ∃ (vs : List Value) (R : List Int), vs = ws ∧ IntsAre vs R ∧ R.length = 8 := ⟨ws, _, rfl, h, by simp⟩
theorem pick_row {g h : Heap} {L D x1 x2 x3 x4 c2 c1 : Addr} {oD o1 o2 o3 o4 p2 p1 : Obj} (N : News g L h [(D, oD), (x1, o1), (x2, o2), (x3, o3), (x4, o4), (c2, p2), (c1, p1)]) :
    ∃ D', D' = D ∧ News g L h [(D', oD), (c2, p2), (c1, p1)] := ⟨D, rfl, fun p hp => N p (by
  simp only [List.mem_cons, List.not_mem_nil, or_false] at hp ⊢
  rcases hp with h | h | h <;> simp [h])⟩
section
variable {prog : Program} {w : World} {A : Around} {E : Value → Shared → Prop} {s : Shared} {h₀ : Heap} {L : Addr} {m : Str → Option Value}
theorem item_ints_8 {news : List (Addr × Obj)} {a : Addr} {ys : List Value} {ns : List Int} {kd : Nat} {k : Int} {u : Tok} {value slice : Expr} {Q : Value → Shared → Prop} (N : News h₀ L s.heap news) (hm : (a, W.listOf ys.toArray kd) ∈ news) (hi : IntsAre ys ns) (h0 : 0 ≤ k) (hk : k < 8) (h5 : ns.length = 8)
    (h : ∀ t, Q (.int (ns.getD k.toNat 0) t) s)
    (hs : subscripted slice false (.ref a) (.int k u) = operate [.ref a, .int k u] (getItem (.ref a) (.int k u)) := by with_unfolding_all rfl)
    (ht : ∀ r, letTemporaryGo value (.ref a) r = pure () := by intro _; with_unfolding_all rfl) :
    wpAny (model prog w) A (subscriptTail value slice (.ref a) (.int k u)) Q E s := by
  have hl : k.toNat < ys.length := by rw [hi.length, h5]; omega
  have hv : ys[k.toNat]? = some ys[k.toNat] := List.getElem?_eq_getElem hl
  obtain ⟨q, t, e, hq⟩ := hi.at k.toNat _ hv
  have e2 : ns.getD k.toNat 0 = q := by rw [List.getD_eq_getElem?_getD, hq]; rfl
  rw [e2] at h
  have hls : s.heap.IsList a ys.toArray := ⟨_, (N _ hm).1, rfl, kd, rfl⟩
  rw [e] at hv
  exact item_list hls h0 (by omega) (by simpa using hv) (h t) hs ht
theorem item_strs_3 {news : List (Addr × Obj)} {a : Addr} {ys : List Value} {ns : List Str} {kd : Nat} {k : Int} {u : Tok} {value slice : Expr} {Q : Value → Shared → Prop} (N : News h₀ L s.heap news) (hm : (a, W.listOf ys.toArray kd) ∈ news) (hi : Strs ys ns) (h0 : 0 ≤ k) (hk : k < 3) (h5 : ns.length = 3)
    (h : ∀ t, Q (.str (ns.getD k.toNat ⟨#[]⟩) t) s)
    (hs : subscripted slice false (.ref a) (.int k u) = operate [.ref a, .int k u] (getItem (.ref a) (.int k u)) := by with_unfolding_all rfl)
    (ht : ∀ r, letTemporaryGo value (.ref a) r = pure () := by intro _; with_unfolding_all rfl) :
    wpAny (model prog w) A (subscriptTail value slice (.ref a) (.int k u)) Q E s := by
  have hl : k.toNat < ys.length := by rw [hi.length, h5]; omega
  have hv : ys[k.toNat]? = some ys[k.toNat] := List.getElem?_eq_getElem hl
  obtain ⟨q, t, hq, e⟩ := hi.get hv
  have e2 : ns.getD k.toNat ⟨#[]⟩ = q := by rw [List.getD_eq_getElem?_getD, hq]; rfl
  rw [e2] at h
  have hls : s.heap.IsList a ys.toArray := ⟨_, (N _ hm).1, rfl, kd, rfl⟩
  rw [e] at hv
  exact item_list hls h0 (by omega) (by simpa using hv) (h t) hs ht
end
/-- a list of texts of one letter each -/
noncomputable def Lets (j : Nat) (qs : List Value) : Prop := ∃ cs : List Nat, cs.length = j ∧ (∀ c ∈ cs, 97 ≤ c ∧ c ≤ 122) ∧ Strs qs (cs.map fun c => (⟨#[c]⟩ : Str))
theorem Lets.nil : Lets 0 [] := ⟨[], rfl, (fun _ h => nomatch h), trivial⟩
theorem Lets.snoc {j : Nat} {qs : List Value} {v : Value} (h : Lets j qs) (hv : ∃ c t, v = .str ⟨#[c]⟩ t ∧ 97 ≤ c ∧ c ≤ 122) : Lets (j + 1) (qs ++ [v]) := by
  obtain ⟨cs, h1, h2, h3⟩ := h
  obtain ⟨c, t, e, hc⟩ := hv
  refine ⟨cs ++ [c], by simp [h1], ?_, ?_⟩
  · intro x hx
    rcases List.mem_append.mp hx with hx | hx
    · exact h2 x hx
    · rw [List.mem_singleton.mp hx]; exact hc
  · rw [List.map_append]
    exact Strs.snoc ⟨t, e⟩ h3
theorem chr_letter (z : Int) : 97 ≤ (97 + z.fmod 26).toNat ∧ (97 + z.fmod 26).toNat ≤ 122 := by
  rw [Int.fmod_eq_emod_of_nonneg _ (by decide)]
  omega
theorem mod3_lo (z : Int) : 0 ≤ z.fmod 3 := by rw [Int.fmod_eq_emod_of_nonneg _ (by decide)]; omega
theorem mod3_hi (z : Int) : z.fmod 3 < 3 := by rw [Int.fmod_eq_emod_of_nonneg _ (by decide)]; omega
theorem get_let {cs : List Nat} (h3 : cs.length = 3) (hc : ∀ c ∈ cs, 97 ≤ c ∧ c ≤ 122) (z : Int) (t : Tok) : ∃ c t', Value.str ((cs.map fun c => (⟨#[c]⟩ : Str)).getD (z.fmod 3).toNat ⟨#[]⟩) t = .str ⟨#[c]⟩ t' ∧ 97 ≤ c ∧ c ≤ 122 := by
  have h1 := mod3_lo z
  have h2 := mod3_hi z
  have hk : (z.fmod 3).toNat < cs.length := by omega
  refine ⟨cs[(z.fmod 3).toNat], t, ?_, hc _ (List.getElem_mem hk)⟩
  rw [List.getD_eq_getElem?_getD, List.getElem?_map, List.getElem?_eq_getElem hk]
  rfl
theorem fold_letters : ∀ (cs : List Nat) (acc : Array Nat), (cs.map fun c => (⟨#[c]⟩ : Str)).foldl (fun acc p => acc ++ (⟨#[]⟩ : Str).cps ++ p.cps) acc = acc ++ cs.toArray
  | [], acc => by simp
  | c :: r, acc => by
    rw [List.map_cons, List.foldl_cons, fold_letters r]
    simp
theorem join_letters (cs : List Nat) : Txt.join ⟨#[]⟩ (cs.map fun c => (⟨#[c]⟩ : Str)) = ⟨cs.toArray⟩ := by
  show Builtin.Str.glued ⟨#[]⟩ (cs.map fun c => (⟨#[c]⟩ : Str)) = ⟨cs.toArray⟩
  unfold Builtin.Str.glued
  cases cs with
  | nil => rfl
  | cons c r =>
    rw [List.map_cons, List.drop_succ_cons, List.drop_zero, fold_letters]
    show (⟨#[c] ++ r.toArray⟩ : Str) = _
    simp
theorem letters_list {l : List Nat} (h : ∀ c ∈ l, 97 ≤ c ∧ c ≤ 122) : Letters ⟨l.toArray⟩ := by
  intro i hi
  have hi' : i < l.length := by simpa [Str.length] using hi
  have e : (⟨l.toArray⟩ : Str).cps.getD i 0 = l[i] := by simp [Array.getD_eq_getD_getElem?, hi']
  rw [e]
  exact h _ (List.getElem_mem hi')
theorem slice_mid {l : List Nat} {a b : Nat} (hab : a ≤ b) (hb : b ≤ l.length) (hne : b - a ≠ l.length) : Txt.slice ⟨l.toArray⟩ (some (a : Int)) (some (b : Int)) = ⟨((l.drop a).take (b - a)).toArray⟩ := by
  have hlen : (⟨l.toArray⟩ : Str).length = l.length := by simp [Str.length]
  have e2 := PySem.StrLaws.sliced_plain ⟨l.toArray⟩ (a := a) (b := b) hab (by rw [hlen]; exact hb)
  unfold Txt.slice
  rw [hlen]
  rw [hlen] at e2
  rw [if_neg, e2]
  rw [PySem.StrLaws.strSliceIndices_plain hab hb]
  simp [hne]
theorem slice_lo {x : Str} {j : Option Int} : Txt.slice x none j = Txt.slice x (some 0) j := by
  unfold Txt.slice; rw [PySem.StrLaws.sliceIdx_none_lo]
theorem slice_hi {x : Str} {j : Option Int} : Txt.slice x j none = Txt.slice x j (some (x.length : Int)) := by
  unfold Txt.slice; rw [PySem.StrLaws.sliceIdx_none_hi]
theorem cut_facts {X : Str} (h8 : X.length = 8) (hl : Letters X) : ((Txt.slice X none (some 4)).length = 4 ∧ Letters (Txt.slice X none (some 4))) ∧ ((Txt.slice X (some 4) (some 6)).length = 2 ∧ Letters (Txt.slice X (some 4) (some 6))) ∧ ((Txt.slice X (some 6) none).length = 2 ∧ Letters (Txt.slice X (some 6) none)) := by
  obtain ⟨l, rfl⟩ : ∃ l : List Nat, X = ⟨l.toArray⟩ := ⟨X.cps.toList, by cases X; simp⟩
  have h8' : l.length = 8 := by simpa [Str.length] using h8
  have hc : ∀ c ∈ l, 97 ≤ c ∧ c ≤ 122 := by
    intro c hc
    obtain ⟨i, hi, rfl⟩ := List.getElem_of_mem hc
    have := hl i (by rw [h8]; omega)
    have e : (⟨l.toArray⟩ : Str).cps.getD i 0 = l[i] := by simp [Array.getD_eq_getD_getElem?, hi]
    rwa [e] at this
  have sub : ∀ a n, ∀ c ∈ (l.drop a).take n, 97 ≤ c ∧ c ≤ 122 := fun a n c h => hc c (List.mem_of_mem_drop (List.mem_of_mem_take h))
  have s1 : Txt.slice ⟨l.toArray⟩ none (some 4) = ⟨((l.drop 0).take (4 - 0)).toArray⟩ := by
    rw [slice_lo]; exact slice_mid (a := 0) (b := 4) (by omega) (by omega) (by omega)
  have s2 : Txt.slice ⟨l.toArray⟩ (some 4) (some 6) = ⟨((l.drop 4).take (6 - 4)).toArray⟩ := slice_mid (a := 4) (b := 6) (by omega) (by omega) (by omega)
  have s3 : Txt.slice ⟨l.toArray⟩ (some 6) none = ⟨((l.drop 6).take (8 - 6)).toArray⟩ := by
    rw [slice_hi, h8]; exact slice_mid (a := 6) (b := 8) (by omega) (by omega) (by omega)
  rw [s1, s2, s3]
  refine ⟨⟨by simp [Str.length, h8'], letters_list (sub _ _)⟩, ⟨by simp [Str.length, h8'], letters_list (sub _ _)⟩, ⟨by simp [Str.length, h8'], letters_list (sub _ _)⟩⟩
section
variable {prog : Program} {w : World} {A : Around} {E : Value → Shared → Prop} {s : Shared} {h₀ : Heap} {L : Addr}
theorem join_led {news : List (Addr × Obj)} {a : Addr} {qs : List Value} {t : Tok} {Q : Value → Shared → Prop} (N : News h₀ L s.heap news) (hm : (a, LCg.lst qs) ∈ news) (hL : Lets 8 qs)
    (h : ∀ X t' k, X.length = 8 → Letters X → Q (.str X t') { s with toks := k }) : wpAny (model prog w) A (call (.builtin "str.join") [.str (Str.ofString "") t, .ref a]) Q E s := by
  obtain ⟨cs, h8, hc, hs⟩ := hL
  have hsum : ((cs.map fun c => (⟨#[c]⟩ : Str)).map (·.length)).sum = cs.length := by
    clear hs hc h8
    induction cs with
    | nil => rfl
    | cons c r ih => rw [List.map_cons, List.map_cons, List.sum_cons, ih, List.length_cons]; show 1 + _ = _; omega
  refine PyProof.Rows.join_list (items := qs.toArray) (ys := cs.map fun c => (⟨#[c]⟩ : Str)) ⟨_, (N _ hm).1, rfl, _, rfl⟩ (Strs.are hs) ?_ ?_
  · rw [hsum, h8, List.length_map, h8]
    show 8 + 8 * 0 ≤ _
    decide
  · intro t' k
    have e : Txt.join (Str.ofString "") (cs.map fun c => (⟨#[c]⟩ : Str)) = ⟨cs.toArray⟩ := join_letters cs
    rw [e]
    exact h _ _ _ (by simp [Str.length, h8]) (letters_list hc)
end
end Mine
end
section
open PySem PySem.W PyProof.Rows
set_option Elab.async false
namespace Mine
local macro_rules | `(tactic| walk_at "subscriptTail BinOp") => `(tactic| (k_here; k_dflt (refine kba_turn (value' := PySem.Expr.Name (PySem.Str.ofString "_") ⟨0, 0, 0, 0⟩) (fun _ => rfl) ?_)))
local macro_rules | `(tactic| walk_at "eval ListComp Call") => `(tactic| (k_here; k_dflt (refine comp_my (F₀ := by k_asm) (by with_unfolding_all rfl) (by decide) (by rfl) (by decide) (by rfl) ?_)))
local macro_rules | `(tactic| walk_at "eval ListComp Subscript") => `(tactic| (k_here; k_dflt (refine comp_my (F₀ := by k_asm) (by with_unfolding_all rfl) (by decide) (by rfl) (by decide) (by rfl) ?_)))
local macro_rules | `(tactic| k_mem) => `(tactic| first | assumption | exact List.mem_cons_self | (refine List.mem_cons_of_mem _ ?_; k_mem))
local macro_rules | `(tactic| walk_at "subscriptTail Name Name ref int") => `(tactic| (k_here; k_dflt (refine' item_ints_8 ?w1 ?w2 ?w3 ?w4 ?w5 ?w6 ?_; (case w1 => k_asm); (case w2 => k_mem); (case w3 => assumption); (case w4 => omega); (case w5 => omega); (case w6 => assumption)); intro t8))
local macro_rules | `(tactic| walk_at "subscriptTail Name BinOp ref int") => `(tactic| (k_here; k_dflt (refine' item_strs_3 ?w1 ?w2 ?w3 (mod3_lo _) (mod3_hi _) ?w6 ?_; (case w1 => k_asm); (case w2 => k_mem); (case w3 => assumption); (case w6 => assumption)); intro t8))
local macro_rules | `(tactic| walk_at "call builtin:str.join") => `(tactic| (k_here; k_dflt (refine' join_led ?w1 ?w2 ?w3 ?_; (case w1 => k_asm); (case w2 => k_mem); (case w3 => assumption)); intro X8 t8 k8 hX8 hlX8; (have hcut8 := cut_facts hX8 hlX8); (obtain ⟨⟨hc4, hl4⟩, ⟨hc2, hl2⟩, ⟨hd2, hm2⟩⟩ := hcut8)))
local macro_rules | `(tactic| walk_at "call ref") => `(tactic| (k_here; (with_reducible show wpAny _ _ (call (.ref 266) _) _ _ _); k_dflt (refine su (S := holds _ _ _ _ _ _ _ _ (by k_asm) (by k_asm) (by k_asm) (by k_asm) (by k_asm) (by k_asm)) (ret := ?_)); intro r9 nw9 h9 tk9 F9 N9 hP9; subst hP9; (try dsimp only); (try k_fold)))
set_option maxRecDepth 100000 in
set_option maxHeartbeats 8000000 in
theorem lawful : PySem.Challenge.rw_wo0059_01.Holds := Mine.hd (by
  k_go0
  (all_goals try k_fold)
  k_steps
  rename Fr _ _ _ _ => F9
  rename News _ _ _ _ => N9
  rename IsRange _ _ _ _ _ _ _ _ => R9
  rename IntsAre _ (List.take 8 (_ ++ [0, 0, 0, 0, 0, 0, 0, 0])) => hR0
  obtain ⟨ws, R, rfl, hR, hR8⟩ := row_facts hR0
  clear hR0
  obtain ⟨Dr, rfl, N8⟩ := pick_row N9
  unfold MySrc
  refine LCg.CompSrc.range (n := 3) rfl F9 N8 R9 (by decide) (by decide) (by rw [PySem.sizeLine_eq]; decide) ?_
  intro g9
  refine rest_ind 3 (fun j qs => Lets j qs) trivial ?_ ?_ 3 0 [] rfl Lets.nil
  · clear F9 N9 N8 R9
    intro j qs hj hqs v9 I₂ oI C oC D m₂ h₂ tk₂ E' hP hC hx₂ F' N' off ne
    obtain ⟨t9, rfl⟩ := hP
    k_steps
    refine MyCE.intro (by k_asm) (by k_asm) ?_
    exact hqs.snoc ⟨_, _, rfl, chr_letter _⟩
  · intro qs hqs
    clear F9 N9 N8 R9
    obtain ⟨cs, hc3, hcl, hst⟩ := hqs
    have hL3 : (cs.map fun c => (⟨#[c]⟩ : Str)).length = 3 := by rw [List.length_map]; exact hc3
    k_steps
    rename Fr _ _ _ _ => F9
    rename News _ _ _ _ => N9
    rename IsRange _ _ _ _ _ _ _ _ => R9
    unfold MySrc
    refine LCg.CompSrc.range (n := 8) rfl F9 N9 R9 (by decide) (by decide) (by rw [PySem.sizeLine_eq]; decide) ?_
    intro g9
    refine rest_ind 8 (fun j qs => Lets j qs) trivial ?_ ?_ 8 0 [] rfl Lets.nil
    · clear F9 N9 R9
      intro j qs hj hqs v9 I₂ oI C oC D m₂ h₂ tk₂ E' hP hC hx₂ F' N' off ne
      obtain ⟨t9, rfl⟩ := hP
      k_steps
      exact MyCE.intro (by k_asm) (by k_asm) (hqs.snoc (get_let hc3 hcl _ _))
    · intro qs hqs
      clear F9 N9 R9
      k_steps)
end Mine
end
theorem PySem.Challenge.cw_wo0059_01_holds : PySem.Challenge.rw_wo0059_01.Holds :=
  Mine.lawful
