import PyProof.Rows.All
import Wide.All
import OpenK.AllK
import Wide.FinOn
import PySem.Builtin.Re_Pattern.W2All
import PySem.Builtin.List.W0All
import PySem.Builtin.Tuple.W0All
import PyProof.ListIndexNeg
import PySem.Builtin.Re_Match.W2All
import Lean
import PySem.Challenge.RW_yf0024_01
open PySem PySem.W PySem.Spec PySem.Calls PyProof.Rows
set_option Elab.async false
set_option maxHeartbeats 40000000
set_option maxRecDepth 100000
set_option pp.maxSteps 60
set_option compiler.extract_closed false
set_option rowWalk.seconds 0
namespace Mine
open_top hd for PySem.Challenge.rw_yf0024_01
theorem top_off : True := by
  w_top off
  trivial
noncomputable abbrev P0 : Program := PySem.Challenge.rw_yf0024_01.row.prog
noncomputable abbrev loose0 : List Str := looseW Mine.hd.view_39 [Str.ofString "Flags", Str.ofString "_name_disallowed_re", Str.ofString "_value_disallowed_re"]
section
section
open PySem.Builtin PySem.Builtin.Re
section
variable {prog : Program} {w : World} {A : Around} {E : Value → Shared → Prop} {s : Shared}

theorem call_slot {T : String} {name : Str} {id : String} {B : Builtin} {self : Value} {rest : List Value} {Q : Value → Shared → Prop} (slot : Slot T name id) (hT : s.TypeIs self T)
    (entry : entryFor table id = some B) (args : argsOk id ⟨self :: rest, []⟩)
    (h : wpAny (model prog w) A.in1 (B ⟨self :: rest, []⟩) (fun fin s' => ∃ v, fin = .done (.ret v) ∧ Q v s') E s) :
    wpAny (model prog w) A (call (.builtin id) (self :: rest)) Q E s :=
  wpAny_call (codeAny_call_builtin slot.plain entry (slot.check _ _ _ _ _ _ _ _ hT args
    (wpAny_mono h (fun fin s' h' => by obtain ⟨v, rfl, hv⟩ := h'; exact hv) fun _ _ h' => h')))

theorem reNamed_one (id f : String) (v : Value) : reNamed id f ["string", "pos", "endpos"] 1 [v] [] = pure [some v, none, none] := by
  rfl

theorem runFor_done : ∀ (n : Nat) (m : Sre.M), m.outcome.isSome = true → m.runFor n = m
  | 0, _, _ => rfl
  | n + 1, m, h => by unfold Sre.M.runFor; rw [if_pos h]
theorem runFor_add : ∀ (a b : Nat) (m : Sre.M), m.runFor (a + b) = (m.runFor a).runFor b
  | 0, b, m => by rw [Nat.zero_add]; rfl
  | a + 1, b, m => by
    by_cases h : m.outcome.isSome = true
    · rw [runFor_done _ m h, runFor_done _ m h, runFor_done _ m h]
    · rw [Nat.add_right_comm]
      show (if m.outcome.isSome = true then m else Sre.M.runFor (a + b) m.step) = (if m.outcome.isSome = true then m else Sre.M.runFor a m.step).runFor b
      rw [if_neg h, if_neg h, runFor_add a b]

theorem wp_reDrive {Q : Sre.M → Shared → Prop} : ∀ (k turns : Nat) (m : Sre.M), k < turns → (m.runFor (4 * (k + 1))).outcome.isSome = true → Q (m.runFor (4 * (k + 1))) s → wpAny (model prog w) A (reDrive turns m) Q E s
  | k, 0, m, hk, _, _ => absurd hk (Nat.not_lt_zero _)
  | k, turns + 1, m, hk, ho, hQ => by
    show wpAny (model prog w) A (if (m.runFor 4).outcome.isSome then pure (m.runFor 4) else do rule "sre.turn"; reDrive turns (m.runFor 4)) Q E s
    cases h4 : (m.runFor 4).outcome.isSome with
    | true =>
      have e : m.runFor (4 * (k + 1)) = m.runFor 4 := by
        rw [show 4 * (k + 1) = 4 + 4 * k from by omega, runFor_add, runFor_done _ _ h4]
      rw [e] at hQ
      simpa using wpAny_pure hQ
    | false =>
      simp only [Bool.false_eq_true, if_false]
      cases k with
      | zero => rw [show 4 * (0 + 1) = 4 from rfl, h4] at ho; cases ho
      | succ k =>
        have e : m.runFor (4 * (k + 1 + 1)) = (m.runFor 4).runFor (4 * (k + 1)) := by
          rw [show 4 * (k + 1 + 1) = 4 + 4 * (k + 1) from by omega, runFor_add]
        rw [e] at ho hQ
        exact wpAny_bind (wpAny_rule (wp_reDrive k turns _ (by omega) ho hQ))

theorem wp_reRunToEnd {Q : Option Sre.M → Shared → Prop} (k : Nat) (m : Sre.M) (hk : k < 2 ^ 64) (o : Sre.Outcome) (ho : (m.runFor (4 * (k + 1))).outcome = some o)
    (hm : o = .matched → Q (some (m.runFor (4 * (k + 1)))) s) (hf : o = .failed → Q none s) (hs : ∀ why, o ≠ .stuck why) : wpAny (model prog w) A (reRunToEnd m) Q E s := by
  unfold reRunToEnd
  refine wpAny_bind (wp_reDrive k _ m hk (by rw [ho]; rfl) ?_)
  generalize m.runFor (4 * (k + 1)) = M at *
  refine wpAny_bind (wpAny_forIn_list _ (fun _ _ s' => s' = s) _ (fun x rest b s' e => ?_) (fun b s' e => ?_) _ _ rfl)
  · subst e
    split
    · exact wpAny_bind (wpAny_rule (wpAny_pure rfl))
    · exact wpAny_pure rfl
  · subst e
    rw [ho]
    cases o with
    | matched => exact wpAny_pure (hm rfl)
    | failed => exact wpAny_pure (hf rfl)
    | stuck why => exact absurd rfl (hs why)

structure PatAt (h : Heap) (a : Addr) (code : Array Nat) : Prop where
  at_ : ∃ vs c items n dd sl oc, h.get? a = some ⟨.type "re.Pattern", none, .fields vs, sl⟩ ∧ vs.getD 6 .none = .int 0 0 ∧ vs.getD 5 .none = .ref c ∧
    h.get? c = some ⟨oc, dd, .seq items n, #[]⟩ ∧ (items.map reRawOf).map (·.toNat) = code

theorem notIn_all {m : Sre.M} (hall : ∀ p, p < m.lim → ∀ seen, ∃ seen', Sre.inSet m.code (m.text.getD p 0) m.code.size 5 true seen = .ok (false, seen')) :
    ∀ (fuel s : Nat) (seen : Sre.Seen), ∃ seen', Sre.M.admitted m fuel s seen = .ok (none, seen')
  | 0, s, seen => ⟨seen, rfl⟩
  | fuel + 1, s, seen => by
    unfold Sre.M.admitted
    by_cases h : s ≥ m.lim
    · rw [if_pos h]; exact ⟨_, rfl⟩
    · rw [if_neg h]
      obtain ⟨seen', e⟩ := hall s (by omega) seen
      rw [e]
      exact notIn_all hall fuel (s + 1) seen'

theorem wp_reTarget_str {a : Addr} {code : Array Nat} {y : Str} {t : Tok} {id f : String} {Q : ReTarget → Shared → Prop} (P : PatAt s.heap a code) (hy : y.length ≤ sizeLine)
    (h : ∀ g, Q { pattern := .ref a, string := .str y t, code, text := y.cps, kind := 0, groups := g, pos := 0, lim := y.cps.size } s) :
    wpAny (model prog w) A (reTarget id f ⟨[.ref a, .str y t], []⟩) Q E s := by
  obtain ⟨vs, c, items, n, dd, sl, oc, ha, h6, h5, hc, hcode⟩ := P.at_
  unfold reTarget
  refine wpAny_bind ?_
  rw [reNamed_one]
  refine wpAny_pure (wpAny_bind (wpAny_pure (wpAny_bind (wpAny_pure ?_))))
  refine wpAny_bind ?_
  show wpAny _ _ (do let o ← load a; match o.data with | .fields vs => pure vs | _ => unsupported "internal:no-fields") _ _ _
  refine wpAny_bind (wpAny_load ha (wpAny_pure ?_))
  refine wpAny_bind (wpAny_pure ?_)
  dsimp only
  rw [h6, h5]
  show wpAny _ _ (do reNoCollectionInside (Value.str y t) 0; let x ← reRawItems (Value.ref c); pure (ReTarget.mk (.ref a) (.str y t) (Array.map (fun x => x.toNat) x) y.cps 0 (reRawNat (vs.getD 2 Value.none)) (min (Int.toNat 0) y.cps.size) (min (Int.toNat (2 ^ 63 - 1)) y.cps.size))) _ _ _
  refine wpAny_bind (wpAny_pure (wpAny_bind ?_))
  show wpAny _ _ (do let x ← (do let o ← load c; match o.data with | .seq xs _ => pure (some xs) | _ => pure none); pure ((x.getD #[]).map reRawOf)) _ _ _
  refine wpAny_bind (wpAny_bind (wpAny_load hc (wpAny_pure (wpAny_pure (wpAny_pure ?_)))))
  have hl : y.cps.size ≤ 2 ^ 24 := hy
  have e1 : min (Int.toNat 0) y.cps.size = 0 := by simp
  have e2 : min (Int.toNat (2 ^ 63 - 1)) y.cps.size = y.cps.size := by omega
  show Q (ReTarget.mk (.ref a) (.str y t) (Array.map (fun x => x.toNat) (Array.map reRawOf items)) y.cps 0 (reRawNat (vs.getD 2 Value.none)) (min (Int.toNat 0) y.cps.size) (min (Int.toNat (2 ^ 63 - 1)) y.cps.size)) s
  rw [e1, e2, hcode]
  exact h _

def ClnC (code : Array Nat) (c : Nat) : Prop := ∀ seen, ∃ seen', Sre.inSet code c code.size 5 true seen = .ok (false, seen')
def Cln (code : Array Nat) (y : Str) : Prop := ∀ c ∈ y.cps.toList, ClnC code c

def codeN : Array Nat := #[14, 10, 4, 1, 1, 22, 0, 31, 16, 127, 0, 13, 7, 22, 0, 31, 16, 127, 0, 1]
def codeV : Array Nat := #[14, 14, 4, 1, 1, 9, 4294966783, 0, 0, 2147483648, 0, 0, 0, 0, 0, 13, 11, 9, 4294966783, 0, 0, 2147483648, 0, 0, 0, 0, 0, 1]

theorem said_false (m : Sre.M) (h1 : m.outcome = none) (h2 : m.frames = []) (h3 : m.answer = some false) : (m.runFor 4).outcome = some .failed := by
  unfold Sre.M.runFor
  rw [h1]
  simp only [Option.isSome_none, Bool.false_eq_true, if_false]
  have e : m.step.outcome = some .failed := by
    unfold Sre.M.step
    rw [h1, h2, h3]
    rfl
  rw [runFor_done _ _ (by rw [e]; rfl)]
  exact e

theorem search_fails {code : Array Nat} {y : Str} (hc : code = codeN ∨ code = codeV) (h : Cln code y) (g : Nat) :
    ((Sre.forSearch code y.cps g 0 y.cps.size false).runFor 4).outcome = some .failed := by
  have key : ∀ m : Sre.M, m.code = code → m.text = y.cps → m.lim = y.cps.size → m.outcome = none → m.frames = [] → m.hasFirstSet = true → ((m.attemptFrom 0 true).runFor 4).outcome = some .failed := by
    intro m e1 e2 e3 e4 e5 e7
    obtain ⟨seen', e⟩ := notIn_all (m := m) (fun p hp seen => by
      rw [e1, e2]
      rw [e3] at hp
      refine h _ ?_ seen
      simp [Array.getD, hp]) (m.lim + 1 - 0) 0 m.seen
    unfold Sre.M.attemptFrom
    rw [e7, e]
    exact said_false _ e4 e5 rfl
  rcases hc with rfl | rfl
  all_goals
    unfold Sre.forSearch
    dsimp only
    split
    · exact said_false _ rfl rfl rfl
    · exact key _ rfl rfl rfl rfl rfl rfl

theorem search_none {a : Addr} {code : Array Nat} {y : Str} {t : Tok} {Q : Value → Shared → Prop} (P : PatAt s.heap a code) (hc : code = codeN ∨ code = codeV) (hy : y.length ≤ sizeLine) (h : Cln code y)
    (hQ : Q .none s) : wpAny (model prog w) A (call (.builtin "re.Pattern.search") [.ref a, .str y t]) Q E s := by
  have hT : s.TypeIs (.ref a) "re.Pattern" := by
    obtain ⟨vs, c, items, n, dd, sl, oc, ha, _⟩ := P.at_
    exact ⟨_, ha, rfl⟩
  refine call_slot (T := "re.Pattern") (name := "search") (B := Builtin.«re.Pattern.search») ?_ hT ?_ ?_ ?_
  · exact .of (owner := "re.Pattern") (n := "search") (by rw [typeLookup_type, builtinLookup_eq_fast]; kernel_rfl) (by decide +kernel) (by decide +kernel) (by decide +kernel)
      (by first | exact .inl (by decide +kernel) | exact .inr (by decide +kernel)) (by rw [isSubtype_type]; kernel_rfl)
  · exact entryFor_of_tree (by kernel_rfl)
  · unfold argsOk; kernel_rfl
  · unfold Builtin.«re.Pattern.search»
    refine wpAny_bind (wp_reTarget_str P hy fun g => ?_)
    unfold reAnswer
    refine wpAny_bind (wp_reRunToEnd 0 _ (by decide) .failed (search_fails hc h g) (fun e => by cases e) (fun _ => wpAny_pure ⟨_, rfl, hQ⟩) (fun _ e => by cases e))

theorem slot_search : Slot "re.Pattern" "search" "re.Pattern.search" := .of (owner := "re.Pattern") (n := "search") (by rw [typeLookup_type, builtinLookup_eq_fast]; kernel_rfl) (by decide +kernel) (by decide +kernel) (by decide +kernel)
      (by first | exact .inl (by decide +kernel) | exact .inr (by decide +kernel)) (by rw [isSubtype_type]; kernel_rfl)
theorem slot_match : Slot "re.Pattern" "match" "re.Pattern.match" := .of (owner := "re.Pattern") (n := "match") (by rw [typeLookup_type, builtinLookup_eq_fast]; kernel_rfl) (by decide +kernel) (by decide +kernel) (by decide +kernel)
      (by first | exact .inl (by decide +kernel) | exact .inr (by decide +kernel)) (by rw [isSubtype_type]; kernel_rfl)
theorem type_search : typeOf (.builtin "re.Pattern.search") = pure (.type "method_descriptor") := by show builtinType _ = _; rw [builtinType_eq_fast]; kernel_rfl
theorem type_match : typeOf (.builtin "re.Pattern.match") = pure (.type "method_descriptor") := by show builtinType _ = _; rw [builtinType_eq_fast]; kernel_rfl
theorem plain_pat : PlainAttrs "re.Pattern" :=
  ⟨⟨"object.__getattribute__", by rw [typeLookup_type, builtinLookup_eq_fast]; kernel_rfl, by decide +kernel⟩, by rw [typeLookup_type, builtinLookup_eq_fast]; kernel_rfl⟩
theorem PatAt.obj {h : Heap} {a : Addr} {code : Array Nat} (P : PatAt h a code) : ∃ vs sl, h.get? a = some ⟨.type "re.Pattern", none, .fields vs, sl⟩ := by
  obtain ⟨vs, c, items, n, dd, sl, oc, ha, _⟩ := P.at_
  exact ⟨vs, sl, ha⟩
theorem getM_search {a : Addr} {code : Array Nat} {pl : Sem Bool} {Q : Value × List Value → Shared → Prop} (P : PatAt s.heap a code) (h : Q (.builtin "re.Pattern.search", [.ref a]) s) :
    wpAny (model prog w) A (getMethod (.ref a) (Str.ofString "search") pl) Q E s := by
  obtain ⟨vs, sl, ha⟩ := P.obj
  exact getMethod_builtin ⟨_, ha, rfl⟩ plain_pat slot_search type_search (fun b e => by cases e; exact ⟨_, ha, rfl⟩) h
theorem getM_match {a : Addr} {code : Array Nat} {pl : Sem Bool} {Q : Value × List Value → Shared → Prop} (P : PatAt s.heap a code) (h : Q (.builtin "re.Pattern.match", [.ref a]) s) :
    wpAny (model prog w) A (getMethod (.ref a) (Str.ofString "match") pl) Q E s := by
  obtain ⟨vs, sl, ha⟩ := P.obj
  exact getMethod_builtin ⟨_, ha, rfl⟩ plain_pat slot_match type_match (fun b e => by cases e; exact ⟨_, ha, rfl⟩) h
end

def codeF : Array Nat := #[14, 4, 0, 8, 4294967295, 24, 5, 0, 4294967295, 2, 1, 16, 70, 16, 76, 16, 65, 16, 71, 16, 83, 16, 32, 16, 40, 17, 0, 24, 6, 0, 4294967295, 20, 41, 1, 17, 1, 16, 41, 1]
def patLook (K : Frag) (a : Addr) : Option (Array Nat) := match K.lookup a with
  | some ⟨.type "re.Pattern", none, .fields vs, _⟩ => match vs.getD 6 .none, vs.getD 5 .none with
    | .int 0 0, .ref c => match K.lookup c with
      | some ⟨_, _, .seq items _, ⟨[]⟩⟩ => some ((items.map reRawOf).map (·.toNat))
      | _ => none
    | _, _ => none
  | _ => none
theorem pat_look {K : Frag} {h : Heap} (X : K.In h) {a : Addr} {code : Array Nat} (e : patLook K a = some code) : PatAt h a code := by
  unfold patLook at e
  split at e
  · rename_i vs sl ho
    split at e
    · rename_i c h6 h5
      split at e
      · rename_i oc dd items n hc
        cases e
        exact ⟨⟨vs, c, items, n, dd, sl, oc, X _ _ ho, h6, h5, X _ _ hc, rfl⟩⟩
      · cases e
    · cases e
  · cases e
theorem pat_69 {P : Params} {h : Heap} (X : (Mine.hd.heap_39 P).In h) : PatAt h 69 codeN := pat_look X (by kernel_rfl)
theorem pat_74 {P : Params} {h : Heap} (X : (Mine.hd.heap_39 P).In h) : PatAt h 74 codeV := pat_look X (by kernel_rfl)

/-- the flags: five kinds, small or great letters -/
def fs (x : Fin 5) (u : Bool) : Str := ⟨match x.val, u with
  | 0, false => #[97] | 0, true => #[65] | 1, false => #[97, 98] | 1, true => #[65, 66] | 2, false => #[92, 97] | 2, true => #[92, 65]
  | 3, false => #[98] | 3, true => #[66] | _, false => #[98, 97] | _, true => #[66, 65]⟩
/-- a line: n blanks, a tab and two blanks -/
def pad (n : Nat) : Str := ⟨(List.replicate n 32 ++ [9, 32, 32]).toArray⟩

theorem cln_fs (x : Fin 5) (u : Bool) : Cln codeN (fs x u) := by
  have h : ∀ c ∈ (fs x u).cps.toList, c = 65 ∨ c = 66 ∨ c = 92 ∨ c = 97 ∨ c = 98 := by revert x u; decide
  intro c hc seen
  rcases h c hc with rfl | rfl | rfl | rfl | rfl <;> exact ⟨_, rfl⟩
theorem cln_pad (n : Nat) : Cln codeV (pad n) := by
  intro c hc seen
  have h : c = 32 ∨ c = 9 := by
    simp only [pad, List.mem_append, List.mem_replicate, List.mem_cons, List.not_mem_nil, or_false] at hc
    omega
  rcases h with rfl | rfl <;> exact ⟨_, rfl⟩
end
section
/-- what a call of the text's def asks of where it stands, and gives back -/
abbrev CkClaim (w : World) (mean : ExcName → Option Value) (mg mb : Str → Option Value) (D : Nat) (f : Addr) (news : List (Addr × Obj)) (vs : List Value) (kw : List (Str × Value)) (Post : Value → List (Addr × Obj) → Prop) : Prop :=
  ∀ (dp un : Nat) (gd : Option (List Code)) (cn : Str) (cs : Scope) (a : Addr) (ccd : Value) (cl : List (Str × Addr)) (outer : List Env) (A₀ : Around) (base h₀ : Heap) (L : Addr) (m : Str → Option Value) (s : Shared) (Q E : Value → Shared → Prop),
    Below A₀ base outer h₀ → Fr h₀ L s.heap m → (Mine.hd.heap_39 w.params).In h₀ → News h₀ L s.heap news → Top Mine.hd.view_39 loose0 mean mg mb h₀ → cs.kind = .function → 
    dp + D < recursionLimit → un + 8 * D < cLine → (∀ v h' tk' news', Fr h₀ L h' m → News h₀ L h' news' → Post v news' → Q v { s with heap := h', toks := tk' }) →
      wpAny (model P0 w) (ktrTop dp un gd cn cs L a ccd cl outer) (call (.ref f) vs kw) Q E s
theorem ck_use {w : World} {mean : ExcName → Option Value} {mg mb : Str → Option Value} {D : Nat} {f : Addr} {news : List (Addr × Obj)} {vs : List Value} {kw : List (Str × Value)} {Post : Value → List (Addr × Obj) → Prop}
    {dp un : Nat} {gd : Option (List Code)} {cn : Str} {cs : Scope} {a : Addr} {ccd : Value} {cl : List (Str × Addr)} {outer : List Env} {A₀ : Around} {base h₀ : Heap} {L : Addr} {m : Str → Option Value} {s : Shared} {Q E : Value → Shared → Prop}
    (c : CkClaim w mean mg mb D f news vs kw Post) (B : Below A₀ base outer h₀) (F : Fr h₀ L s.heap m) (X : (Mine.hd.heap_39 w.params).In h₀) (N : News h₀ L s.heap news) (T : Top Mine.hd.view_39 loose0 mean mg mb h₀) (hk : cs.kind = .function)
    (hd : dp + D < recursionLimit) (hu : un + 8 * D < cLine) (k : ∀ v h' tk' news', Fr h₀ L h' m → News h₀ L h' news' → Post v news' → Q v { s with heap := h', toks := tk' }) :
    wpAny (model P0 w) (ktrTop dp un gd cn cs L a ccd cl outer) (call (.ref f) vs kw) Q E s := c _ _ _ _ _ _ _ _ _ _ _ _ _ _ _ _ _ B F X N T hk hd hu k
theorem pat_69F {P : Params} {h₀ h : Heap} {L : Addr} {m : Str → Option Value} (F : Fr h₀ L h m) (X : (Mine.hd.heap_39 P).In h₀) : PatAt h 69 codeN := pat_69 (X.keeps F.keep)
theorem pat_74F {P : Params} {h₀ h : Heap} {L : Addr} {m : Str → Option Value} (F : Fr h₀ L h m) (X : (Mine.hd.heap_39 P).In h₀) : PatAt h 74 codeV := pat_74 (X.keeps F.keep)

abbrev KV := Fin 5 × Bool × Nat
abbrev tupO (x : Fin 5) (u : Bool) (n : Nat) (t t' : Tok) : Obj := { cls := .type "tuple", data := .seq #[.str (fs x u) t, .str (pad n) t'] }
/-- the list's items are tuples of a flag and a line, borne by the ledger -/
inductive Rows (news : List (Addr × Obj)) : List Value → List KV → Prop
  | nil : Rows news [] []
  | cons {a : Addr} {x : Fin 5} {u : Bool} {n : Nat} {t t' : Tok} {items : List Value} {kvs : List KV} (h : (a, tupO x u n t t') ∈ news) (r : Rows news items kvs) : Rows news (.ref a :: items) ((x, u, n) :: kvs)
theorem Rows.mono {news news' : List (Addr × Obj)} (hs : ∀ p ∈ news, p ∈ news') {items : List Value} {kvs : List KV} (h : Rows news items kvs) : Rows news' items kvs := by
  induction h with
  | nil => exact .nil
  | cons h _ ih => exact .cons (hs _ h) ih
/-- a Headers of the text's: its list l holds the rows kvs -/
inductive HdrAt (w : World) (news : List (Addr × Obj)) (x l : Addr) (kvs : List KV) : Prop
  | mk (dx : Addr) (th : Tok) (n k : Nat) (items : List Value) (h1 : (x, instObj 197 dx) ∈ news) (h2 : (dx, dictOf [⟨PyData.keyHash w.params (Str.ofString "_headers"), .str (Str.ofString "_headers") th, .ref l⟩] n) ∈ news)
    (h3 : (l, listOf (List.toArray items) k) ∈ news) (h4 : Rows news items kvs) : HdrAt w news x l kvs
theorem HdrAt.at_ {w : World} {news : List (Addr × Obj)} {x l : Addr} {kvs : List KV} (h : HdrAt w news x l kvs) : HdrAt w news x l kvs := h
theorem HdrAt.mono {w : World} {news news' : List (Addr × Obj)} {x l : Addr} {kvs : List KV} (hs : ∀ p ∈ news, p ∈ news') (h : HdrAt w news x l kvs) : HdrAt w news' x l kvs :=
  let ⟨dx, th, n, k, items, h1, h2, h3, h4⟩ := h.at_; ⟨dx, th, n, k, items, hs _ h1, hs _ h2, hs _ h3, h4.mono hs⟩
/-- where a call stands -/
structure CkAt (w : World) (mean : ExcName → Option Value) (mg mb : Str → Option Value) (D : Nat) (news : List (Addr × Obj)) (dp un : Nat) (cs : Scope) (outer : List Env) (A₀ : Around) (base h₀ : Heap) (L : Addr) (m : Str → Option Value) (s : Shared) : Prop where
  B : Below A₀ base outer h₀
  F : Fr h₀ L s.heap m
  X : (Mine.hd.heap_39 w.params).In h₀
  N : News h₀ L s.heap news
  T : Top Mine.hd.view_39 loose0 mean mg mb h₀
  k : cs.kind = .function
  d : dp + D < recursionLimit
  u : un + 8 * D < cLine
section
variable {w : World} {mean : ExcName → Option Value} {mg mb : Str → Option Value} {D : Nat} {f : Addr} {news : List (Addr × Obj)} {vs : List Value} {kw : List (Str × Value)}
  {dp un : Nat} {gd : Option (List Code)} {cn : Str} {cs : Scope} {a : Addr} {ccd : Value} {cl : List (Str × Addr)} {outer : List Env} {A₀ : Around} {base h₀ : Heap} {L : Addr} {m : Str → Option Value} {s : Shared} {Q E : Value → Shared → Prop} {v0 : Value}
theorem ck_use0 (c : CkClaim w mean mg mb D f news vs kw (fun v news' => v = v0 ∧ news = news')) (p : CkAt w mean mg mb D news dp un cs outer A₀ base h₀ L m s) (k : ∀ h' tk', Fr h₀ L h' m → News h₀ L h' news → Q v0 { s with heap := h', toks := tk' }) :
    wpAny (model P0 w) (ktrTop dp un gd cn cs L a ccd cl outer) (call (.ref f) vs kw) Q E s := ck_use c p.B p.F p.X p.N p.T p.k p.d p.u fun _ h' tk' _ F' N' e => by
  obtain ⟨rfl, rfl⟩ := e
  exact k h' tk' F' N'
theorem ck_useT {g : Tok → Value} (c : CkClaim w mean mg mb D f news vs kw (fun v news' => (∃ t, v = g t) ∧ news = news')) (p : CkAt w mean mg mb D news dp un cs outer A₀ base h₀ L m s) (k : ∀ t h' tk', Fr h₀ L h' m → News h₀ L h' news → Q (g t) { s with heap := h', toks := tk' }) :
    wpAny (model P0 w) (ktrTop dp un gd cn cs L a ccd cl outer) (call (.ref f) vs kw) Q E s := ck_use c p.B p.F p.X p.N p.T p.k p.d p.u fun _ h' tk' _ F' N' e => by
  obtain ⟨⟨t, rfl⟩, rfl⟩ := e
  exact k t h' tk' F' N'
theorem ck_useH {x l : Addr} {kvs : List KV} (c : CkClaim w mean mg mb D f news vs kw (fun v news' => v = v0 ∧ HdrAt w news' x l kvs ∧ ∀ p ∈ news, p.1 ≠ l → p ∈ news')) (p : CkAt w mean mg mb D news dp un cs outer A₀ base h₀ L m s)
    (k : ∀ h' tk' news', Fr h₀ L h' m → News h₀ L h' news' → HdrAt w news' x l kvs → (∀ p ∈ news, p.1 ≠ l → p ∈ news') → Q v0 { s with heap := h', toks := tk' }) :
    wpAny (model P0 w) (ktrTop dp un gd cn cs L a ccd cl outer) (call (.ref f) vs kw) Q E s := ck_use c p.B p.F p.X p.N p.T p.k p.d p.u fun _ h' tk' n' F' N' e => by
  obtain ⟨rfl, e1, e2⟩ := e
  exact k h' tk' n' F' N' e1 e2
theorem ck_useK {P : List Value → Prop} {o : List Value → Obj} (c : CkClaim w mean mg mb D f news vs kw (fun v news' => ∃ D ys, v = .ref D ∧ P ys ∧ news' = (D, o ys) :: news ∧ ∀ p ∈ news, p.1 ≠ D)) (p : CkAt w mean mg mb D news dp un cs outer A₀ base h₀ L m s)
    (k : ∀ D ys h' tk', Fr h₀ L h' m → News h₀ L h' ((D, o ys) :: news) → P ys → (∀ p ∈ news, p.1 ≠ D) → Q (.ref D) { s with heap := h', toks := tk' }) :
    wpAny (model P0 w) (ktrTop dp un gd cn cs L a ccd cl outer) (call (.ref f) vs kw) Q E s := ck_use c p.B p.F p.X p.N p.T p.k p.d p.u fun _ h' tk' n' F' N' e => by
  obtain ⟨D, ys, rfl, e1, rfl, e2⟩ := e
  exact k D ys h' tk' F' N' e1 e2
theorem ck_useI {P : List Value → Prop} {o : List Value → Nat → Obj} (c : CkClaim w mean mg mb D f news vs kw (fun v news' => ∃ D ys k, v = .ref D ∧ P ys ∧ news' = (D, o ys k) :: news ∧ ∀ p ∈ news, p.1 ≠ D)) (p : CkAt w mean mg mb D news dp un cs outer A₀ base h₀ L m s)
    (k : ∀ D ys k' h' tk', Fr h₀ L h' m → News h₀ L h' ((D, o ys k') :: news) → P ys → (∀ p ∈ news, p.1 ≠ D) → Q (.ref D) { s with heap := h', toks := tk' }) :
    wpAny (model P0 w) (ktrTop dp un gd cn cs L a ccd cl outer) (call (.ref f) vs kw) Q E s := ck_use c p.B p.F p.X p.N p.T p.k p.d p.u fun _ h' tk' n' F' N' e => by
  obtain ⟨D, ys, k', rfl, e1, rfl, e2⟩ := e
  exact k D ys k' h' tk' F' N' e1 e2
theorem ck_useP {P : List Value → Prop} {o : List Value → Nat → Obj} (c : CkClaim w mean mg mb D f news vs kw (fun v news' => ∃ D ys k, v = .ref D ∧ P ys ∧ news' = (D, o ys k) :: news)) (p : CkAt w mean mg mb D news dp un cs outer A₀ base h₀ L m s)
    (k : ∀ D ys k' h' tk', Fr h₀ L h' m → News h₀ L h' ((D, o ys k') :: news) → P ys → Q (.ref D) { s with heap := h', toks := tk' }) :
    wpAny (model P0 w) (ktrTop dp un gd cn cs L a ccd cl outer) (call (.ref f) vs kw) Q E s := ck_use c p.B p.F p.X p.N p.T p.k p.d p.u fun _ h' tk' n' F' N' e => by
  obtain ⟨D, ys, k', rfl, e1, rfl⟩ := e
  exact k D ys k' h' tk' F' N' e1
end
theorem room_a {p a b D R : Nat} (h : p + D < R) (hk : a + b ≤ D) : p + a + b < R := by omega
theorem unit_a {p a b D R : Nat} (h : p + 8 * D < R) (hk : a + 8 * b ≤ 8 * D) : p + a + 8 * b < R := by omega
theorem unit_b {p a b c D R : Nat} (h : p + 8 * D < R) (hk : a + c + 8 * b ≤ 8 * D) : p + a + c + 8 * b < R := by omega
theorem unit_c {p a D R : Nat} (h : p + 8 * D < R) (hk : a ≤ 8 * D) : p + a < R := by omega

theorem lower_fs (x : Fin 5) (u : Bool) : Txt.lower (fs x u) = fs x false := by revert x u; decide +kernel
theorem swap_fs (x : Fin 5) (u : Bool) : Txt.swapcase (fs x u) = fs x (!u) := by revert x u; decide +kernel
theorem upper_fs (x : Fin 5) : Txt.upper (fs x false) = fs x true := by revert x; decide +kernel
theorem short_fs (x : Fin 5) (u : Bool) : (fs x u).length ≤ 2 := by revert x u; decide +kernel
theorem fit_fs (x : Fin 5) (u : Bool) : (fs x u).length ≤ sizeLine := Nat.le_trans (short_fs x u) (by decide)
theorem fs_inj {x y : Fin 5} (h : fs x false = fs y false) : x = y := by revert x y; decide +kernel
theorem tl_lower (x : Fin 5) (u : Bool) : Builtin.Str.tooLong (Txt.lower (fs x u)).length = false := by revert x u; decide +kernel
theorem tl_swap (x : Fin 5) (u : Bool) : Builtin.Str.tooLong (Txt.swapcase (fs x u)).length = false := by revert x u; decide +kernel
theorem len_pad (n : Nat) : (pad n).length = n + 3 := by
  show (List.replicate n 32 ++ [9, 32, 32]).toArray.size = n + 3
  simp
theorem fit_pad (n : Nat) (h : n ≤ 1000) : (pad n).length ≤ sizeLine := by rw [len_pad, sizeLine_eq]; omega

theorem Rows.len {news : List (Addr × Obj)} {items : List Value} {kvs : List KV} (h : Rows news items kvs) : items.length = kvs.length := by
  induction h with
  | nil => rfl
  | cons _ _ ih => simp [ih]
theorem Rows.get {news : List (Addr × Obj)} {items : List Value} {kvs : List KV} (h : Rows news items kvs) : ∀ {i : Nat} {v : Value}, items[i]? = some v → ∃ a x u n t t', v = .ref a ∧ kvs[i]? = some (x, u, n) ∧ (a, tupO x u n t t') ∈ news := by
  induction h with
  | nil => intro i v e; cases e
  | cons h _ ih =>
    intro i v e
    cases i with
    | zero => cases e; exact ⟨_, _, _, _, _, _, rfl, rfl, h⟩
    | succ i => exact ih e
theorem Rows.append {news : List (Addr × Obj)} {b : List Value} {kvb : List KV} (hb : Rows news b kvb) {a : List Value} {kva : List KV} (h : Rows news a kva) : Rows news (a ++ b) (kva ++ kvb) := by
  induction h with
  | nil => exact hb
  | cons h _ ih => exact .cons h ih
theorem len_lst {prog : Program} {w : World} {A : Around} {E : Value → Shared → Prop} {s : Shared} {h₀ : Heap} {L l : Addr} {news : List (Addr × Obj)} {its : Array Value} {k : Nat} {Q : Value → Shared → Prop} (N : News h₀ L s.heap news) (hl : (l, listOf its k) ∈ news) (hf : its.size < 2 ^ 62)
    (h : Q (.int its.size (s.toks + 1)) { s with toks := s.toks + 1 + 1 }) : wpAny (model prog w) A (call (.builtin "len") [.ref l]) Q E s :=
  Calls.call_len_list ⟨_, (N _ hl).1, rfl, k, rfl⟩ (by omega) h

theorem all_ne {l : List (Addr × Obj)} {d e : Addr} (h : ∀ p ∈ l, p.1 < d) (hd : @LE.le Nat _ d e) : ∀ p ∈ l, p.1 ≠ e := by
  intro p hp q
  have h1 : @LT.lt Nat _ p.1 d := h p hp
  rw [q] at h1
  exact absurd h1 (Nat.not_lt.mpr hd)
theorem allLt_mem {d : Nat} {l : List (Addr × Obj)} (h : AllLt d l) : ∀ p ∈ l, p.1 < d := by
  induction l with
  | nil => intro p hp; cases hp
  | cons q r ih =>
    intro p hp
    rcases List.mem_cons.mp hp with rfl | hp
    · exact h.1
    · exact ih h.2 p hp
theorem all_ne0 {l : List (Addr × Obj)} {e : Addr} (h : ∀ p ∈ l, p.1 < e) : ∀ p ∈ l, p.1 ≠ e := all_ne h (Nat.le_refl _)
theorem all_ne0' {l : List (Addr × Obj)} {e : Addr} (h : AllLt e l) : ∀ p ∈ l, p.1 ≠ e := all_ne (allLt_mem h) (Nat.le_refl _)
theorem all_ne0a {l : List (Addr × Obj)} {e : Addr} {P : Prop} (h : P ∧ AllLt e l) : ∀ p ∈ l, p.1 ≠ e := all_ne (allLt_mem h.2) (Nat.le_refl _)
theorem all_ne0b {l : List (Addr × Obj)} {e : Addr} {P P' : Prop} (h : P ∧ P' ∧ AllLt e l) : ∀ p ∈ l, p.1 ≠ e := all_ne (allLt_mem h.2.2) (Nat.le_refl _)
theorem all_ne0c {l : List (Addr × Obj)} {e : Addr} {P P' P'' : Prop} (h : P ∧ P' ∧ P'' ∧ AllLt e l) : ∀ p ∈ l, p.1 ≠ e := all_ne (allLt_mem h.2.2.2) (Nat.le_refl _)
theorem all_ne' {l : List (Addr × Obj)} {d e : Addr} (h : AllLt d l) (hd : @LE.le Nat _ d e) : ∀ p ∈ l, p.1 ≠ e := all_ne (allLt_mem h) hd

def Stop (P : Prop) : Prop := P
def NoStop : Prop := True
theorem noStop : NoStop := trivial
theorem Stop.out {P : Prop} (h : Stop P) : P := h
theorem Stop.into {P : Prop} (h : P) : Stop P := h

/-- the names that a loop's turns store hold something, the others what they held -/
def ovr (u m₀ : Str → Option Value) : List Str → Str → Option Value
  | [], z => m₀ z
  | a :: r, z => if z = a then u z else ovr u m₀ r z
theorem ovr_of {m₁ m₀ : Str → Option Value} {z : Str} : ∀ {names : List Str}, (z ∉ names → m₁ z = m₀ z) → m₁ z = ovr m₁ m₀ names z
  | [], h => h (by simp)
  | a :: r, h => by
    unfold ovr
    split
    · rfl
    · rename_i n
      exact ovr_of fun q => h (by simp [n, q])
theorem ovr_eq {m₁ m₀ : Str → Option Value} {names : List Str} (h : ∀ z, z ∉ names → m₁ z = m₀ z) : m₁ = ovr m₁ m₀ names := funext fun z => ovr_of (h z)
theorem ovr_off {u m₀ : Str → Option Value} {z : Str} : ∀ {names : List Str}, z ∉ names → ovr u m₀ names z = m₀ z
  | [], _ => rfl
  | a :: r, h => by
    unfold ovr
    rw [if_neg (fun e => h (by simp [e]))]
    exact ovr_off fun q => h (by simp [q])
theorem off_if {z a : Str} {names : List Str} {v w : Option Value} (hz : z ∉ names) (ha : a ∈ names) : (if z = a then v else w) = w := if_neg (fun e : z = a => hz (by rw [e]; exact ha))
section
variable {prog : Program} {w : World} {A : Around} {E : Value → Shared → Prop} {s : Shared} {env : Env} {h₀ : Heap} {target : Expr} {body : List Stmt} {Q : Flow → Shared → Prop}
theorem unr_mono {s₁ : Shared} {its : List (Addr × Obj)} {rest rest' : (Str → Option Value) → List (Addr × Obj) → Prop} {f : Flow} {s₃ : Shared} (h : UnrPostW h₀ env.locals s₁ its rest Q f s₃) (hr : ∀ m n, rest m n → rest' m n) : UnrPostW h₀ env.locals s₁ its rest' Q f s₃ := by
  cases f with
  | ret v => exact h
  | brk => exact h
  | next =>
    obtain ⟨h', tk', m', n', e, F', N', off, r⟩ := h
    exact ⟨h', tk', m', n', e, F', N', off, hr _ _ r⟩
  | cont =>
    obtain ⟨h', tk', m', n', e, F', N', off, r⟩ := h
    exact ⟨h', tk', m', n', e, F', N', off, hr _ _ r⟩
theorem items_ind {I : Addr} {cl : String} {keep : List (Addr × Obj)} {m₀ : Str → Option Value} (names : List Str) (J : List Value → List (Addr × Obj) → Prop)
    (turn : ∀ v r news u h tk o, J (v :: r) news → o.cls = .type cl → Fr h₀ env.locals h (ovr u m₀ names) → News h₀ env.locals h ((I, o) :: news) →
      wpAny (model prog w) A (assign target env v) (fun _ s₂ => wpAny (model prog w) A (execs body env) (UnrPostW h₀ env.locals { s with heap := h, toks := tk } [(I, o)] (fun m' n' => SubL keep n' ∧ (∀ z, z ∉ names → m' z = m₀ z) ∧ J r n') Q) E s₂) E { s with heap := h, toks := tk })
    (done : ∀ news u h tk, J [] news → Fr h₀ env.locals h (ovr u m₀ names) → News h₀ env.locals h news → Q .next { s with heap := h, toks := tk }) :
    ∀ vs m₁ news, (∀ z, z ∉ names → m₁ z = m₀ z) → J vs news → ItemsRest prog w A E h₀ env target body Q s [(I, cl)] keep (vs.map .val) m₁ news := by
  intro vs
  induction vs with
  | nil =>
    intro m₁ news hm hJ
    refine ItemsRest.zero fun h tk F N => ?_
    rw [ovr_eq hm] at F
    exact done news m₁ h tk hJ F N
  | cons v r ih =>
    intro m₁ news hm hJ
    refine ItemsRest.val fun h tk F => AllObj.cons fun o hc => AllObj.nil fun N => ?_
    rw [ovr_eq hm] at F
    exact wpAny_mono (turn v r news m₁ h tk o hJ hc F N) (fun _ s₂ h₂ => wpAny_mono h₂ (fun f s₃ h₃ => unr_mono h₃ fun m n ⟨a, b, c⟩ => ⟨a, ih m n b c⟩) fun _ _ e => e) fun _ _ e => e
theorem turn_end {L I : Addr} {o : Obj} {rest : (Str → Option Value) → List (Addr × Obj) → Prop} {s₁ : Shared} {h' : Heap} {tk : Nat} {m' : Str → Option Value} {all news' : List (Addr × Obj)} (F : Fr h₀ L h' m') (N : News h₀ L h' all)
    (hI : (I, o) ∈ all) (hs : ∀ p ∈ news', p ∈ all) (hlt : ∀ p ∈ news', p.1 ≠ I) (r : rest m' news') : UnrEndW h₀ L s₁ [(I, o)] rest { s₁ with heap := h', toks := tk } :=
  ⟨h', tk, m', news', rfl, F, fun p hp => by
    rcases List.mem_cons.mp hp with rfl | hp
    · exact N _ hI
    · exact N _ (hs p hp), fun p hp q hq => by rw [List.mem_singleton.mp hq]; exact hlt p hp, r⟩
end

section
open LCg LCt
variable {prog : Program} {w : World} {A : Around} {h₀ : Heap} {L : Addr} {m : Str → Option Value} {env : Env} {ct elt : Expr} {x : Str} {scope : Scope} {cl : List (Str × Addr)} {s : Shared} {S : List (Addr × Obj) → Prop} {P : Nat → Value → Prop} {Fin : List Value → List (Addr × Obj) → Prop}
theorem compEnd_mono {s₁ : Shared} {I C D : Addr} {oI oC oD : Obj} {rest rest' : Value → List (Addr × Obj) → Prop} {y : Value} {s₂ : Shared} (h : CompEnd h₀ L m s₁ I oI C oC D oD S rest y s₂) (hr : ∀ y n, rest y n → rest' y n) : CompEnd h₀ L m s₁ I oI C oC D oD S rest' y s₂ := by
  obtain ⟨h', tk, n', e, F, N, off, hS, r⟩ := h
  exact ⟨h', tk, n', e, F, N, off, hS, hr _ _ r⟩
theorem compT_ind {n : Nat} (J : Nat → List Value → List (Addr × Obj) → Prop)
    (turn : ∀ i v ys news I oI C oC D m₂ h tk E', i < n → P i v → J i ys news → NsObj oC m₂ → m₂ x = some v → Fr h₀ L h m → News h₀ L h ((I, oI) :: (C, oC) :: (D, lst ys) :: news) → Off3 I C D news → ((@Ne Nat I C) ∧ (@Ne Nat I D) ∧ (@Ne Nat C D)) →
      wpAny (model prog w) A (isTrue ct (compEnvC scope cl C env) (eval ct (compEnvC scope cl C env))) (fun ok s' => if ok = true then
        wpAny (model prog w) A (eval elt (compEnvC scope cl C env)) (CompEnd h₀ L m { s with heap := h, toks := tk } I oI C oC D (lst ys) S (fun y news' => J (i + 1) (ys ++ [y]) news')) E' s'
        else CompEnd h₀ L m { s with heap := h, toks := tk } I oI C oC D (lst ys) S (fun _ news' => J (i + 1) ys news') Value.none s') E' { s with heap := h, toks := tk })
    (fin : ∀ ys news, J n ys news → Fin ys news) : ∀ k i ys news, i + k = n → J i ys news → CompRestT prog w A h₀ L m env ct elt x scope cl s S P Fin k i ys news := by
  intro k
  induction k with
  | zero => intro i ys news hi hJ; exact CompRestT.zero (fin _ _ (by rw [show n = i from hi.symm]; exact hJ))
  | succ k ih =>
    intro i ys news hi hJ
    have hi2 : i + 1 + k = n := by rw [Nat.add_right_comm]; exact hi
    refine CompRestT.succ fun v I oI C oC D m₂ h tk E' hP hC hx F N off ne => wpAny_mono (turn i v ys news I oI C oC D m₂ h tk E' (hi ▸ Nat.lt_add_of_pos_right (Nat.succ_pos k)) hP hJ hC hx F N off ne) (fun ok s' hs => ?_) fun _ _ e => e
    cases ok with
    | true =>
      rw [if_pos rfl] at hs ⊢
      exact wpAny_mono hs (fun y s₂ he => compEnd_mono he fun y n' hj => ih (i + 1) _ _ hi2 hj) fun _ _ e => e
    | false =>
      rw [if_neg Bool.false_ne_true] at hs ⊢
      exact compEnd_mono hs fun y n' hj => ih (i + 1) _ _ hi2 hj
theorem compU_ind {n : Nat} (J : Nat → List Value → List (Addr × Obj) → Prop)
    (turn : ∀ i v ys news I oI C oC D m₂ h tk E', i < n → P i v → J i ys news → NsObj oC m₂ → m₂ x = some v → Fr h₀ L h m → News h₀ L h ((I, oI) :: (C, oC) :: (D, lst ys) :: news) → Off3 I C D news → ((@Ne Nat I C) ∧ (@Ne Nat I D) ∧ (@Ne Nat C D)) →
      wpAny (model prog w) A (eval elt (compEnvC scope cl C env)) (CompEnd h₀ L m { s with heap := h, toks := tk } I oI C oC D (lst ys) S (fun y news' => J (i + 1) (ys ++ [y]) news')) E' { s with heap := h, toks := tk })
    (fin : ∀ ys news, J n ys news → Fin ys news) : ∀ k i ys news, i + k = n → J i ys news → CompRest prog w A h₀ L m env elt x scope cl s S P Fin k i ys news := by
  intro k
  induction k with
  | zero => intro i ys news hi hJ; exact CompRest.zero (fin _ _ (by rw [show n = i from hi.symm]; exact hJ))
  | succ k ih =>
    intro i ys news hi hJ
    have hi2 : i + 1 + k = n := by rw [Nat.add_right_comm]; exact hi
    exact CompRest.succ fun v I oI C oC D m₂ h tk E' hP hC hx F N off ne => wpAny_mono (turn i v ys news I oI C oC D m₂ h tk E' (hi ▸ Nat.lt_add_of_pos_right (Nat.succ_pos k)) hP hJ hC hx F N off ne) (fun y s₂ he => compEnd_mono he fun y n' hj => ih (i + 1) _ _ hi2 hj) fun _ _ e => e
/-- where the ledger stays as it is -/
theorem compT_indC {n : Nat} {n₀ : List (Addr × Obj)} (J : Nat → List Value → Prop)
    (turn : ∀ i v ys I oI C oC D m₂ h tk E', i < n → P i v → J i ys → NsObj oC m₂ → m₂ x = some v → Fr h₀ L h m → News h₀ L h ((I, oI) :: (C, oC) :: (D, lst ys) :: n₀) → Off3 I C D n₀ → ((@Ne Nat I C) ∧ (@Ne Nat I D) ∧ (@Ne Nat C D)) →
      wpAny (model prog w) A (isTrue ct (compEnvC scope cl C env) (eval ct (compEnvC scope cl C env))) (fun ok s' => if ok = true then
        wpAny (model prog w) A (eval elt (compEnvC scope cl C env)) (CompEnd h₀ L m { s with heap := h, toks := tk } I oI C oC D (lst ys) S (fun y news' => n₀ = news' ∧ J (i + 1) (ys ++ [y]))) E' s'
        else CompEnd h₀ L m { s with heap := h, toks := tk } I oI C oC D (lst ys) S (fun _ news' => n₀ = news' ∧ J (i + 1) ys) Value.none s') E' { s with heap := h, toks := tk })
    (fin : ∀ ys, J n ys → Fin ys n₀) (k i : Nat) (ys : List Value) (hi : i + k = n) (hJ : J i ys) : CompRestT prog w A h₀ L m env ct elt x scope cl s S P Fin k i ys n₀ :=
  compT_ind (fun i ys n' => n₀ = n' ∧ J i ys) (fun i v ys n' I oI C oC D m₂ h tk E' hi hP hJ => by obtain ⟨rfl, hJ⟩ := hJ; exact turn i v ys I oI C oC D m₂ h tk E' hi hP hJ)
    (fun ys n' hJ => by obtain ⟨rfl, hJ⟩ := hJ; exact fin ys hJ) k i ys n₀ hi ⟨rfl, hJ⟩
theorem compU_indC {n : Nat} {n₀ : List (Addr × Obj)} (J : Nat → List Value → Prop)
    (turn : ∀ i v ys I oI C oC D m₂ h tk E', i < n → P i v → J i ys → NsObj oC m₂ → m₂ x = some v → Fr h₀ L h m → News h₀ L h ((I, oI) :: (C, oC) :: (D, lst ys) :: n₀) → Off3 I C D n₀ → ((@Ne Nat I C) ∧ (@Ne Nat I D) ∧ (@Ne Nat C D)) →
      wpAny (model prog w) A (eval elt (compEnvC scope cl C env)) (CompEnd h₀ L m { s with heap := h, toks := tk } I oI C oC D (lst ys) S (fun y news' => n₀ = news' ∧ J (i + 1) (ys ++ [y]))) E' { s with heap := h, toks := tk })
    (fin : ∀ ys, J n ys → Fin ys n₀) (k i : Nat) (ys : List Value) (hi : i + k = n) (hJ : J i ys) : CompRest prog w A h₀ L m env elt x scope cl s S P Fin k i ys n₀ :=
  compU_ind (fun i ys n' => n₀ = n' ∧ J i ys) (fun i v ys n' I oI C oC D m₂ h tk E' hi hP hJ => by obtain ⟨rfl, hJ⟩ := hJ; exact turn i v ys I oI C oC D m₂ h tk E' hi hP hJ)
    (fun ys n' hJ => by obtain ⟨rfl, hJ⟩ := hJ; exact fin ys hJ) k i ys n₀ hi ⟨rfl, hJ⟩
end

section
open LCg LCp
variable {prog : Program} {w : World} {A : Around} {h₀ : Heap} {L : Addr} {m : Str → Option Value} {env : Env} {elt : Expr} {x x₂ : Str} {scope : Scope} {cl : List (Str × Addr)} {s : Shared} {S : List (Addr × Obj) → Prop} {P : Nat → Value → Prop} {Fin : List Value → List (Addr × Obj) → Prop}
theorem compP_ind {n : Nat} (J : Nat → List Value → List (Addr × Obj) → Prop)
    (turn : ∀ i v ys news, i < n → P i v → J i ys news → ∃ (t : Addr) (ot : Obj) (v₁ v₂ : Value) (nt : Nat), v = .ref t ∧ (t, ot) ∈ news ∧ ot.cls = .type "tuple" ∧ ot.data = .seq #[v₁, v₂] nt ∧
      ∀ I oI C oC D m₂ h tk E', NsObj oC m₂ → m₂ x = some v₁ → m₂ x₂ = some v₂ → Fr h₀ L h m → News h₀ L h ((I, oI) :: (C, oC) :: (D, lst ys) :: news) → Off3 I C D news → ((@Ne Nat I C) ∧ (@Ne Nat I D) ∧ (@Ne Nat C D)) →
      wpAny (model prog w) A (eval elt (compEnvC scope cl C env)) (CompEnd h₀ L m { s with heap := h, toks := tk } I oI C oC D (lst ys) S (fun y news' => J (i + 1) (ys ++ [y]) news')) E' { s with heap := h, toks := tk })
    (fin : ∀ ys news, J n ys news → Fin ys news) : ∀ k i ys news, i + k = n → J i ys news → CompRestP prog w A h₀ L m env elt x x₂ scope cl s S P Fin k i ys news := by
  intro k
  induction k with
  | zero => intro i ys news hi hJ; exact CompRestP.zero (fin _ _ (by rw [show n = i from hi.symm]; exact hJ))
  | succ k ih =>
    intro i ys news hi hJ
    have hi2 : i + 1 + k = n := by rw [Nat.add_right_comm]; exact hi
    refine CompRestP.succ fun v hP => ?_
    obtain ⟨t, ot, v₁, v₂, nt, e, hm, hc, hd, W⟩ := turn i v ys news (hi ▸ Nat.lt_add_of_pos_right (Nat.succ_pos k)) hP hJ
    exact ⟨t, ot, v₁, v₂, nt, e, hm, hc, hd, fun I oI C oC D m₂ h tk E' hC hx hx2 F N off ne => wpAny_mono (W I oI C oC D m₂ h tk E' hC hx hx2 F N off ne) (fun y s₂ he => compEnd_mono he fun y n' hj => ih (i + 1) _ _ hi2 hj) fun _ _ e => e⟩
/-- a pair that is told apart -/
inductive PStep (v : Value) (n₀ : List (Addr × Obj)) (W : Value → Value → Prop) : Prop
  | mk (t : Addr) (ot : Obj) (v₁ v₂ : Value) (nt : Nat) (e : v = .ref t) (hm : (t, ot) ∈ n₀) (hc : ot.cls = .type "tuple") (hd : ot.data = .seq #[v₁, v₂] nt) (hW : W v₁ v₂) : PStep v n₀ W
theorem compP_indC {n : Nat} {n₀ : List (Addr × Obj)} (J : Nat → List Value → Prop)
    (turn : ∀ i v ys, i < n → P i v → J i ys → PStep v n₀ fun v₁ v₂ =>
      ∀ I oI C oC D m₂ h tk E', NsObj oC m₂ → m₂ x = some v₁ → m₂ x₂ = some v₂ → Fr h₀ L h m → News h₀ L h ((I, oI) :: (C, oC) :: (D, lst ys) :: n₀) → Off3 I C D n₀ → ((@Ne Nat I C) ∧ (@Ne Nat I D) ∧ (@Ne Nat C D)) →
      wpAny (model prog w) A (eval elt (compEnvC scope cl C env)) (CompEnd h₀ L m { s with heap := h, toks := tk } I oI C oC D (lst ys) S (fun y news' => n₀ = news' ∧ J (i + 1) (ys ++ [y]))) E' { s with heap := h, toks := tk })
    (fin : ∀ ys, J n ys → Fin ys n₀) (k i : Nat) (ys : List Value) (hi : i + k = n) (hJ : J i ys) : CompRestP prog w A h₀ L m env elt x x₂ scope cl s S P Fin k i ys n₀ :=
  compP_ind (fun i ys n' => n₀ = n' ∧ J i ys) (fun i v ys n' hi hP hJ => by
    obtain ⟨rfl, hJ⟩ := hJ
    obtain ⟨t, ot, v₁, v₂, nt, e, hm, hc, hd, hW⟩ := turn i v ys hi hP hJ
    exact ⟨t, ot, v₁, v₂, nt, e, hm, hc, hd, hW⟩)
    (fun ys n' hJ => by obtain ⟨rfl, hJ⟩ := hJ; exact fin ys hJ) k i ys n₀ hi ⟨rfl, hJ⟩
end
/-- texts: the flags of the rows; the lines of the rows -/
inductive Keys : List Value → List KV → Prop
  | nil : Keys [] []
  | cons {x : Fin 5} {u : Bool} {n : Nat} {t : Tok} {items : List Value} {kvs : List KV} (r : Keys items kvs) : Keys (.str (fs x u) t :: items) ((x, u, n) :: kvs)
inductive Vals : List Value → List KV → Prop
  | nil : Vals [] []
  | cons {x : Fin 5} {u : Bool} {n : Nat} {t : Tok} {items : List Value} {kvs : List KV} (r : Vals items kvs) : Vals (.str (pad n) t :: items) ((x, u, n) :: kvs)
theorem Keys.append {b : List Value} {kvb : List KV} (hb : Keys b kvb) {a : List Value} {kva : List KV} (h : Keys a kva) : Keys (a ++ b) (kva ++ kvb) := by
  induction h with
  | nil => exact hb
  | cons _ ih => exact .cons ih
theorem Vals.append {b : List Value} {kvb : List KV} (hb : Vals b kvb) {a : List Value} {kva : List KV} (h : Vals a kva) : Vals (a ++ b) (kva ++ kvb) := by
  induction h with
  | nil => exact hb
  | cons _ ih => exact .cons ih
theorem Keys.len {items : List Value} {kvs : List KV} (h : Keys items kvs) : items.length = kvs.length := by
  induction h with
  | nil => rfl
  | cons _ ih => simp [ih]
theorem Vals.len {items : List Value} {kvs : List KV} (h : Vals items kvs) : items.length = kvs.length := by
  induction h with
  | nil => rfl
  | cons _ ih => simp [ih]
end
section
section
variable {prog : Program} {w : World} {A : Around} {E : Value → Shared → Prop} {s : Shared}
theorem setitem_all {l sl D : Addr} {its new : Array Value} {Q : Unit → Shared → Prop} {ne : Nat} (ho : s.heap.get? l = some (listOf its ne)) (hs : s.heap.IsSliceOf sl .none .none .none) (hD : s.heap.IsList D new) (hne : l ≠ D)
    (hz : its.size ≤ 1000) (hz' : new.size ≤ 1000) 
    (hQ : ∀ h' k', h'.get? l = some (listOf new k') → Heap.SameBut l s.heap h' → Q () { s with heap := h' }) :
    wpAny (model prog w) A (setItem (.ref l) (.ref sl) (.ref D)) Q E s := by
  have hl : s.heap.IsList l its := ⟨_, ho, rfl, ne, rfl⟩
  have hd : (listOf its ne).data = .seq its ne := rfl
  unfold setItem
  refine wpAny_holding ?_
  refine wpAny_bind (wpAny_sequenceKey hl.typeIs (by decide) ?_)
  refine wpAny_bind (wpAny_callSpecial?_slot (name := Str.ofString "__setitem__") hl.typeIs slot_list_setitem
    (wpAny_call_entry slot_list_setitem hl.typeIs entry_list_setitem ?_ (args_list_setitem _ _ _)))
  have hsT : s.TypeIs (.ref sl) "slice" := by obtain ⟨os, h1, h2, _⟩ := hs; exact ⟨os, h1, h2⟩
  obtain ⟨os, hs1, hs2, hs3⟩ := id hs
  have hf : ∀ (k : Nat) (Q : Value → Shared → Prop), k < 3 → Q .none s → wpAny (model prog w) A.in1 (field (.ref sl) k) Q E s := by
    intro k Q hk hQ
    refine wpAny_field hs1 hs3 ?_ hQ
    rcases k with _ | _ | _ | k <;> first | rfl | omega
  unfold Builtin.«list.__setitem__»
  refine wpAny_bind (wpAny_pure ?_)
  show wpAny _ _ (Builtin.List.listSubscript? (.ref sl) >>= _) _ _ s
  refine wpAny_bind ?_
  unfold Builtin.List.listSubscript?
  refine wpAny_bind (wpAny_specialOf hsT slice_no_index ?_)
  simp only [Option.isNone_none, if_true]
  refine wpAny_pure ?_
  show wpAny _ _ (typeOf (.ref sl) >>= _) _ _ s
  refine wpAny_bind (wpAny_typeOf hsT ?_)
  rw [if_neg (by decide)]
  show wpAny _ _ (Builtin.List.listSliceParts (.ref sl) >>= _) _ _ s
  refine wpAny_bind ?_
  rw [listSliceParts_eq]
  refine wpAny_bind (hf 2 _ (by omega) ?_)
  refine wpAny_bind (wpAny_pure ?_)
  rw [if_neg (by decide)]
  refine wpAny_bind (hf 0 _ (by omega) ?_)
  refine wpAny_bind (wpAny_pure ?_)
  refine wpAny_bind (hf 1 _ (by omega) ?_)
  refine wpAny_bind (wpAny_pure ?_)
  refine wpAny_pure ?_
  rw [if_neg (by simp [Builtin.List.listSameRef, hne])]
  obtain ⟨oD, hD1, hD2, nD, hD3⟩ := id hD
  refine wpAny_bind ?_
  unfold Builtin.List.listAllItems
  refine wpAny_bind (wpAny_typeOf hD.typeIs ?_)
  rw [if_pos (by decide)]
  have hit : ∀ (a : Addr) (o : Obj) (xs : Array Value) (k : Nat) (Q : Array Value → Shared → Prop), s.heap.get? a = some o → o.data = .seq xs k → Q xs s → wpAny (model prog w) A.in1 (Builtin.List.listItems (.ref a)) Q E s := by
    intro a o xs k Q h1 h2 h3
    unfold Builtin.List.listItems
    refine wpAny_bind ?_
    show wpAny _ _ (load a >>= _) _ _ _
    refine wpAny_bind (wpAny_load h1 ?_)
    rw [h2]
    exact wpAny_pure (wpAny_pure h3)
  refine hit D oD new nD _ hD1 hD3 ?_
  refine wpAny_bind (hit l _ its ne _ ho hd ?_)
  have hsi : ∀ n : Nat, sliceIndices .none .none .none n = pure (0, (n : Int), 1) := fun n => rfl
  show wpAny _ _ (sliceIndices .none .none .none its.size >>= _) _ _ _
  rw [hsi]
  refine wpAny_bind (wpAny_pure ?_)
  rw [if_pos (by rfl)]
  refine wpAny_bind (wpAny_rule ?_)
  rw [if_neg (by simp only [Builtin.List.listTooLong, sizeLine_eq]; simp; omega)]
  show wpAny _ _ (updateSeq l (fun xs => xs.extract 0 (Int.toNat 0) ++ new ++ xs.extract (max (0 : Int) its.size).toNat) >>= _) _ _ _
  have hnew : its.extract 0 (Int.toNat 0) ++ new ++ its.extract (max (0 : Int) its.size).toNat = new := by
    have e : (max (0 : Int) its.size).toNat = its.size := by omega
    rw [e]; simp
  refine wpAny_bind (wpAny_updateSeq ho hd ?_ (by rw [sizeLine_eq]; omega) (by rw [hnew, sizeLine_eq]; omega))
  generalize hg : (fun xs : Array Value => xs.extract 0 (Int.toNat 0) ++ new ++ xs.extract (max (0 : Int) its.size).toNat) = g
  have hgi : g its = new := by rw [← hg]; exact hnew
  refine wpAny_bind (wpAny_letGo (wpAny_pure ⟨_, rfl, wpAny_pure (hQ _ (if new.size == its.size then ne else ne + 1) ?_ (Heap.SameBut.update ..))⟩))
  rw [Heap.get?_update_self _ ho rfl]
  unfold Obj.mapSeq
  dsimp only
  rw [hgi]

theorem set_all_K {h₀ : Heap} {L l sl D : Addr} {m : Str → Option Value} {news : List (Addr × Obj)} {its new : Array Value} {k k' : Nat} {Q : Unit → Shared → Prop} (F : Fr h₀ L s.heap m) (N : News h₀ L s.heap news)
    (hs : s.heap.IsSliceOf sl .none .none .none) (hl : (l, listOf its k) ∈ news) (hD : (D, listOf new k') ∈ news) (hne : l ≠ D) (hz : its.size ≤ 1000) (hz' : new.size ≤ 1000)
    (hQ : ∀ h' n news', Fr h₀ L h' m → News h₀ L h' news' → (l, listOf new n) ∈ news' → (∀ p ∈ news, p.1 ≠ l → p ∈ news') → Q () { s with heap := h' }) :
    wpAny (model prog w) A (setItem (.ref l) (.ref sl) (.ref D)) Q E s := by
  refine setitem_all (N _ hl).1 hs ⟨_, (N _ hD).1, rfl, k', rfl⟩ hne hz hz' fun h' n e hsb => ?_
  refine hQ h' n ((l, listOf new n) :: news.filter fun p => decide (p.1 ≠ l)) ?_ ?_ (List.mem_cons_self ..) ?_
  · exact F.change hsb (N _ hl).2.1 (N _ hl).2.2
  · intro p hp
    rcases List.mem_cons.mp hp with rfl | hp
    · exact ⟨e, (N _ hl).2⟩
    · obtain ⟨hp, hq⟩ := List.mem_filter.mp hp
      have hq' : p.1 ≠ l := of_decide_eq_true hq
      exact ⟨(hsb.2 _ hq').trans (N p hp).1, (N p hp).2⟩
  · intro p hp hq
    exact List.mem_cons_of_mem _ (List.mem_filter.mpr ⟨hp, decide_eq_true hq⟩)
end

theorem ne_objs {h₀ h : Heap} {L a b : Addr} {news : List (Addr × Obj)} {o o' : Obj} (N : News h₀ L h news) (ha : (a, o) ∈ news) (hb : (b, o') ∈ news) (hne : o.cls ≠ o'.cls) : a ≠ b := by
  rintro rfl
  have h1 := (N _ ha).1
  rw [(N _ hb).1] at h1
  exact hne (congrArg Obj.cls (Option.some.inj h1)).symm
theorem Rows.keep {h₀ h : Heap} {L l : Addr} {news news' : List (Addr × Obj)} {its : Array Value} {k : Nat} (N : News h₀ L h news) (hl : (l, listOf its k) ∈ news) (hk : ∀ p ∈ news, p.1 ≠ l → p ∈ news') {items : List Value} {kvs : List KV} (hR : Rows news items kvs) : Rows news' items kvs := by
  induction hR with
  | nil => exact .nil
  | cons h _ ih => exact .cons (hk _ h (ne_objs N h hl (by intro e; injection e with e; exact absurd e (by decide)))) ih
theorem hdr_upd {w : World} {h₀ h : Heap} {L x dx l : Addr} {th : Tok} {n k n' : Nat} {its : Array Value} {items : List Value} {kvs : List KV} {news news' : List (Addr × Obj)} (N : News h₀ L h news) (hx : (x, instObj 197 dx) ∈ news)
    (hd : (dx, dictOf [⟨PyData.keyHash w.params (Str.ofString "_headers"), .str (Str.ofString "_headers") th, .ref l⟩] n) ∈ news) (hl : (l, listOf its k) ∈ news) (hk : ∀ p ∈ news, p.1 ≠ l → p ∈ news')
    (hl' : (l, listOf items.toArray n') ∈ news') (hr : Rows news' items kvs) : HdrAt w news' x l kvs :=
  ⟨dx, th, n, n', items, hk _ hx (ne_objs N hx hl (by intro e; cases e)), hk _ hd (ne_objs N hd hl (by intro e; injection e with e; exact absurd e (by decide))), hl', hr⟩
theorem off1_mem {D : Addr} {l : List (Addr × Obj)} (h : LCg.Off1 D l) : ∀ p ∈ l, p.1 ≠ D := by
  induction l with
  | nil => intro p hp; cases hp
  | cons q r ih =>
    intro p hp
    rcases List.mem_cons.mp hp with rfl | hp
    · exact h.1
    · exact ih h.2 p hp
theorem off3_mem {I C D : Addr} {l : List (Addr × Obj)} (h : LCg.Off3 I C D l) : ∀ p ∈ l, p.1 ≠ I ∧ p.1 ≠ C ∧ p.1 ≠ D := by
  induction l with
  | nil => intro p hp; cases hp
  | cons q r ih =>
    intro p hp
    rcases List.mem_cons.mp hp with rfl | hp
    · exact h.1
    · exact ih h.2 p hp
theorem own_delItem {M : Model} {A : Around} {E : Value → Shared → Prop} {s : Shared} {K : Frag} {x C L f : Addr} {h₀ : Heap} {m : Str → Option Value} {ox : Obj} {od : Option Obj} {i : Value} {Q : Unit → Shared → Prop} (F : Fr h₀ L s.heap m) (X₀ : K.In h₀) (I : InstAt s.heap x ox C od)
    (hq : noSeq K C = true) (hs : findIn K (.ref C) "__delitem__" = some (some (.ref f))) (hf : isFn K (.ref f) = true) (h : wpAny M A (call (.ref f) [.ref x, i]) (fun _ s' => Q () s') E s) : wpAny M A (delItem (.ref x) i) Q E s := by
  have X := X₀.keeps F.keep
  unfold delItem sequenceKey
  refine wpAny_holding (wpAny_bind (wpAny_bind (I.type.here ?_)))
  refine wpAny_bind ((anyM_none X hq).here ?_)
  rw [if_pos (show (!false) = true from rfl)]
  exact wpAny_pure (wpAny_bind (special_fn X I hs (beq_iff_eq.mp hf) (wpAny_mono h (fun _ _ z => wpAny_pure z) fun _ _ z => z)))
theorem append_M {prog : Program} {w : World} {A : Around} {E : Value → Shared → Prop} {s : Shared} {h₀ : Heap} {L l : Addr} {m : Str → Option Value} {news : List (Addr × Obj)} {its : Array Value} {k : Nat} {x : Value} {Q : Value → Shared → Prop} (F : Fr h₀ L s.heap m) (N : News h₀ L s.heap news)
    (hl : (l, listOf its k) ∈ news) (hz : its.size ≤ 1000)
    (hQ : ∀ h' news', Fr h₀ L h' m → News h₀ L h' news' → (l, listOf (its.push x) (k + 1)) ∈ news' → (∀ p ∈ news, p.1 ≠ l → p ∈ news') → Q .none { s with heap := h' }) :
    wpAny (model prog w) A (call (.builtin "list.append") [.ref l, x]) Q E s := by
  refine append_at (hsz := by rw [sizeLine_eq]; omega) (N _ hl).1 fun h' hsb e => ?_
  refine hQ h' ((l, listOf (its.push x) (k + 1)) :: news.filter fun p => decide (p.1 ≠ l)) ?_ ?_ (List.mem_cons_self ..) ?_
  · exact F.change hsb (N _ hl).2.1 (N _ hl).2.2
  · intro p hp
    rcases List.mem_cons.mp hp with rfl | hp
    · exact ⟨e, (N _ hl).2⟩
    · obtain ⟨hp, hq⟩ := List.mem_filter.mp hp
      have hq' : p.1 ≠ l := of_decide_eq_true hq
      exact ⟨(hsb.2 _ hq').trans (N p hp).1, (N p hp).2⟩
  · intro p hp hq
    exact List.mem_cons_of_mem _ (List.mem_filter.mpr ⟨hp, decide_eq_true hq⟩)
theorem copy_M {prog : Program} {w : World} {A : Around} {E : Value → Shared → Prop} {s : Shared} {h₀ : Heap} {L l : Addr} {m : Str → Option Value} {news : List (Addr × Obj)} {items : Array Value} {k : Nat} {value slice : PySem.Expr} {Q : Value → Shared → Prop}
    (F : Fr h₀ L s.heap m) (N : News h₀ L s.heap news) (hl : (l, listOf items k) ∈ news) (hz : items.size ≤ 1000)
    (h : ∀ D h', Fr h₀ L h' m → News h₀ L h' ((D, listOf items 0) :: news) → (∀ p ∈ news, p.1 < D) → Q (.ref D) { s with heap := h' })
    (hs : subscripted slice false (.ref l) (.ref s.heap.objs.size) = operate [.ref s.heap.objs.size, .ref l] (getItem (.ref l) (.ref s.heap.objs.size)) := by with_unfolding_all rfl)
    (ht : ∀ r, letTemporaryGo value (.ref l) r = pure () := by intro _; with_unfolding_all rfl) :
    wpAny (model prog w) A (subscriptTail value slice (.ref l) (.ref s.heap.objs.size)) Q E { s with heap := s.heap.push { cls := .type "slice", data := .fields #[.none, .none, .none] } } := by
  refine slice_list (items := items) (lo := none) (hi := none) F N ⟨_, (N _ hl).1, rfl, k, rfl⟩ .none .none (fun h' F' N' => ?_) hs ht (by rw [sizeLine_eq]; omega)
  rw [slicePick_all] at N'
  exact h _ h' F' N' fun p hp => Nat.lt_succ_of_lt (Heap.lt_size (N p hp).1)
end
local macro_rules | `(tactic| k_mem) => `(tactic| assumption)
local macro_rules | `(tactic| walk_at "execs cons") => `(tactic| (k_fold; walk_at "execs cons"))
local macro_rules | `(tactic| walk_at "exec For Tuple Attribute cons nil") => `(tactic| (k_here; (rename Fr _ _ _ _ => lF'); (with_unfolding_all refine' For_turns lF' ?_; k_whole)))
local macro_rules | `(tactic| walk_at "exec For Tuple Call cons nil") => `(tactic| (k_here; (rename Fr _ _ _ _ => lF'); (with_unfolding_all refine' For_turns lF' ?_; k_whole)))
local macro_rules | `(tactic| walk_at "exec For Tuple Name cons nil") => `(tactic| (k_here; (rename Fr _ _ _ _ => lF'); (with_unfolding_all refine' For_turns lF' ?_; k_whole)))
local macro_rules | `(tactic| walk_at "exec For Name Call cons nil") => `(tactic| (k_here; (rename Fr _ _ _ _ => lF'); (with_unfolding_all refine' For_turns lF' ?_; k_whole)))
local macro_rules | `(tactic| walk_at "pyIter ref") => `(tactic| (k_here; (with_reducible show wpAny _ _ (pyIter (Value.ref _)) (fun it s₂ => TurnsAt _ _ _ _ _ _ _ _ _ it s₂) _ _); refine Stop.out ?_))
local macro_rules | `(tactic| walk_at $s:str) => if ["getMethod ref", "call builtin:re.Pattern.search", "call builtin:len", "call builtin:str.lower", "call builtin:str.swapcase", "eval ListComp", "CompSrcT", "SrcLP", "CompSrc", "CompEnd", "delItem ref", "call builtin:list.append", "call ref", "exec While", "subscriptTail Name Name str int", "LenBack", "binaryOp Add str str", "exec Assign cons ListComp", "subscriptTail Name Name ref int", "subscriptTail Name BinOp ref int", "compareOp Gt ref ref", "compareOp Lt ref ref", "call builtin:list.index", "SrcPT", "binaryOp Mult str int", "compareOp In int ref", "compareOp NotIn int ref", "compareOp NotEq ref ref", "compareOp Eq ref ref", "subscriptTail", "getMethod bytes", "call builtin:re.Pattern.match", "call builtin:re.Match.group", "call builtin:bytes.split", "truthy ref", "call type:tuple", "binaryOp Pow int int", "binaryOp FloorDiv int int", "binaryOp Mod int int", "call builtin:str.upper", "inplaceOp Add str str", "getMethod str", "UnrEndW", "call builtin:str.encode"].contains s.getString then `(tactic| ((fail_if_success (have : NoStop := by assumption)); refine Stop.out ?_)) else Lean.Macro.throwUnsupported
local macro_rules | `(tactic| k_all) => `(tactic| first | assumption | exact all_ne0 (by assumption) | exact all_ne0' (by assumption) | exact all_ne0a (by assumption) | exact all_ne0b (by assumption) | exact all_ne0c (by assumption) | (refine' all_ne ?h ?d; (case h => assumption); (case d => first | exact Nat.le_refl _ | ((try dsimp only); omega))) | (refine' all_ne' ?h ?d; (case h => assumption); (case d => first | exact Nat.le_refl _ | ((try dsimp only); omega))))
section
section
variable {w : World} {mean : ExcName → Option Value} {mg mb : Str → Option Value} {news : List (Addr × Obj)}
theorem conv_true {x : Addr} {y : Str} {t : Tok} (hl : y.length ≤ sizeLine) (hy : Cln codeN y) :
    CkClaim w mean mg mb 1 96 news [.ref x, .str y t] [(Str.ofString "name", .bool true)] (fun v news' => v = .str y t ∧ news = news') := by
  dsimp only [CkClaim]
  intros
  rename_i hret
  (refine wpAny_call ?_; (k_dflt (first | (refine' code_def ?k1 ?k2 ?k3 ?k4 ?k5 ?kA ?kF ?kK ?k6 ?k7 ?k8 ?k9 ?kB ?_ ?c2 ?c3 ?c4 ?c5; (case kA => exact rfl); (case kF => exact rfl); (case kK => first | exact rfl | assumption); (case k1 => k_asm); (case k2 => k_asm); (case k3 => k_asm); (case k4 => k_asm); (case k5 => k_asm); (case k6 => k_is); (case k7 => k_is); (case k8 => first | exact room_a (by assumption) (by decide) | omega | ktr_room | k_room); (case k9 => first | exact BindsTo.of_eq rfl | exact binds_K (by k_in) rfl (by k_is) rfl rfl rfl); (case c5 => decide); (case kB => exact locs rfl); (case c2 => exact rfl); (case c3 => exact rfl); (case c4 => exact rfl); k_whole; intro gE LE hE FGE FE NE BE XE TE; (try dsimp only); (try k_lift BE); (try k_fold)) | (refine' code_defC ?k1 ?k2 ?k3 ?k4 ?k5 ?kA ?kF ?kK ?k6 ?k7 ?k8 ?k9 ?kB ?kD ?_ ?c2 ?c3 ?c4; (case kA => exact rfl); (case kF => exact rfl); (case kK => first | exact rfl | assumption); (case k1 => k_asm); (case k2 => k_asm); (case k3 => k_asm); (case k4 => k_asm); (case k5 => k_asm); (case k6 => k_is); (case k7 => k_is); (case k8 => first | exact room_a (by assumption) (by decide) | omega | ktr_room | k_room); (case k9 => first | exact BindsTo.of_eq rfl | exact binds_K (by k_in) rfl (by k_is) rfl rfl rfl); (case kB => exact rfl); (case kD => decide +kernel); (case c2 => exact rfl); (case c3 => exact rfl); (case c4 => exact rfl); k_whole; intro gE LE hE tkE cells' FGE FE NE YE BE XE TE lE; (try k_lt lE); k_cells YE; (try simp only [List.cons_append, List.nil_append] at NE); (try dsimp only); (try k_lift BE); (try k_fold)))))
  (k_steps; repeat' (first | ((with_reducible (refine Stop.into ?_; (with_reducible show wpAny _ _ (call (Value.builtin "re.Pattern.search") _ _) _ _ _); k_dflt (first | (refine' search_none (pat_69F ?F ?X) (Or.inl rfl) ?h1 ?h2 ?_; (case F => k_asm); (case X => k_asm); (case h1 => assumption); (case h2 => assumption)) | (refine' search_none (pat_74F ?F ?X) (Or.inr rfl) ?h1 ?h2 ?_; (case F => k_asm); (case X => k_asm); (case h1 => assumption); (case h2 => assumption))))); k_steps) | ((with_reducible (refine Stop.into ?_; (with_reducible show wpAny _ _ (getMethod (Value.ref _) (Str.ofString "search") _) _ _ _); k_dflt (first | (refine' getM_search (pat_69F ?F ?X) ?_; (case F => k_asm); (case X => k_asm)) | (refine' getM_search (pat_74F ?F ?X) ?_; (case F => k_asm); (case X => k_asm))))); k_steps) | fail))
  exact hret _ _ _ _ (by k_asm) (by k_asm) ⟨rfl, rfl⟩
theorem conv_false {x : Addr} {y : Str} {t : Tok} (hl : y.length ≤ sizeLine) (hy : Cln codeV y) :
    CkClaim w mean mg mb 1 96 news [.ref x, .str y t] [(Str.ofString "name", .bool false)] (fun v news' => v = .str y t ∧ news = news') := by
  dsimp only [CkClaim]
  intros
  rename_i hret
  (refine wpAny_call ?_; (k_dflt (first | (refine' code_def ?k1 ?k2 ?k3 ?k4 ?k5 ?kA ?kF ?kK ?k6 ?k7 ?k8 ?k9 ?kB ?_ ?c2 ?c3 ?c4 ?c5; (case kA => exact rfl); (case kF => exact rfl); (case kK => first | exact rfl | assumption); (case k1 => k_asm); (case k2 => k_asm); (case k3 => k_asm); (case k4 => k_asm); (case k5 => k_asm); (case k6 => k_is); (case k7 => k_is); (case k8 => first | exact room_a (by assumption) (by decide) | omega | ktr_room | k_room); (case k9 => first | exact BindsTo.of_eq rfl | exact binds_K (by k_in) rfl (by k_is) rfl rfl rfl); (case c5 => decide); (case kB => exact locs rfl); (case c2 => exact rfl); (case c3 => exact rfl); (case c4 => exact rfl); k_whole; intro gE LE hE FGE FE NE BE XE TE; (try dsimp only); (try k_lift BE); (try k_fold)) | (refine' code_defC ?k1 ?k2 ?k3 ?k4 ?k5 ?kA ?kF ?kK ?k6 ?k7 ?k8 ?k9 ?kB ?kD ?_ ?c2 ?c3 ?c4; (case kA => exact rfl); (case kF => exact rfl); (case kK => first | exact rfl | assumption); (case k1 => k_asm); (case k2 => k_asm); (case k3 => k_asm); (case k4 => k_asm); (case k5 => k_asm); (case k6 => k_is); (case k7 => k_is); (case k8 => first | exact room_a (by assumption) (by decide) | omega | ktr_room | k_room); (case k9 => first | exact BindsTo.of_eq rfl | exact binds_K (by k_in) rfl (by k_is) rfl rfl rfl); (case kB => exact rfl); (case kD => decide +kernel); (case c2 => exact rfl); (case c3 => exact rfl); (case c4 => exact rfl); k_whole; intro gE LE hE tkE cells' FGE FE NE YE BE XE TE lE; (try k_lt lE); k_cells YE; (try simp only [List.cons_append, List.nil_append] at NE); (try dsimp only); (try k_lift BE); (try k_fold)))))
  (k_steps; repeat' (first | ((with_reducible (refine Stop.into ?_; (with_reducible show wpAny _ _ (call (Value.builtin "re.Pattern.search") _ _) _ _ _); k_dflt (first | (refine' search_none (pat_69F ?F ?X) (Or.inl rfl) ?h1 ?h2 ?_; (case F => k_asm); (case X => k_asm); (case h1 => assumption); (case h2 => assumption)) | (refine' search_none (pat_74F ?F ?X) (Or.inr rfl) ?h1 ?h2 ?_; (case F => k_asm); (case X => k_asm); (case h1 => assumption); (case h2 => assumption))))); k_steps) | ((with_reducible (refine Stop.into ?_; (with_reducible show wpAny _ _ (getMethod (Value.ref _) (Str.ofString "search") _) _ _ _); k_dflt (first | (refine' getM_search (pat_69F ?F ?X) ?_; (case F => k_asm); (case X => k_asm)) | (refine' getM_search (pat_74F ?F ?X) ?_; (case F => k_asm); (case X => k_asm))))); k_steps) | fail))
  exact hret _ _ _ _ (by k_asm) (by k_asm) ⟨rfl, rfl⟩
end
end
section
def getK (x : Fin 5) : List KV → Option Nat
  | [] => none
  | (y, _, n) :: r => if y = x then some n else getK x r
section
variable {w : World} {mean : ExcName → Option Value} {mg mb : Str → Option Value} {news : List (Addr × Obj)} {x l : Addr} {kvs : List KV}
theorem get_c (hH : HdrAt w news x l kvs) {y : Fin 5} {u : Bool} {t : Tok} :
    CkClaim w mean mg mb 3 144 news [.ref x, .str (fs y u) t] [] (fun v news' => (match getK y kvs with | some n => ∃ t, v = .str (pad n) t | none => v = .none) ∧ news = news') := by
  dsimp only [CkClaim]
  intros
  rename_i hret
  obtain ⟨dx, th, n, k, items, hx, hd, hl, hr⟩ := hH.at_
  (refine wpAny_call ?_; (k_dflt (first | (refine' code_def ?k1 ?k2 ?k3 ?k4 ?k5 ?kA ?kF ?kK ?k6 ?k7 ?k8 ?k9 ?kB ?_ ?c2 ?c3 ?c4 ?c5; (case kA => exact rfl); (case kF => exact rfl); (case kK => first | exact rfl | assumption); (case k1 => k_asm); (case k2 => k_asm); (case k3 => k_asm); (case k4 => k_asm); (case k5 => k_asm); (case k6 => k_is); (case k7 => k_is); (case k8 => first | exact room_a (by assumption) (by decide) | omega | ktr_room | k_room); (case k9 => first | exact BindsTo.of_eq rfl | exact binds_K (by k_in) rfl (by k_is) rfl rfl rfl); (case c5 => decide); (case kB => exact locs rfl); (case c2 => exact rfl); (case c3 => exact rfl); (case c4 => exact rfl); k_whole; intro gE LE hE FGE FE NE BE XE TE; (try dsimp only); (try k_lift BE); (try k_fold)) | (refine' code_defC ?k1 ?k2 ?k3 ?k4 ?k5 ?kA ?kF ?kK ?k6 ?k7 ?k8 ?k9 ?kB ?kD ?_ ?c2 ?c3 ?c4; (case kA => exact rfl); (case kF => exact rfl); (case kK => first | exact rfl | assumption); (case k1 => k_asm); (case k2 => k_asm); (case k3 => k_asm); (case k4 => k_asm); (case k5 => k_asm); (case k6 => k_is); (case k7 => k_is); (case k8 => first | exact room_a (by assumption) (by decide) | omega | ktr_room | k_room); (case k9 => first | exact BindsTo.of_eq rfl | exact binds_K (by k_in) rfl (by k_is) rfl rfl rfl); (case kB => exact rfl); (case kD => decide +kernel); (case c2 => exact rfl); (case c3 => exact rfl); (case c4 => exact rfl); k_whole; intro gE LE hE tkE cells' FGE FE NE YE BE XE TE lE; (try k_lt lE); k_cells YE; (try simp only [List.cons_append, List.nil_append] at NE); (try dsimp only); (try k_lift BE); (try k_fold)))))
  (k_steps; repeat' (first | ((with_reducible (refine Stop.into ?_; (with_reducible show wpAny _ _ (call (Value.builtin "str.lower") _ _) _ _ _); refine KXw.lower (lower_fs _ _) (tl_lower _ _) ?_; intro _ _)); k_steps) | ((with_reducible (refine Stop.into ?_; (with_reducible show wpAny _ _ (call (Value.ref _) _ _) _ _ _); k_dflt (first | (refine' ck_use0 (conv_true (fit_fs _ _) (cln_fs _ _)) ?kk ?_; (case kk => (refine' CkAt.mk ?k1 ?k2 ?k3 ?k4 ?k5 ?kK ?kd ?ku; ((case k1 => k_asm); (case k2 => k_asm); (case k3 => k_asm); (case k4 => k_asm); (case k5 => k_asm); (case kK => first | exact rfl | assumption); (case kd => first | exact room_a (by assumption) (by decide) | omega | ktr_room | k_room); (case ku => first | exact unit_a (by assumption) (by decide) | exact unit_b (by assumption) (by decide) | exact unit_c (by assumption) (by decide) | omega | ktr_units | k_units)))); intro _ _ _ _) | (refine' ck_use0 (conv_false (fit_pad _ ?hl) (cln_pad _)) ?kk ?_; (case kk => (refine' CkAt.mk ?k1 ?k2 ?k3 ?k4 ?k5 ?kK ?kd ?ku; ((case k1 => k_asm); (case k2 => k_asm); (case k3 => k_asm); (case k4 => k_asm); (case k5 => k_asm); (case kK => first | exact rfl | assumption); (case kd => first | exact room_a (by assumption) (by decide) | omega | ktr_room | k_room); (case ku => first | exact unit_a (by assumption) (by decide) | exact unit_b (by assumption) (by decide) | exact unit_c (by assumption) (by decide) | omega | ktr_units | k_units)))); (case hl => first | assumption | omega); intro _ _ _ _)))); k_steps) | ((with_reducible refine Stop.into ?_); (with_reducible show wpAny _ _ _ _ _ _); (fail_if_success (with_reducible show wpAny _ _ (pyIter _) _ _ _)); have hNS : NoStop := noStop; walk1; all_goals clear hNS; k_steps) | fail))
  refine Stop.into (iter_listTurns (vs := items) rfl (by k_asm) (by k_asm) hl rfl rfl fun I hI => ?_)
  refine items_ind (I := I) [Str.ofString "k", Str.ofString "v"] (fun r n' => news = n' ∧ ∃ kvs', Rows news r kvs' ∧ getK y kvs = getK y kvs') ?turn ?done items _ news (fun _ _ => rfl) ⟨rfl, kvs, hr, rfl⟩
  case turn =>
    rintro v r n' u h tk o ⟨rfl, kvs', hr', he⟩ hc F N
    cases hr'
    rename_i a' x' u' n' t1 t2 kvs' hm hr'
    (k_steps; repeat' (first | ((with_reducible (refine Stop.into ?_; (with_reducible show wpAny _ _ (call (Value.builtin "str.lower") _ _) _ _ _); refine KXw.lower (lower_fs _ _) (tl_lower _ _) ?_; intro _ _)); k_steps) | ((with_reducible refine Stop.into ?_); (with_reducible show wpAny _ _ _ _ _ _); (fail_if_success (with_reducible show wpAny _ _ (pyIter _) _ _ _)); have hNS : NoStop := noStop; walk1; all_goals clear hNS; k_steps) | fail))
    · rename (fs _ _ == fs _ _) = true => hq
      obtain rfl := fs_inj (eq_of_beq hq)
      exact hret _ _ _ _ (by k_asm) (cb_drop (by k_asm) fun p hp => List.mem_cons_of_mem _ hp) ⟨by rw [he]; simp only [getK, if_true]; exact ⟨_, rfl⟩, rfl⟩
    · rename (fs _ _ == fs _ _) = false => hq
      refine Stop.into ?_; refine turn_end (by k_asm) (by k_asm) (List.mem_cons_self ..) (fun p hp => List.mem_cons_of_mem _ hp) (fun p hp => Nat.ne_of_lt (hI p hp)) ⟨⟨hl, trivial⟩, ?_, rfl, _, hr', ?_⟩
      · (intro z hz; (try dsimp only); (repeat' (first | exact ovr_off hz | refine (off_if hz (by simp)).trans ?_)))
      · rw [he]
        simp only [getK]
        rw [if_neg]
        rintro rfl
        simp at hq
  case done =>
    rintro n' u h tk ⟨rfl, kvs', hr', he⟩ F N
    cases hr'
    k_steps
    exact hret _ _ _ _ (by k_asm) (by k_asm) ⟨by rw [he]; rfl, rfl⟩
theorem get_some (hH : HdrAt w news x l kvs) {y : Fin 5} {u : Bool} {t : Tok} {n : Nat} (hn : getK y kvs = some n) :
    CkClaim w mean mg mb 3 144 news [.ref x, .str (fs y u) t] [] (fun v news' => (∃ t, v = .str (pad n) t) ∧ news = news') := fun _ _ _ _ _ _ _ _ _ _ _ _ _ _ _ _ _ B F X N T hk hd hu k =>
  ck_use (get_c hH) B F X N T hk hd hu fun v h' tk' news' F' N' ⟨e1, e2⟩ => k v h' tk' news' F' N' ⟨by rw [hn] at e1; exact e1, e2⟩
theorem get_none (hH : HdrAt w news x l kvs) {y : Fin 5} {u : Bool} {t : Tok} (hn : getK y kvs = none) :
    CkClaim w mean mg mb 3 144 news [.ref x, .str (fs y u) t] [] (fun v news' => v = .none ∧ news = news') := fun _ _ _ _ _ _ _ _ _ _ _ _ _ _ _ _ _ B F X N T hk hd hu k =>
  ck_use (get_c hH) B F X N T hk hd hu fun v h' tk' news' F' N' ⟨e1, e2⟩ => k v h' tk' news' F' N' ⟨by rw [hn] at e1; exact e1, e2⟩
theorem contains_c (hH : HdrAt w news x l kvs) {y : Fin 5} {u : Bool} {t : Tok} :
    CkClaim w mean mg mb 5 129 news [.ref x, .str (fs y u) t] [] (fun v news' => v = .bool (getK y kvs).isSome ∧ news = news') := by
  dsimp only [CkClaim]
  intros
  rename_i hret
  obtain ⟨dx, th, n, k, items, hx, hd, hl, hr⟩ := hH.at_
  cases hg : getK y kvs with
  | none =>
    (refine wpAny_call ?_; (k_dflt (first | (refine' code_def ?k1 ?k2 ?k3 ?k4 ?k5 ?kA ?kF ?kK ?k6 ?k7 ?k8 ?k9 ?kB ?_ ?c2 ?c3 ?c4 ?c5; (case kA => exact rfl); (case kF => exact rfl); (case kK => first | exact rfl | assumption); (case k1 => k_asm); (case k2 => k_asm); (case k3 => k_asm); (case k4 => k_asm); (case k5 => k_asm); (case k6 => k_is); (case k7 => k_is); (case k8 => first | exact room_a (by assumption) (by decide) | omega | ktr_room | k_room); (case k9 => first | exact BindsTo.of_eq rfl | exact binds_K (by k_in) rfl (by k_is) rfl rfl rfl); (case c5 => decide); (case kB => exact locs rfl); (case c2 => exact rfl); (case c3 => exact rfl); (case c4 => exact rfl); k_whole; intro gE LE hE FGE FE NE BE XE TE; (try dsimp only); (try k_lift BE); (try k_fold)) | (refine' code_defC ?k1 ?k2 ?k3 ?k4 ?k5 ?kA ?kF ?kK ?k6 ?k7 ?k8 ?k9 ?kB ?kD ?_ ?c2 ?c3 ?c4; (case kA => exact rfl); (case kF => exact rfl); (case kK => first | exact rfl | assumption); (case k1 => k_asm); (case k2 => k_asm); (case k3 => k_asm); (case k4 => k_asm); (case k5 => k_asm); (case k6 => k_is); (case k7 => k_is); (case k8 => first | exact room_a (by assumption) (by decide) | omega | ktr_room | k_room); (case k9 => first | exact BindsTo.of_eq rfl | exact binds_K (by k_in) rfl (by k_is) rfl rfl rfl); (case kB => exact rfl); (case kD => decide +kernel); (case c2 => exact rfl); (case c3 => exact rfl); (case c4 => exact rfl); k_whole; intro gE LE hE tkE cells' FGE FE NE YE BE XE TE lE; (try k_lt lE); k_cells YE; (try simp only [List.cons_append, List.nil_append] at NE); (try dsimp only); (try k_lift BE); (try k_fold)))))
    (k_steps; repeat' (first | ((with_reducible (refine Stop.into ?_; (with_reducible show wpAny _ _ (call (Value.ref _) _ _) _ _ _); k_dflt (first | (refine' ck_useT (get_some ?hH ?hn) ?kk ?_; (case kk => (refine' CkAt.mk ?k1 ?k2 ?k3 ?k4 ?k5 ?kK ?kd ?ku; ((case k1 => k_asm); (case k2 => k_asm); (case k3 => k_asm); (case k4 => k_asm); (case k5 => k_asm); (case kK => first | exact rfl | assumption); (case kd => first | exact room_a (by assumption) (by decide) | omega | ktr_room | k_room); (case ku => first | exact unit_a (by assumption) (by decide) | exact unit_b (by assumption) (by decide) | exact unit_c (by assumption) (by decide) | omega | ktr_units | k_units)))); (case hH => first | assumption | (refine' HdrAt.mono ?hs9 ?hh9; (case hh9 => assumption); (case hs9 => (intro p hp; (repeat (first | exact hp | assumption | refine List.mem_cons_of_mem _ ?_)))))); (case hn => assumption); intro _ _ _ _ _) | (refine' ck_use0 (get_none ?hH ?hn) ?kk ?_; (case kk => (refine' CkAt.mk ?k1 ?k2 ?k3 ?k4 ?k5 ?kK ?kd ?ku; ((case k1 => k_asm); (case k2 => k_asm); (case k3 => k_asm); (case k4 => k_asm); (case k5 => k_asm); (case kK => first | exact rfl | assumption); (case kd => first | exact room_a (by assumption) (by decide) | omega | ktr_room | k_room); (case ku => first | exact unit_a (by assumption) (by decide) | exact unit_b (by assumption) (by decide) | exact unit_c (by assumption) (by decide) | omega | ktr_units | k_units)))); (case hH => first | assumption | (refine' HdrAt.mono ?hs9 ?hh9; (case hh9 => assumption); (case hs9 => (intro p hp; (repeat (first | exact hp | assumption | refine List.mem_cons_of_mem _ ?_)))))); (case hn => assumption); intro _ _ _ _)))); k_steps) | ((with_reducible refine Stop.into ?_); (with_reducible show wpAny _ _ _ _ _ _); (fail_if_success (with_reducible show wpAny _ _ (pyIter _) _ _ _)); have hNS : NoStop := noStop; walk1; all_goals clear hNS; k_steps) | fail))
    exact hret _ _ _ _ (by k_asm) (by k_asm) ⟨by rw [hg]; rfl, rfl⟩
  | some n0 =>
    (refine wpAny_call ?_; (k_dflt (first | (refine' code_def ?k1 ?k2 ?k3 ?k4 ?k5 ?kA ?kF ?kK ?k6 ?k7 ?k8 ?k9 ?kB ?_ ?c2 ?c3 ?c4 ?c5; (case kA => exact rfl); (case kF => exact rfl); (case kK => first | exact rfl | assumption); (case k1 => k_asm); (case k2 => k_asm); (case k3 => k_asm); (case k4 => k_asm); (case k5 => k_asm); (case k6 => k_is); (case k7 => k_is); (case k8 => first | exact room_a (by assumption) (by decide) | omega | ktr_room | k_room); (case k9 => first | exact BindsTo.of_eq rfl | exact binds_K (by k_in) rfl (by k_is) rfl rfl rfl); (case c5 => decide); (case kB => exact locs rfl); (case c2 => exact rfl); (case c3 => exact rfl); (case c4 => exact rfl); k_whole; intro gE LE hE FGE FE NE BE XE TE; (try dsimp only); (try k_lift BE); (try k_fold)) | (refine' code_defC ?k1 ?k2 ?k3 ?k4 ?k5 ?kA ?kF ?kK ?k6 ?k7 ?k8 ?k9 ?kB ?kD ?_ ?c2 ?c3 ?c4; (case kA => exact rfl); (case kF => exact rfl); (case kK => first | exact rfl | assumption); (case k1 => k_asm); (case k2 => k_asm); (case k3 => k_asm); (case k4 => k_asm); (case k5 => k_asm); (case k6 => k_is); (case k7 => k_is); (case k8 => first | exact room_a (by assumption) (by decide) | omega | ktr_room | k_room); (case k9 => first | exact BindsTo.of_eq rfl | exact binds_K (by k_in) rfl (by k_is) rfl rfl rfl); (case kB => exact rfl); (case kD => decide +kernel); (case c2 => exact rfl); (case c3 => exact rfl); (case c4 => exact rfl); k_whole; intro gE LE hE tkE cells' FGE FE NE YE BE XE TE lE; (try k_lt lE); k_cells YE; (try simp only [List.cons_append, List.nil_append] at NE); (try dsimp only); (try k_lift BE); (try k_fold)))))
    (k_steps; repeat' (first | ((with_reducible (refine Stop.into ?_; (with_reducible show wpAny _ _ (call (Value.ref _) _ _) _ _ _); k_dflt (first | (refine' ck_useT (get_some ?hH ?hn) ?kk ?_; (case kk => (refine' CkAt.mk ?k1 ?k2 ?k3 ?k4 ?k5 ?kK ?kd ?ku; ((case k1 => k_asm); (case k2 => k_asm); (case k3 => k_asm); (case k4 => k_asm); (case k5 => k_asm); (case kK => first | exact rfl | assumption); (case kd => first | exact room_a (by assumption) (by decide) | omega | ktr_room | k_room); (case ku => first | exact unit_a (by assumption) (by decide) | exact unit_b (by assumption) (by decide) | exact unit_c (by assumption) (by decide) | omega | ktr_units | k_units)))); (case hH => first | assumption | (refine' HdrAt.mono ?hs9 ?hh9; (case hh9 => assumption); (case hs9 => (intro p hp; (repeat (first | exact hp | assumption | refine List.mem_cons_of_mem _ ?_)))))); (case hn => assumption); intro _ _ _ _ _) | (refine' ck_use0 (get_none ?hH ?hn) ?kk ?_; (case kk => (refine' CkAt.mk ?k1 ?k2 ?k3 ?k4 ?k5 ?kK ?kd ?ku; ((case k1 => k_asm); (case k2 => k_asm); (case k3 => k_asm); (case k4 => k_asm); (case k5 => k_asm); (case kK => first | exact rfl | assumption); (case kd => first | exact room_a (by assumption) (by decide) | omega | ktr_room | k_room); (case ku => first | exact unit_a (by assumption) (by decide) | exact unit_b (by assumption) (by decide) | exact unit_c (by assumption) (by decide) | omega | ktr_units | k_units)))); (case hH => first | assumption | (refine' HdrAt.mono ?hs9 ?hh9; (case hh9 => assumption); (case hs9 => (intro p hp; (repeat (first | exact hp | assumption | refine List.mem_cons_of_mem _ ?_)))))); (case hn => assumption); intro _ _ _ _)))); k_steps) | ((with_reducible refine Stop.into ?_); (with_reducible show wpAny _ _ _ _ _ _); (fail_if_success (with_reducible show wpAny _ _ (pyIter _) _ _ _)); have hNS : NoStop := noStop; walk1; all_goals clear hNS; k_steps) | fail))
    exact hret _ _ _ _ (by k_asm) (by k_asm) ⟨by rw [hg]; rfl, rfl⟩
theorem getitem_c (hH : HdrAt w news x l kvs) {y : Fin 5} {u : Bool} {t : Tok} {n : Nat} (hn : getK y kvs = some n) :
    CkClaim w mean mg mb 5 122 news [.ref x, .str (fs y u) t] [] (fun v news' => (∃ t, v = .str (pad n) t) ∧ news = news') := by
  dsimp only [CkClaim]
  intros
  rename_i hret
  obtain ⟨dx, th, n, k, items, hx, hd, hl, hr⟩ := hH.at_
  (refine wpAny_call ?_; (k_dflt (first | (refine' code_def ?k1 ?k2 ?k3 ?k4 ?k5 ?kA ?kF ?kK ?k6 ?k7 ?k8 ?k9 ?kB ?_ ?c2 ?c3 ?c4 ?c5; (case kA => exact rfl); (case kF => exact rfl); (case kK => first | exact rfl | assumption); (case k1 => k_asm); (case k2 => k_asm); (case k3 => k_asm); (case k4 => k_asm); (case k5 => k_asm); (case k6 => k_is); (case k7 => k_is); (case k8 => first | exact room_a (by assumption) (by decide) | omega | ktr_room | k_room); (case k9 => first | exact BindsTo.of_eq rfl | exact binds_K (by k_in) rfl (by k_is) rfl rfl rfl); (case c5 => decide); (case kB => exact locs rfl); (case c2 => exact rfl); (case c3 => exact rfl); (case c4 => exact rfl); k_whole; intro gE LE hE FGE FE NE BE XE TE; (try dsimp only); (try k_lift BE); (try k_fold)) | (refine' code_defC ?k1 ?k2 ?k3 ?k4 ?k5 ?kA ?kF ?kK ?k6 ?k7 ?k8 ?k9 ?kB ?kD ?_ ?c2 ?c3 ?c4; (case kA => exact rfl); (case kF => exact rfl); (case kK => first | exact rfl | assumption); (case k1 => k_asm); (case k2 => k_asm); (case k3 => k_asm); (case k4 => k_asm); (case k5 => k_asm); (case k6 => k_is); (case k7 => k_is); (case k8 => first | exact room_a (by assumption) (by decide) | omega | ktr_room | k_room); (case k9 => first | exact BindsTo.of_eq rfl | exact binds_K (by k_in) rfl (by k_is) rfl rfl rfl); (case kB => exact rfl); (case kD => decide +kernel); (case c2 => exact rfl); (case c3 => exact rfl); (case c4 => exact rfl); k_whole; intro gE LE hE tkE cells' FGE FE NE YE BE XE TE lE; (try k_lt lE); k_cells YE; (try simp only [List.cons_append, List.nil_append] at NE); (try dsimp only); (try k_lift BE); (try k_fold)))))
  (k_steps; repeat' (first | ((with_reducible (refine Stop.into ?_; (with_reducible show wpAny _ _ (call (Value.ref _) _ _) _ _ _); k_dflt (first | (refine' ck_useT (get_some ?hH ?hn) ?kk ?_; (case kk => (refine' CkAt.mk ?k1 ?k2 ?k3 ?k4 ?k5 ?kK ?kd ?ku; ((case k1 => k_asm); (case k2 => k_asm); (case k3 => k_asm); (case k4 => k_asm); (case k5 => k_asm); (case kK => first | exact rfl | assumption); (case kd => first | exact room_a (by assumption) (by decide) | omega | ktr_room | k_room); (case ku => first | exact unit_a (by assumption) (by decide) | exact unit_b (by assumption) (by decide) | exact unit_c (by assumption) (by decide) | omega | ktr_units | k_units)))); (case hH => first | assumption | (refine' HdrAt.mono ?hs9 ?hh9; (case hh9 => assumption); (case hs9 => (intro p hp; (repeat (first | exact hp | assumption | refine List.mem_cons_of_mem _ ?_)))))); (case hn => assumption); intro _ _ _ _ _) | (refine' ck_use0 (get_none ?hH ?hn) ?kk ?_; (case kk => (refine' CkAt.mk ?k1 ?k2 ?k3 ?k4 ?k5 ?kK ?kd ?ku; ((case k1 => k_asm); (case k2 => k_asm); (case k3 => k_asm); (case k4 => k_asm); (case k5 => k_asm); (case kK => first | exact rfl | assumption); (case kd => first | exact room_a (by assumption) (by decide) | omega | ktr_room | k_room); (case ku => first | exact unit_a (by assumption) (by decide) | exact unit_b (by assumption) (by decide) | exact unit_c (by assumption) (by decide) | omega | ktr_units | k_units)))); (case hH => first | assumption | (refine' HdrAt.mono ?hs9 ?hh9; (case hh9 => assumption); (case hs9 => (intro p hp; (repeat (first | exact hp | assumption | refine List.mem_cons_of_mem _ ?_)))))); (case hn => assumption); intro _ _ _ _)))); k_steps) | ((with_reducible refine Stop.into ?_); (with_reducible show wpAny _ _ _ _ _ _); (fail_if_success (with_reducible show wpAny _ _ (pyIter _) _ _ _)); have hNS : NoStop := noStop; walk1; all_goals clear hNS; k_steps) | fail))
  exact hret _ _ _ _ (by k_asm) (by k_asm) ⟨⟨_, rfl⟩, rfl⟩
theorem len_c (hH : HdrAt w news x l kvs) (hk : kvs.length ≤ 50) :
    CkClaim w mean mg mb 3 103 news [.ref x] [] (fun v news' => (∃ t, v = .int kvs.length t) ∧ news = news') := by
  dsimp only [CkClaim]
  intros
  rename_i hret
  obtain ⟨dx, th, n, k, items, hx, hd, hl, hr⟩ := hH.at_
  have hlen := hr.len
  (refine wpAny_call ?_; (k_dflt (first | (refine' code_def ?k1 ?k2 ?k3 ?k4 ?k5 ?kA ?kF ?kK ?k6 ?k7 ?k8 ?k9 ?kB ?_ ?c2 ?c3 ?c4 ?c5; (case kA => exact rfl); (case kF => exact rfl); (case kK => first | exact rfl | assumption); (case k1 => k_asm); (case k2 => k_asm); (case k3 => k_asm); (case k4 => k_asm); (case k5 => k_asm); (case k6 => k_is); (case k7 => k_is); (case k8 => first | exact room_a (by assumption) (by decide) | omega | ktr_room | k_room); (case k9 => first | exact BindsTo.of_eq rfl | exact binds_K (by k_in) rfl (by k_is) rfl rfl rfl); (case c5 => decide); (case kB => exact locs rfl); (case c2 => exact rfl); (case c3 => exact rfl); (case c4 => exact rfl); k_whole; intro gE LE hE FGE FE NE BE XE TE; (try dsimp only); (try k_lift BE); (try k_fold)) | (refine' code_defC ?k1 ?k2 ?k3 ?k4 ?k5 ?kA ?kF ?kK ?k6 ?k7 ?k8 ?k9 ?kB ?kD ?_ ?c2 ?c3 ?c4; (case kA => exact rfl); (case kF => exact rfl); (case kK => first | exact rfl | assumption); (case k1 => k_asm); (case k2 => k_asm); (case k3 => k_asm); (case k4 => k_asm); (case k5 => k_asm); (case k6 => k_is); (case k7 => k_is); (case k8 => first | exact room_a (by assumption) (by decide) | omega | ktr_room | k_room); (case k9 => first | exact BindsTo.of_eq rfl | exact binds_K (by k_in) rfl (by k_is) rfl rfl rfl); (case kB => exact rfl); (case kD => decide +kernel); (case c2 => exact rfl); (case c3 => exact rfl); (case c4 => exact rfl); k_whole; intro gE LE hE tkE cells' FGE FE NE YE BE XE TE lE; (try k_lt lE); k_cells YE; (try simp only [List.cons_append, List.nil_append] at NE); (try dsimp only); (try k_lift BE); (try k_fold)))))
  (k_steps; repeat' (first | ((with_reducible (refine Stop.into ?_; (with_reducible show wpAny _ _ (call (Value.builtin "len") [Value.ref _]) _ _ _); k_dflt (refine' len_lst ?N ?hl ?hf ?_; (case N => k_asm); (case hl => k_mem); (case hf => (simp only [List.size_toArray] at *; omega))))); k_steps) | fail))
  exact hret _ _ _ _ (by k_asm) (by k_asm) ⟨⟨_, by rw [← hlen, List.size_toArray]⟩, rfl⟩
end
end
section
def delK (x : Fin 5) (kvs : List KV) : List KV := kvs.filter fun p => !(p.1 == x)
theorem delK_take {y x : Fin 5} {u : Bool} {n i : Nat} {kvs : List KV} (h : kvs[i]? = some (x, u, n)) : delK y (kvs.take (i + 1)) = delK y (kvs.take i) ++ if x = y then [] else [(x, u, n)] := by
  rw [List.take_add_one, h]
  simp only [delK, List.filter_append]
  by_cases e : x = y <;> simp [e]
section
variable {w : World} {mean : ExcName → Option Value} {mg mb : Str → Option Value} {news : List (Addr × Obj)} {x l : Addr} {kvs : List KV}
theorem delitem_c (hH : HdrAt w news x l kvs) (hz : kvs.length ≤ 50) {y : Fin 5} {u : Bool} {t : Tok} :
    CkClaim w mean mg mb 4 115 news [.ref x, .str (fs y u) t] [] (fun v news' => v = .none ∧ HdrAt w news' x l (delK y kvs) ∧ ∀ p ∈ news, p.1 ≠ l → p ∈ news') := by
  dsimp only [CkClaim]
  intros
  rename_i hret
  obtain ⟨dx, th, n, k, items, hx, hd, hl, hr⟩ := hH.at_
  have hsz : items.toArray.size ≤ sizeLine := by rw [sizeLine_eq, List.size_toArray, hr.len]; omega
  (refine wpAny_call ?_; (k_dflt (first | (refine' code_def ?k1 ?k2 ?k3 ?k4 ?k5 ?kA ?kF ?kK ?k6 ?k7 ?k8 ?k9 ?kB ?_ ?c2 ?c3 ?c4 ?c5; (case kA => exact rfl); (case kF => exact rfl); (case kK => first | exact rfl | assumption); (case k1 => k_asm); (case k2 => k_asm); (case k3 => k_asm); (case k4 => k_asm); (case k5 => k_asm); (case k6 => k_is); (case k7 => k_is); (case k8 => first | exact room_a (by assumption) (by decide) | omega | ktr_room | k_room); (case k9 => first | exact BindsTo.of_eq rfl | exact binds_K (by k_in) rfl (by k_is) rfl rfl rfl); (case c5 => decide); (case kB => exact locs rfl); (case c2 => exact rfl); (case c3 => exact rfl); (case c4 => exact rfl); k_whole; intro gE LE hE FGE FE NE BE XE TE; (try dsimp only); (try k_lift BE); (try k_fold)) | (refine' code_defC ?k1 ?k2 ?k3 ?k4 ?k5 ?kA ?kF ?kK ?k6 ?k7 ?k8 ?k9 ?kB ?kD ?_ ?c2 ?c3 ?c4; (case kA => exact rfl); (case kF => exact rfl); (case kK => first | exact rfl | assumption); (case k1 => k_asm); (case k2 => k_asm); (case k3 => k_asm); (case k4 => k_asm); (case k5 => k_asm); (case k6 => k_is); (case k7 => k_is); (case k8 => first | exact room_a (by assumption) (by decide) | omega | ktr_room | k_room); (case k9 => first | exact BindsTo.of_eq rfl | exact binds_K (by k_in) rfl (by k_is) rfl rfl rfl); (case kB => exact rfl); (case kD => decide +kernel); (case c2 => exact rfl); (case c3 => exact rfl); (case c4 => exact rfl); k_whole; intro gE LE hE tkE cells' FGE FE NE YE BE XE TE lE; (try k_lt lE); k_cells YE; (try simp only [List.cons_append, List.nil_append] at NE); (try dsimp only); (try k_lift BE); (try k_fold)))))
  (k_steps; repeat' (first | ((with_reducible (refine Stop.into ?_; (with_reducible show wpAny _ _ (call (Value.builtin "str.lower") _ _) _ _ _); refine KXw.lower (lower_fs _ _) (tl_lower _ _) ?_; intro _ _)); k_steps) | ((with_reducible (refine Stop.into ?_; (with_reducible show wpAny _ _ (call (Value.ref _) _ _) _ _ _); k_dflt (first | (refine' ck_use0 (conv_true (fit_fs _ _) (cln_fs _ _)) ?kk ?_; (case kk => (refine' CkAt.mk ?k1 ?k2 ?k3 ?k4 ?k5 ?kK ?kd ?ku; ((case k1 => k_asm); (case k2 => k_asm); (case k3 => k_asm); (case k4 => k_asm); (case k5 => k_asm); (case kK => first | exact rfl | assumption); (case kd => first | exact room_a (by assumption) (by decide) | omega | ktr_room | k_room); (case ku => first | exact unit_a (by assumption) (by decide) | exact unit_b (by assumption) (by decide) | exact unit_c (by assumption) (by decide) | omega | ktr_units | k_units)))); intro _ _ _ _) | (refine' ck_use0 (conv_false (fit_pad _ ?hl) (cln_pad _)) ?kk ?_; (case kk => (refine' CkAt.mk ?k1 ?k2 ?k3 ?k4 ?k5 ?kK ?kd ?ku; ((case k1 => k_asm); (case k2 => k_asm); (case k3 => k_asm); (case k4 => k_asm); (case k5 => k_asm); (case kK => first | exact rfl | assumption); (case kd => first | exact room_a (by assumption) (by decide) | omega | ktr_room | k_room); (case ku => first | exact unit_a (by assumption) (by decide) | exact unit_b (by assumption) (by decide) | exact unit_c (by assumption) (by decide) | omega | ktr_units | k_units)))); (case hl => first | assumption | omega); intro _ _ _ _)))); k_steps) | ((with_reducible refine Stop.into ?_); (with_reducible show wpAny _ _ _ _ _ _); (fail_if_success (with_reducible show wpAny _ _ (pyIter _) _ _ _)); (fail_if_success (with_reducible show wpAny _ _ (eval (Expr.ListComp _ _ _ _) _) _ _ _)); have hNS : NoStop := noStop; walk1; all_goals clear hNS; k_steps) | fail))
  rename _ = Data.cell (some _) => hcell
  refine Stop.into (LCt.ListComp_T (F₀ := by k_asm) (by with_unfolding_all rfl) (by decide) (by rfl) (by decide) (by rfl) ?_)
  k_steps
  have hlen := hr.len
  refine Stop.into (LCt.CompSrcT.ledger (its := items.toArray) (by rfl) (by k_asm) (by k_asm) (by k_mem) hsz fun g => ?_)
  refine compT_indC (n := items.toArray.size) (J := fun i ys => Rows news ys (delK y (kvs.take i))) ?turn ?fin _ _ _ (Nat.zero_add _) .nil
  case turn =>
    intro i v ys I oI C oC D m₂ h tk E' hi hP hJ hC hx' F N off ne
    obtain ⟨a, x', u', n', t1, t2, rfl, hkv, hm⟩ := hr.get (by simpa using hP)
    (k_steps; repeat' (first | ((with_reducible (refine Stop.into ?_; (with_reducible show wpAny _ _ (call (Value.builtin "str.lower") _ _) _ _ _); refine KXw.lower (lower_fs _ _) (tl_lower _ _) ?_; intro _ _)); k_steps) | ((with_reducible refine Stop.into ?_); (with_reducible show wpAny _ _ _ _ _ _); (fail_if_success (with_reducible show wpAny _ _ (pyIter _) _ _ _)); (fail_if_success (with_reducible show wpAny _ _ (eval (Expr.ListComp _ _ _ _) _) _ _ _)); have hNS : NoStop := noStop; walk1; all_goals clear hNS; k_steps) | fail))
    · rename (fs _ _ != fs _ _) = true => hq
      refine LCg.CompEnd.intro (by k_asm) (by k_asm) _ (fun p hp => hp) off (.inr ⟨_, by k_mem, rfl, _, rfl⟩) ⟨rfl, ?_⟩
      rw [delK_take hkv, if_neg (by rintro rfl; simp at hq)]
      exact (Rows.cons hm .nil).append hJ
    · rename (fs _ _ != fs _ _) = false => hq
      refine LCg.CompEnd.intro (by k_asm) (by k_asm) _ (fun p hp => hp) off (.inr ⟨_, by k_mem, rfl, _, rfl⟩) ⟨rfl, ?_⟩
      rw [delK_take hkv, if_pos (fs_inj (by simpa using hq)), List.append_nil]
      exact hJ
  case fin =>
    intro ys hJ
    intro D h tk F N o1
    k_steps
    rw [List.size_toArray, hlen, List.take_length] at hJ
    have hys : ys.length ≤ 50 := by rw [hJ.len]; exact Nat.le_trans (List.length_filter_le _ _) hz
    refine set_all_K (F.push _) (N.push F _) (Heap.IsSliceOf.new ..) (by k_mem) (List.mem_cons_of_mem _ (List.mem_cons_self ..)) ?hne (by simp only [List.size_toArray]; omega) (by simp only [List.size_toArray]; omega) fun h' n2 news' F' N' hl' hk' => ?_
    case hne =>
      rintro rfl
      exact off1_mem o1 _ (List.mem_cons_of_mem _ hl) rfl
    k_steps
    have hk2 : ∀ p ∈ news, p.1 ≠ l → p ∈ news' := fun p hp hq => hk' p (List.mem_cons_of_mem _ (List.mem_cons_of_mem _ (List.mem_cons_of_mem _ hp))) hq
    have N2 := cb_drop N fun p hp => List.mem_cons_of_mem _ (List.mem_cons_of_mem _ hp)
    exact hret _ _ _ _ (by k_asm) (by k_asm) ⟨rfl, hdr_upd N2 hx hd hl hk2 hl' (hJ.keep N2 hl hk2), hk2⟩
theorem setitem_fin {g h : Heap} {L D dx : Addr} {th : Tok} {c k k2 : Nat} {items : List Value} {kv1 : List KV} {n1 n2 : List (Addr × Obj)} {y : Fin 5} {u : Bool} {n : Nat} {t t' : Tok} (hK : ∀ p ∈ news, p.1 ≠ l → p ∈ n1) (N : News g L h ((D, tupO y u n t t') :: n1))
    (hx : (x, instObj 197 dx) ∈ n1) (hd : (dx, dictOf [⟨PyData.keyHash w.params (Str.ofString "_headers"), .str (Str.ofString "_headers") th, .ref l⟩] c) ∈ n1) (hl : (l, listOf (List.toArray items) k) ∈ n1) (hr : Rows n1 items kv1)
    (hk' : ∀ p ∈ (D, tupO y u n t t') :: n1, p.1 ≠ l → p ∈ n2) (hl2 : (l, listOf ((List.toArray items).push (.ref D)) k2) ∈ n2) : HdrAt w n2 x l (kv1 ++ [(y, u, n)]) ∧ ∀ p ∈ news, p.1 ≠ l → p ∈ n2 := by
  have hl' := List.mem_cons_of_mem (D, tupO y u n t t') hl
  have hne : D ≠ l := ne_objs N (List.mem_cons_self ..) hl' (by intro e; injection e with e; exact absurd e (by decide))
  refine ⟨hdr_upd (items := items ++ [.ref D]) N (List.mem_cons_of_mem _ hx) (List.mem_cons_of_mem _ hd) hl' hk' (by rw [← List.push_toArray]; exact hl2) ?_, fun p hp hq => hk' _ (List.mem_cons_of_mem _ (hK p hp hq)) hq⟩
  exact (Rows.cons (hk' _ (List.mem_cons_self ..) hne) .nil).append ((hr.mono fun p hp => List.mem_cons_of_mem _ hp).keep N hl' hk')
theorem setitem_c (hH : HdrAt w news x l kvs) (hz : kvs.length ≤ 50) {y : Fin 5} {u : Bool} {n : Nat} (hn : n ≤ 1000) {t t' : Tok} :
    CkClaim w mean mg mb 6 110 news [.ref x, .str (fs y u) t, .str (pad n) t'] [] (fun v news' => v = .none ∧ HdrAt w news' x l (delK y kvs ++ [(y, u, n)]) ∧ ∀ p ∈ news, p.1 ≠ l → p ∈ news') := by
  dsimp only [CkClaim]
  intros
  rename_i hret
  obtain ⟨dx, th, n, k, items, hx, hd, hl, hr⟩ := hH.at_
  (refine wpAny_call ?_; (k_dflt (first | (refine' code_def ?k1 ?k2 ?k3 ?k4 ?k5 ?kA ?kF ?kK ?k6 ?k7 ?k8 ?k9 ?kB ?_ ?c2 ?c3 ?c4 ?c5; (case kA => exact rfl); (case kF => exact rfl); (case kK => first | exact rfl | assumption); (case k1 => k_asm); (case k2 => k_asm); (case k3 => k_asm); (case k4 => k_asm); (case k5 => k_asm); (case k6 => k_is); (case k7 => k_is); (case k8 => first | exact room_a (by assumption) (by decide) | omega | ktr_room | k_room); (case k9 => first | exact BindsTo.of_eq rfl | exact binds_K (by k_in) rfl (by k_is) rfl rfl rfl); (case c5 => decide); (case kB => exact locs rfl); (case c2 => exact rfl); (case c3 => exact rfl); (case c4 => exact rfl); k_whole; intro gE LE hE FGE FE NE BE XE TE; (try dsimp only); (try k_lift BE); (try k_fold)) | (refine' code_defC ?k1 ?k2 ?k3 ?k4 ?k5 ?kA ?kF ?kK ?k6 ?k7 ?k8 ?k9 ?kB ?kD ?_ ?c2 ?c3 ?c4; (case kA => exact rfl); (case kF => exact rfl); (case kK => first | exact rfl | assumption); (case k1 => k_asm); (case k2 => k_asm); (case k3 => k_asm); (case k4 => k_asm); (case k5 => k_asm); (case k6 => k_is); (case k7 => k_is); (case k8 => first | exact room_a (by assumption) (by decide) | omega | ktr_room | k_room); (case k9 => first | exact BindsTo.of_eq rfl | exact binds_K (by k_in) rfl (by k_is) rfl rfl rfl); (case kB => exact rfl); (case kD => decide +kernel); (case c2 => exact rfl); (case c3 => exact rfl); (case c4 => exact rfl); k_whole; intro gE LE hE tkE cells' FGE FE NE YE BE XE TE lE; (try k_lt lE); k_cells YE; (try simp only [List.cons_append, List.nil_append] at NE); (try dsimp only); (try k_lift BE); (try k_fold)))))
  have hdl : (delK y kvs).length ≤ 50 := Nat.le_trans (List.length_filter_le _ _) hz
  (k_steps; repeat' (first | ((with_reducible (refine Stop.into ?_; (with_reducible show wpAny _ _ (call (Value.builtin _) [Value.ref _, _]) _ _ _); k_dflt (first | (refine' append_K ?k1 ?k2 ?k3 ?_ ?z; (case k1 => k_asm); (case k2 => k_asm); (case k3 => k_upd); (case z => first | size_fits | (simp only [sizeLine_eq, List.size_toArray]; omega)); k_whole; intro _ _ _; (try k_sweep)) | (refine' append_M ?k1 ?k2 ?k3 ?z ?_; (case k1 => k_asm); (case k2 => k_asm); (case k3 => k_mem); (case z => first | (simp only [List.size_toArray]; omega)); k_whole; intro _ _ _ _ _ _)))); k_steps) | ((with_reducible (refine Stop.into ?_; (with_reducible show wpAny _ _ (call (Value.ref _) _ _) _ _ _); k_dflt (refine' ck_useH (delitem_c ?hH ?hn) ?kk ?_; (case kk => (refine' CkAt.mk ?k1 ?k2 ?k3 ?k4 ?k5 ?kK ?kd ?ku; ((case k1 => k_asm); (case k2 => k_asm); (case k3 => k_asm); (case k4 => k_asm); (case k5 => k_asm); (case kK => first | exact rfl | assumption); (case kd => first | exact room_a (by assumption) (by decide) | omega | ktr_room | k_room); (case ku => first | exact unit_a (by assumption) (by decide) | exact unit_b (by assumption) (by decide) | exact unit_c (by assumption) (by decide) | omega | ktr_units | k_units)))); (case hH => first | assumption | (refine' HdrAt.mono ?hs9 ?hh9; (case hh9 => assumption); (case hs9 => (intro p hp; (repeat (first | exact hp | assumption | refine List.mem_cons_of_mem _ ?_)))))); (case hn => omega); (intro hZ tkZ newsZ FZ NZ hHZ hKZ; obtain ⟨_, _, _, _, _, _, _, _, hrZ⟩ := HdrAt.at_ hHZ; have hlenZ := Rows.len hrZ)))); k_steps) | ((with_reducible (refine Stop.into ?_; (with_reducible show wpAny _ _ (call (Value.ref _) _ _) _ _ _); k_dflt (first | (refine' ck_use0 (conv_true (fit_fs _ _) (cln_fs _ _)) ?kk ?_; (case kk => (refine' CkAt.mk ?k1 ?k2 ?k3 ?k4 ?k5 ?kK ?kd ?ku; ((case k1 => k_asm); (case k2 => k_asm); (case k3 => k_asm); (case k4 => k_asm); (case k5 => k_asm); (case kK => first | exact rfl | assumption); (case kd => first | exact room_a (by assumption) (by decide) | omega | ktr_room | k_room); (case ku => first | exact unit_a (by assumption) (by decide) | exact unit_b (by assumption) (by decide) | exact unit_c (by assumption) (by decide) | omega | ktr_units | k_units)))); intro _ _ _ _) | (refine' ck_use0 (conv_false (fit_pad _ ?hl) (cln_pad _)) ?kk ?_; (case kk => (refine' CkAt.mk ?k1 ?k2 ?k3 ?k4 ?k5 ?kK ?kd ?ku; ((case k1 => k_asm); (case k2 => k_asm); (case k3 => k_asm); (case k4 => k_asm); (case k5 => k_asm); (case kK => first | exact rfl | assumption); (case kd => first | exact room_a (by assumption) (by decide) | omega | ktr_room | k_room); (case ku => first | exact unit_a (by assumption) (by decide) | exact unit_b (by assumption) (by decide) | exact unit_c (by assumption) (by decide) | omega | ktr_units | k_units)))); (case hl => first | assumption | omega); intro _ _ _ _)))); k_steps) | ((with_reducible (refine Stop.into ?_; (with_reducible show wpAny _ _ (delItem (Value.ref _) _) _ _ _); k_dflt (refine' own_delItem ?k1 ?k2 ?k3 ?k4 ?k5 ?k6 ?_; (case k1 => k_asm); (case k2 => k_asm); (case k3 => k_inst); (case k4 => k_is); (case k5 => k_is); (case k6 => k_is); k_whole))); k_steps) | ((with_reducible refine Stop.into ?_); (with_reducible show wpAny _ _ _ _ _ _); (fail_if_success (with_reducible show wpAny _ _ (pyIter _) _ _ _)); (fail_if_success (with_reducible show wpAny _ _ (eval (Expr.ListComp _ _ _ _) _) _ _ _)); have hNS : NoStop := noStop; walk1; all_goals clear hNS; k_steps) | fail))
  exact hret _ _ _ _ (by k_asm) (by k_asm) ⟨rfl, setitem_fin (by assumption) (by assumption) (by assumption) (by assumption) (by assumption) (by assumption) (by assumption) (by assumption)⟩
end
end
section
section
variable {w : World} {mean : ExcName → Option Value} {mg mb : Str → Option Value} {news : List (Addr × Obj)} {x l : Addr} {kvs : List KV}
theorem keys_c (hH : HdrAt w news x l kvs) (hz : kvs.length ≤ 50) :
    CkClaim w mean mg mb 3 149 news [.ref x] [] (fun v news' => ∃ D ys, v = .ref D ∧ Keys ys kvs ∧ news' = (D, LCg.lst ys) :: news ∧ ∀ p ∈ news, p.1 ≠ D) := by
  dsimp only [CkClaim]
  intros
  rename_i hret
  obtain ⟨dx, th, n, k, items, hx, hd, hl, hr⟩ := hH.at_
  have hlen := hr.len
  have hsz : items.toArray.size ≤ sizeLine := by rw [sizeLine_eq, List.size_toArray]; omega
  (refine wpAny_call ?_; (k_dflt (first | (refine' code_def ?k1 ?k2 ?k3 ?k4 ?k5 ?kA ?kF ?kK ?k6 ?k7 ?k8 ?k9 ?kB ?_ ?c2 ?c3 ?c4 ?c5; (case kA => exact rfl); (case kF => exact rfl); (case kK => first | exact rfl | assumption); (case k1 => k_asm); (case k2 => k_asm); (case k3 => k_asm); (case k4 => k_asm); (case k5 => k_asm); (case k6 => k_is); (case k7 => k_is); (case k8 => first | exact room_a (by assumption) (by decide) | omega | ktr_room | k_room); (case k9 => first | exact BindsTo.of_eq rfl | exact binds_K (by k_in) rfl (by k_is) rfl rfl rfl); (case c5 => decide); (case kB => exact locs rfl); (case c2 => exact rfl); (case c3 => exact rfl); (case c4 => exact rfl); k_whole; intro gE LE hE FGE FE NE BE XE TE; (try dsimp only); (try k_lift BE); (try k_fold)) | (refine' code_defC ?k1 ?k2 ?k3 ?k4 ?k5 ?kA ?kF ?kK ?k6 ?k7 ?k8 ?k9 ?kB ?kD ?_ ?c2 ?c3 ?c4; (case kA => exact rfl); (case kF => exact rfl); (case kK => first | exact rfl | assumption); (case k1 => k_asm); (case k2 => k_asm); (case k3 => k_asm); (case k4 => k_asm); (case k5 => k_asm); (case k6 => k_is); (case k7 => k_is); (case k8 => first | exact room_a (by assumption) (by decide) | omega | ktr_room | k_room); (case k9 => first | exact BindsTo.of_eq rfl | exact binds_K (by k_in) rfl (by k_is) rfl rfl rfl); (case kB => exact rfl); (case kD => decide +kernel); (case c2 => exact rfl); (case c3 => exact rfl); (case c4 => exact rfl); k_whole; intro gE LE hE tkE cells' FGE FE NE YE BE XE TE lE; (try k_lt lE); k_cells YE; (try simp only [List.cons_append, List.nil_append] at NE); (try dsimp only); (try k_lift BE); (try k_fold)))))
  k_steps
  refine Stop.into (LCp.ListComp_P (F₀ := by k_asm) (by with_unfolding_all rfl) (by decide) (by rfl) (by decide) (by rfl) (by rfl) (by decide) ?_)
  k_steps
  refine Stop.into (LCp.SrcLP.ledger (its := items.toArray) (by rfl) (by k_asm) (by k_asm) (by k_mem) hsz fun g => ?_)
  refine compP_indC (n := items.toArray.size) (J := fun i ys => Keys ys (kvs.take i)) ?turn ?fin _ _ _ (Nat.zero_add _) .nil
  case turn =>
    intro i v ys hi hP hJ
    obtain ⟨a, x', u', n', t1, t2, rfl, hkv, hm⟩ := hr.get (by simpa using hP)
    refine ⟨a, _, _, _, _, rfl, hm, rfl, rfl, fun I oI C oC D m₂ h tk E' hC hx1 hx2 F N off ne => ?_⟩
    k_steps
    refine LCg.CompEnd.intro (by k_asm) (by k_asm) _ (fun p hp => hp) off (.inr ⟨_, by k_mem, rfl, _, rfl⟩) ⟨rfl, ?_⟩
    rw [List.take_add_one, hkv]
    exact (Keys.cons .nil).append hJ
  case fin =>
    intro ys hJ
    intro D h tk F N o1
    k_steps
    rw [List.size_toArray, hlen, List.take_length] at hJ
    exact hret _ _ _ _ (by k_asm) (by k_asm) ⟨D, ys, rfl, hJ, rfl, off1_mem o1⟩
theorem values_c (hH : HdrAt w news x l kvs) (hz : kvs.length ≤ 50) :
    CkClaim w mean mg mb 3 154 news [.ref x] [] (fun v news' => ∃ D ys, v = .ref D ∧ Vals ys kvs ∧ news' = (D, LCg.lst ys) :: news ∧ ∀ p ∈ news, p.1 ≠ D) := by
  dsimp only [CkClaim]
  intros
  rename_i hret
  obtain ⟨dx, th, n, k, items, hx, hd, hl, hr⟩ := hH.at_
  have hlen := hr.len
  have hsz : items.toArray.size ≤ sizeLine := by rw [sizeLine_eq, List.size_toArray]; omega
  (refine wpAny_call ?_; (k_dflt (first | (refine' code_def ?k1 ?k2 ?k3 ?k4 ?k5 ?kA ?kF ?kK ?k6 ?k7 ?k8 ?k9 ?kB ?_ ?c2 ?c3 ?c4 ?c5; (case kA => exact rfl); (case kF => exact rfl); (case kK => first | exact rfl | assumption); (case k1 => k_asm); (case k2 => k_asm); (case k3 => k_asm); (case k4 => k_asm); (case k5 => k_asm); (case k6 => k_is); (case k7 => k_is); (case k8 => first | exact room_a (by assumption) (by decide) | omega | ktr_room | k_room); (case k9 => first | exact BindsTo.of_eq rfl | exact binds_K (by k_in) rfl (by k_is) rfl rfl rfl); (case c5 => decide); (case kB => exact locs rfl); (case c2 => exact rfl); (case c3 => exact rfl); (case c4 => exact rfl); k_whole; intro gE LE hE FGE FE NE BE XE TE; (try dsimp only); (try k_lift BE); (try k_fold)) | (refine' code_defC ?k1 ?k2 ?k3 ?k4 ?k5 ?kA ?kF ?kK ?k6 ?k7 ?k8 ?k9 ?kB ?kD ?_ ?c2 ?c3 ?c4; (case kA => exact rfl); (case kF => exact rfl); (case kK => first | exact rfl | assumption); (case k1 => k_asm); (case k2 => k_asm); (case k3 => k_asm); (case k4 => k_asm); (case k5 => k_asm); (case k6 => k_is); (case k7 => k_is); (case k8 => first | exact room_a (by assumption) (by decide) | omega | ktr_room | k_room); (case k9 => first | exact BindsTo.of_eq rfl | exact binds_K (by k_in) rfl (by k_is) rfl rfl rfl); (case kB => exact rfl); (case kD => decide +kernel); (case c2 => exact rfl); (case c3 => exact rfl); (case c4 => exact rfl); k_whole; intro gE LE hE tkE cells' FGE FE NE YE BE XE TE lE; (try k_lt lE); k_cells YE; (try simp only [List.cons_append, List.nil_append] at NE); (try dsimp only); (try k_lift BE); (try k_fold)))))
  k_steps
  refine Stop.into (LCp.ListComp_P (F₀ := by k_asm) (by with_unfolding_all rfl) (by decide) (by rfl) (by decide) (by rfl) (by rfl) (by decide) ?_)
  k_steps
  refine Stop.into (LCp.SrcLP.ledger (its := items.toArray) (by rfl) (by k_asm) (by k_asm) (by k_mem) hsz fun g => ?_)
  refine compP_indC (n := items.toArray.size) (J := fun i ys => Vals ys (kvs.take i)) ?turn ?fin _ _ _ (Nat.zero_add _) .nil
  case turn =>
    intro i v ys hi hP hJ
    obtain ⟨a, x', u', n', t1, t2, rfl, hkv, hm⟩ := hr.get (by simpa using hP)
    refine ⟨a, _, _, _, _, rfl, hm, rfl, rfl, fun I oI C oC D m₂ h tk E' hC hx1 hx2 F N off ne => ?_⟩
    k_steps
    refine LCg.CompEnd.intro (by k_asm) (by k_asm) _ (fun p hp => hp) off (.inr ⟨_, by k_mem, rfl, _, rfl⟩) ⟨rfl, ?_⟩
    rw [List.take_add_one, hkv]
    exact (Vals.cons .nil).append hJ
  case fin =>
    intro ys hJ
    intro D h tk F N o1
    k_steps
    rw [List.size_toArray, hlen, List.take_length] at hJ
    exact hret _ _ _ _ (by k_asm) (by k_asm) ⟨D, ys, rfl, hJ, rfl, off1_mem o1⟩
theorem items_c (hH : HdrAt w news x l kvs) (hz : kvs.length ≤ 50) :
    CkClaim w mean mg mb 3 161 news [.ref x] [] (fun v news' => ∃ D ys k, v = .ref D ∧ Rows news ys kvs ∧ news' = (D, listOf (List.toArray ys) k) :: news ∧ ∀ p ∈ news, p.1 ≠ D) := by
  dsimp only [CkClaim]
  intros
  rename_i hret
  obtain ⟨dx, th, n, k, items, hx, hd, hl, hr⟩ := hH.at_
  have hlen := hr.len
  (refine wpAny_call ?_; (k_dflt (first | (refine' code_def ?k1 ?k2 ?k3 ?k4 ?k5 ?kA ?kF ?kK ?k6 ?k7 ?k8 ?k9 ?kB ?_ ?c2 ?c3 ?c4 ?c5; (case kA => exact rfl); (case kF => exact rfl); (case kK => first | exact rfl | assumption); (case k1 => k_asm); (case k2 => k_asm); (case k3 => k_asm); (case k4 => k_asm); (case k5 => k_asm); (case k6 => k_is); (case k7 => k_is); (case k8 => first | exact room_a (by assumption) (by decide) | omega | ktr_room | k_room); (case k9 => first | exact BindsTo.of_eq rfl | exact binds_K (by k_in) rfl (by k_is) rfl rfl rfl); (case c5 => decide); (case kB => exact locs rfl); (case c2 => exact rfl); (case c3 => exact rfl); (case c4 => exact rfl); k_whole; intro gE LE hE FGE FE NE BE XE TE; (try dsimp only); (try k_lift BE); (try k_fold)) | (refine' code_defC ?k1 ?k2 ?k3 ?k4 ?k5 ?kA ?kF ?kK ?k6 ?k7 ?k8 ?k9 ?kB ?kD ?_ ?c2 ?c3 ?c4; (case kA => exact rfl); (case kF => exact rfl); (case kK => first | exact rfl | assumption); (case k1 => k_asm); (case k2 => k_asm); (case k3 => k_asm); (case k4 => k_asm); (case k5 => k_asm); (case k6 => k_is); (case k7 => k_is); (case k8 => first | exact room_a (by assumption) (by decide) | omega | ktr_room | k_room); (case k9 => first | exact BindsTo.of_eq rfl | exact binds_K (by k_in) rfl (by k_is) rfl rfl rfl); (case kB => exact rfl); (case kD => decide +kernel); (case c2 => exact rfl); (case c3 => exact rfl); (case c4 => exact rfl); k_whole; intro gE LE hE tkE cells' FGE FE NE YE BE XE TE lE; (try k_lt lE); k_cells YE; (try simp only [List.cons_append, List.nil_append] at NE); (try dsimp only); (try k_lift BE); (try k_fold)))))
  (k_steps; repeat' (first | ((with_reducible refine Stop.into ?_); (with_reducible show wpAny _ _ _ _ _ _); (fail_if_success (with_reducible show wpAny _ _ (pyIter _) _ _ _)); (fail_if_success (with_reducible show wpAny _ _ (eval (Expr.ListComp _ _ _ _) _) _ _ _)); have hNS : NoStop := noStop; walk1; all_goals clear hNS; k_steps) | fail))
  refine copy_M (by k_asm) (by k_asm) hl (by rw [List.size_toArray]; omega) (fun D h' F' N' hD => ?_)
  k_steps
  exact hret _ _ _ _ (by k_asm) (by k_asm) ⟨D, items, 0, rfl, hr, rfl, fun p hp => Nat.ne_of_lt (hD p hp)⟩
theorem new_c :
    CkClaim w mean mg mb 5 197 news [] [] (fun v news' => ∃ x l, v = .ref x ∧ HdrAt w news' x l [] ∧ (∀ p ∈ news, p ∈ news') ∧ ∀ p ∈ news, p.1 ≠ l) := by
  dsimp only [CkClaim]
  intros
  rename_i hret
  k_dflt (refine' call_cls ?k1 ?k2 ?k3 ?k4 ?k5 ?k6 ?_; (case k1 => k_asm); (case k2 => k_asm); (case k3 => k_asm); (case k4 => k_is); (case k5 => k_is); (case k6 => k_is))
  intro x dx h' F' N' l1 l2
  k_lt2 l2
  (k_dflt (first | (refine' code_def ?k1 ?k2 ?k3 ?k4 ?k5 ?kA ?kF ?kK ?k6 ?k7 ?k8 ?k9 ?kB ?_ ?c2 ?c3 ?c4 ?c5; (case kA => exact rfl); (case kF => exact rfl); (case kK => first | exact rfl | assumption); (case k1 => k_asm); (case k2 => k_asm); (case k3 => k_asm); (case k4 => k_asm); (case k5 => k_asm); (case k6 => k_is); (case k7 => k_is); (case k8 => first | exact room_a (by assumption) (by decide) | omega | ktr_room | k_room); (case k9 => first | exact BindsTo.of_eq rfl | exact binds_K (by k_in) rfl (by k_is) rfl rfl rfl); (case c5 => decide); (case kB => exact locs rfl); (case c2 => exact rfl); (case c3 => exact rfl); (case c4 => exact rfl); k_whole; intro gE LE hE FGE FE NE BE XE TE; (try dsimp only); (try k_lift BE); (try k_fold)) | (refine' code_defC ?k1 ?k2 ?k3 ?k4 ?k5 ?kA ?kF ?kK ?k6 ?k7 ?k8 ?k9 ?kB ?kD ?_ ?c2 ?c3 ?c4; (case kA => exact rfl); (case kF => exact rfl); (case kK => first | exact rfl | assumption); (case k1 => k_asm); (case k2 => k_asm); (case k3 => k_asm); (case k4 => k_asm); (case k5 => k_asm); (case k6 => k_is); (case k7 => k_is); (case k8 => first | exact room_a (by assumption) (by decide) | omega | ktr_room | k_room); (case k9 => first | exact BindsTo.of_eq rfl | exact binds_K (by k_in) rfl (by k_is) rfl rfl rfl); (case kB => exact rfl); (case kD => decide +kernel); (case c2 => exact rfl); (case c3 => exact rfl); (case c4 => exact rfl); k_whole; intro gE LE hE tkE cells' FGE FE NE YE BE XE TE lE; (try k_lt lE); k_cells YE; (try simp only [List.cons_append, List.nil_append] at NE); (try dsimp only); (try k_lift BE); (try k_fold))))
  k_steps
  refine Stop.into (iter_listTurns (vs := []) rfl (by k_asm) (by k_asm) (List.mem_cons_self ..) rfl rfl fun I hI => ItemsRest.zero fun h2 tk2 F2 N2 => ?_)
  k_steps
  refine hret _ _ _ _ (by k_asm) (by k_asm) ⟨x, _, rfl, ⟨dx, _, _, _, [], List.mem_cons_of_mem _ (List.mem_cons_self ..), List.mem_cons_of_mem _ (List.mem_cons_of_mem _ (List.mem_cons_self ..)), List.mem_cons_self .., .nil⟩, fun p hp => List.mem_cons_of_mem _ (List.mem_cons_of_mem _ (List.mem_cons_of_mem _ hp)), ?_⟩
  k_all
end
end
section
theorem pad_at {n i : Nat} (h : i < n + 3) : (pad n).cps[i]? = some (if i = n then 9 else 32) := by
  show (List.replicate n 32 ++ [9, 32, 32]).toArray[i]? = _
  rw [List.getElem?_toArray]
  by_cases h1 : i < n
  · rw [List.getElem?_append_left (by simpa using h1), List.getElem?_replicate, if_pos h1, if_neg (by omega)]
  · rw [List.getElem?_append_right (by simpa using h1), List.length_replicate]
    have : i = n ∨ i = n + 1 ∨ i = n + 2 := by omega
    rcases this with rfl | rfl | rfl
    · simp
    · simp
    · simp
def envN (m₀ : Str → Option Value) : List (Str × Value) → Str → Option Value
  | [], z => m₀ z
  | (a, v) :: r, z => if z = a then some v else envN m₀ r z
theorem envN_of {m' m₀ : Str → Option Value} : ∀ {l : List (Str × Value)}, (∀ z, z ∉ l.map (·.1) → m' z = m₀ z) → (∀ p ∈ l, m' p.1 = some p.2) → m' = envN m₀ l := by
  intro l h hv
  funext z
  induction l with
  | nil => exact h z (by simp)
  | cons p r ih =>
    unfold envN
    split
    · rename_i e
      rw [e]
      exact hv p (List.mem_cons_self ..)
    · rename_i e
      by_cases hz : z ∈ r.map (·.1)
      · refine (show m' z = envN m₀ r z from ?_)
        clear ih
        have key : ∀ r : List (Str × Value), (∀ p ∈ r, m' p.1 = some p.2) → z ∈ r.map (·.1) → m' z = envN m₀ r z := by
          intro r
          induction r with
          | nil => intro _ h; cases h
          | cons q r ih =>
            intro hv hz
            unfold envN
            split
            · rename_i e; rw [e]; exact hv q (List.mem_cons_self ..)
            · rename_i e
              exact ih (fun p hp => hv p (List.mem_cons_of_mem _ hp)) (by
                rw [List.map_cons] at hz
                rcases List.mem_cons.mp hz with h | h
                · exact absurd h e
                · exact h)
        exact key r (fun p hp => hv p (List.mem_cons_of_mem _ hp)) hz
      · have hm : m' z = m₀ z := h z (by rw [List.map_cons]; exact fun q => (List.mem_cons.mp q).elim e hz)
        rw [hm]
        clear ih hv h
        induction r with
        | nil => rfl
        | cons q r ih =>
          unfold envN
          rw [if_neg (fun e => hz (by rw [e]; simp))]
          exact ih (fun q => hz (by rw [List.map_cons]; exact List.mem_cons_of_mem _ q))
section
variable {prog : Program} {w : World} {A : Around} {E : Value → Shared → Prop} {s : Shared}
theorem item_pad {n : Nat} {t u : Tok} {i : Int} {value slice : Expr} {Q : Value → Shared → Prop} (h0 : 0 ≤ i) (h1 : i < n + 3) (hn : n ≤ 1000) (h : ∀ t' k, Q (.str ⟨#[if i = n then 9 else 32]⟩ t') { s with toks := k })
    (hs : subscripted slice false (.str (pad n) t) (.int i u) = operate [.str (pad n) t, .int i u] (getItem (.str (pad n) t) (.int i u)) := by with_unfolding_all rfl) :
    wpAny (model prog w) A (subscriptTail value slice (.str (pad n) t) (.int i u)) Q E s := by
  obtain ⟨j, rfl⟩ := Int.eq_ofNat_of_zero_le h0
  have e : (if (j : Int) = n then 9 else 32) = if j = n then 9 else 32 := by
    by_cases q : j = n
    · simp [q]
    · rw [if_neg q, if_neg (by omega)]
  rw [e] at h
  refine tail_any (typeIs_str s _ t) F.slot_str_getitem.lookup (P.getItem_str (c := if j = n then 9 else 32) (by
    have h2 : ¬ ((j : Int) < -(2 ^ 63 : Int)) := by omega
    have h3 : ¬ ((j : Int) ≥ 2 ^ 63) := by omega
    rw [decide_eq_false h2, decide_eq_false h3]; rfl) ?_ (h _ _)) hs
  have hj : seqIndex? (j : Int) (pad n).length = some j := by
    rw [len_pad]
    have h2 : ¬ ((j : Int) < 0) := by omega
    have h3 : (j : Int) < ((n + 3 : Nat) : Int) := by omega
    unfold seqIndex?
    simp only [if_neg h2]
    rw [decide_eq_true (show (0 : Int) ≤ j by omega), decide_eq_true h3]
    simp
  rw [hj]
  exact pad_at (by omega)
end
theorem blank_at {n : Nat} {i : Int} : ((⟨#[if i = n then 9 else 32]⟩ : Str) == Str.ofString " ") = !decide (i = n) := by
  by_cases h : i = n
  · rw [if_pos h, decide_eq_true h]; decide +kernel
  · rw [if_neg h, decide_eq_false h]; decide +kernel
/-- what _strip_padding makes of a line -/
def stripP (n k : Nat) : Str := if k ≤ n then pad (n - k) else ⟨(9 :: List.replicate (2 - min (k - n) 2) 32).toArray⟩
theorem slice_pad {n i j c c' k : Nat} {x y : Int} (hi : i ≤ n) (hc : i + c = k) (h1 : i = n ∨ c = 0) (hj : j ≤ 2) (hc' : j + c' = c) (h2 : j = 2 ∨ c' = 0) (hx : x = i) (hy : y = n + 2 - j + 1) :
    Txt.slice (pad n) (some x) (some y) = stripP n k := by
  have hl : (pad n).cps.toList.length = n + 3 := by rw [show (pad n).cps.toList = List.replicate n 32 ++ [9, 32, 32] from rfl]; simp
  subst hx hy
  have h := beq_iff_eq.mp (slice_closes (x := pad n) (i := i) (j := n + 2 - j + 1) ⟨Int.natCast_nonneg _, by clear h1 h2 hc hc' hl; omega, by clear h1 h2 hc hc'; omega⟩)
  rw [h, show (pad n).cps.toList = List.replicate n 32 ++ [9, 32, 32] from rfl]
  have e2 : ((n : Int) + 2 - j + 1 - i).toNat = n + 3 - j - i := by clear h h1 h2 hc hc' hl; omega
  rw [Int.toNat_natCast, e2]
  clear h e2 hl
  unfold stripP
  by_cases hk : k ≤ n
  · rw [if_pos hk]
    have c0 : c = 0 := by
      rcases h1 with h | h
      · clear h2 hc' hj; omega
      · exact h
    subst c0
    have a1 : j = 0 := by clear h1 h2 hc hi hk; omega
    subst a1 hc
    rw [List.drop_append_of_le_length (by rw [List.length_replicate]; exact hi), List.drop_replicate, List.take_of_length_le (by rw [List.length_append, List.length_replicate]; clear h1 h2 hc' hj hk; simp only [List.length_cons, List.length_nil]; omega)]
    rfl
  · rw [if_neg hk]
    have a1 : i = n := h1.resolve_right fun h => hk (by clear h1 h2 hc' hj hk; omega)
    subst a1
    have a2 : min (k - i) 2 = j := by
      clear h1
      rcases h2 with h | h
      · subst h; clear hk hi; omega
      · subst h; clear hk hi; omega
    rw [a2, List.drop_append_of_le_length (by rw [List.length_replicate]; exact hi), List.drop_replicate, Nat.sub_self]
    clear h1 h2 hc hc' hk hi a2
    match j, hj with
    | 0, _ => rw [show i + 3 - 0 - i = 3 from Nat.add_sub_cancel_left i 3]; rfl
    | 1, _ => rw [show i + 3 - 1 - i = 2 from Nat.add_sub_cancel_left i 2]; rfl
    | 2, _ => rw [show i + 3 - 2 - i = 1 from Nat.add_sub_cancel_left i 1]; rfl
end
section
section
variable {w : World} {mean : ExcName → Option Value} {mg mb : Str → Option Value} {news : List (Addr × Obj)}
theorem strcoll_c {a b : Str} {t t' : Tok} :
    CkClaim w mean mg mb 1 45 news [.str a t, .str b t'] [] (fun v news' => (∃ t, v = .int (b2i (decide (b.cps.toList < a.cps.toList)) - b2i (decide (a.cps.toList < b.cps.toList))) t) ∧ news = news') := by
  dsimp only [CkClaim]
  intros
  rename_i hret
  (refine wpAny_call ?_; (k_dflt (first | (refine' code_def ?k1 ?k2 ?k3 ?k4 ?k5 ?kA ?kF ?kK ?k6 ?k7 ?k8 ?k9 ?kB ?_ ?c2 ?c3 ?c4 ?c5; (case kA => exact rfl); (case kF => exact rfl); (case kK => first | exact rfl | assumption); (case k1 => k_asm); (case k2 => k_asm); (case k3 => k_asm); (case k4 => k_asm); (case k5 => k_asm); (case k6 => k_is); (case k7 => k_is); (case k8 => first | exact room_a (by assumption) (by decide) | omega | ktr_room | k_room); (case k9 => first | exact BindsTo.of_eq rfl | exact binds_K (by k_in) rfl (by k_is) rfl rfl rfl); (case c5 => decide); (case kB => exact locs rfl); (case c2 => exact rfl); (case c3 => exact rfl); (case c4 => exact rfl); k_whole; intro gE LE hE FGE FE NE BE XE TE; (try dsimp only); (try k_lift BE); (try k_fold)) | (refine' code_defC ?k1 ?k2 ?k3 ?k4 ?k5 ?kA ?kF ?kK ?k6 ?k7 ?k8 ?k9 ?kB ?kD ?_ ?c2 ?c3 ?c4; (case kA => exact rfl); (case kF => exact rfl); (case kK => first | exact rfl | assumption); (case k1 => k_asm); (case k2 => k_asm); (case k3 => k_asm); (case k4 => k_asm); (case k5 => k_asm); (case k6 => k_is); (case k7 => k_is); (case k8 => first | exact room_a (by assumption) (by decide) | omega | ktr_room | k_room); (case k9 => first | exact BindsTo.of_eq rfl | exact binds_K (by k_in) rfl (by k_is) rfl rfl rfl); (case kB => exact rfl); (case kD => decide +kernel); (case c2 => exact rfl); (case c3 => exact rfl); (case c4 => exact rfl); k_whole; intro gE LE hE tkE cells' FGE FE NE YE BE XE TE lE; (try k_lt lE); k_cells YE; (try simp only [List.cons_append, List.nil_append] at NE); (try dsimp only); (try k_lift BE); (try k_fold)))))
  k_steps
  exact hret _ _ _ _ (by k_asm) (by k_asm) ⟨⟨_, rfl⟩, rfl⟩
theorem pred_cast (d : Nat) : ((d + 1 : Nat) : Int) - 1 = (d : Int) := by omega
theorem strip_t1 {n k i c : Nat} {x y : Int} (hi : i ≤ n) (hc : i + c = k) (hx : x = i) (hy : y = c) (hne : ¬ x = (n : Int)) (h0 : y ≠ 0) : (c - 1 < c ∧ i + 1 ≤ n) ∧ i + 1 + (c - 1) = k ∧ x + 1 = ((i + 1 : Nat) : Int) ∧ y - 1 = ((c - 1 : Nat) : Int) := by
  subst hx hy hc
  have hc0 : c ≠ 0 := fun h => h0 (congrArg Nat.cast h)
  obtain ⟨c, rfl⟩ := Nat.exists_eq_succ_of_ne_zero hc0
  have hin : i ≠ n := fun h => hne (congrArg Nat.cast h)
  exact ⟨⟨Nat.lt_succ_self c, Nat.lt_of_le_of_ne hi hin⟩, Nat.succ_add_eq_add_succ i c, rfl, pred_cast c⟩
theorem strip_t2 {n k j c : Nat} {x y : Int} (hj : j ≤ 2) (hc : j + c = k) (hx : x = n + 2 - j) (hy : y = c) (hne : ¬ x = (n : Int)) (h0 : y ≠ 0) : (c - 1 < c ∧ j + 1 ≤ 2) ∧ j + 1 + (c - 1) = k ∧ x - 1 = n + 2 - ((j + 1 : Nat) : Int) ∧ y - 1 = ((c - 1 : Nat) : Int) := by
  subst hx hy hc
  have hc0 : c ≠ 0 := fun h => h0 (congrArg Nat.cast h)
  obtain ⟨c, rfl⟩ := Nat.exists_eq_succ_of_ne_zero hc0
  have hj2 : j ≠ 2 := fun h => hne (by rw [h]; exact Int.add_sub_cancel _ _)
  exact ⟨⟨Nat.lt_succ_self c, Nat.lt_of_le_of_ne hj hj2⟩, Nat.succ_add_eq_add_succ j c, by clear hj hne h0 hc0 hj2; omega, pred_cast c⟩
theorem strip_c {n : Nat} {k : Nat} (hn : n ≤ 1000) (hk : k ≤ 2000) {t t' : Tok} :
    CkClaim w mean mg mb 1 52 news [.str (pad n) t, .int k t'] [] (fun v news' => (∃ t, v = .str (stripP n k) t) ∧ news = news') := by
  dsimp only [CkClaim]
  intros
  rename_i hret
  (refine wpAny_call ?_; (k_dflt (first | (refine' code_def ?k1 ?k2 ?k3 ?k4 ?k5 ?kA ?kF ?kK ?k6 ?k7 ?k8 ?k9 ?kB ?_ ?c2 ?c3 ?c4 ?c5; (case kA => exact rfl); (case kF => exact rfl); (case kK => first | exact rfl | assumption); (case k1 => k_asm); (case k2 => k_asm); (case k3 => k_asm); (case k4 => k_asm); (case k5 => k_asm); (case k6 => k_is); (case k7 => k_is); (case k8 => first | exact room_a (by assumption) (by decide) | omega | ktr_room | k_room); (case k9 => first | exact BindsTo.of_eq rfl | exact binds_K (by k_in) rfl (by k_is) rfl rfl rfl); (case c5 => decide); (case kB => exact locs rfl); (case c2 => exact rfl); (case c3 => exact rfl); (case c4 => exact rfl); k_whole; intro gE LE hE FGE FE NE BE XE TE; (try dsimp only); (try k_lift BE); (try k_fold)) | (refine' code_defC ?k1 ?k2 ?k3 ?k4 ?k5 ?kA ?kF ?kK ?k6 ?k7 ?k8 ?k9 ?kB ?kD ?_ ?c2 ?c3 ?c4; (case kA => exact rfl); (case kF => exact rfl); (case kK => first | exact rfl | assumption); (case k1 => k_asm); (case k2 => k_asm); (case k3 => k_asm); (case k4 => k_asm); (case k5 => k_asm); (case k6 => k_is); (case k7 => k_is); (case k8 => first | exact room_a (by assumption) (by decide) | omega | ktr_room | k_room); (case k9 => first | exact BindsTo.of_eq rfl | exact binds_K (by k_in) rfl (by k_is) rfl rfl rfl); (case kB => exact rfl); (case kD => decide +kernel); (case c2 => exact rfl); (case c3 => exact rfl); (case c4 => exact rfl); k_whole; intro gE LE hE tkE cells' FGE FE NE YE BE XE TE lE; (try k_lt lE); k_cells YE; (try simp only [List.cons_append, List.nil_append] at NE); (try dsimp only); (try k_lift BE); (try k_fold)))))
  k_steps
  refine Stop.into (While_inv (n₀ := k) (fun c m' n' => news = n' ∧ ∃ (i : Nat) (x y : Int) (t1 t2 : Tok), i ≤ n ∧ i + c = k ∧ x = i ∧ y = c ∧ m' = envN _ [(Str.ofString "lpos", .int x t1), (Str.ofString "amount", .int y t2)]) (by k_asm) (by k_asm) ⟨rfl, 0, 0, k, _, _, by omega, by omega, rfl, rfl, envN_of (fun _ _ => rfl) (List.forall_mem_cons.mpr ⟨rfl, List.forall_mem_cons.mpr ⟨rfl, fun _ h => nomatch h⟩⟩)⟩ ?_)
  rintro c m1 n1 h1 tk1 F1 N1 ⟨rfl, i, x, y, t1, t2, hi, hc, hx, hy, rfl⟩
  (k_steps; repeat' (first | ((with_reducible (refine Stop.into ?_; (with_reducible show wpAny _ _ (subscriptTail (Expr.Name _ _) (Expr.Name _ _) (Value.str _ _) (Value.int _ _)) _ _ _); refine item_pad (by first | assumption | omega) (by first | assumption | omega) (by first | assumption | omega) ?_; intro _ _)); k_steps) | ((with_reducible (refine Stop.into ?_; (with_reducible show wpAny _ _ (call (Value.builtin "len") [Value.str _ _]) _ _ _); (refine P.len_str (by first | (rw [len_pad]; omega) | omega) ?_))); k_steps) | fail))
  · rename (_ == _) = true => hb
    rw [blank_at] at hb
    have hne : ¬ x = (n : Int) := by simpa using hb
    obtain ⟨⟨z1, z2⟩, z3, z4, z5⟩ := strip_t1 hi hc hx hy hne (by assumption)
    refine WhileStep.intro (n' := c - 1) (by k_asm) (by k_asm) z1 ?_
    exact ⟨rfl, i + 1, _, _, _, _, z2, z3, z4, z5, envN_of (by (intro z hz; simp only [List.map_cons, List.map_nil, List.mem_cons, not_or] at hz; simp [envN, hz.1, hz.2.1])) (List.forall_mem_cons.mpr ⟨rfl, List.forall_mem_cons.mpr ⟨rfl, fun _ h => nomatch h⟩⟩)⟩
  all_goals
    have hic : i = n ∨ c = 0 := by
      first
      | omega
      | (rename (_ == _) = false => hb; rw [blank_at] at hb; have hne : x = (n : Int) := by simpa using hb
         omega)
    refine Stop.into (While_inv (n₀ := c) (fun c' m' n' => news = n' ∧ ∃ (j : Nat) (x' y' : Int) (t1 t2 : Tok), j ≤ 2 ∧ j + c' = c ∧ x' = n + 2 - j ∧ y' = c' ∧ m' = envN _ [(Str.ofString "rpos", .int x' t1), (Str.ofString "amount", .int y' t2)]) (by k_asm) (by k_asm) ⟨rfl, 0, _, _, _, _, by omega, by omega, ?_, hy, envN_of (fun _ _ => rfl) (List.forall_mem_cons.mpr ⟨rfl, List.forall_mem_cons.mpr ⟨rfl, fun _ h => nomatch h⟩⟩)⟩ ?_)
    · rw [len_pad]; omega
    · rintro c' m2 n2 h2 tk2 F2 N2 ⟨rfl, j, x', y', t1', t2', hj, hc', hx', hy', rfl⟩
      (k_steps; repeat' (first | ((with_reducible (refine Stop.into ?_; (with_reducible show wpAny _ _ (subscriptTail (Expr.Name _ _) (Expr.Name _ _) (Value.str _ _) (Value.int _ _)) _ _ _); refine item_pad (by first | assumption | omega) (by first | assumption | omega) (by first | assumption | omega) ?_; intro _ _)); k_steps) | fail))
      all_goals try (exfalso; omega)
      all_goals try
       (rename (_ == _) = true => hb'
        rw [blank_at] at hb'
        have hne' : ¬ x' = (n : Int) := by simpa using hb'
        obtain ⟨⟨z1, z2⟩, z3, z4, z5⟩ := strip_t2 hj hc' hx' hy' hne' (by assumption)
        refine WhileStep.intro (n' := c' - 1) (by k_asm) (by k_asm) z1 ?_
        exact ⟨rfl, j + 1, _, _, _, _, z2, z3, z4, z5, envN_of (by (intro z hz; simp only [List.map_cons, List.map_nil, List.mem_cons, not_or] at hz; simp [envN, hz.1, hz.2.1])) (List.forall_mem_cons.mpr ⟨rfl, List.forall_mem_cons.mpr ⟨rfl, fun _ h => nomatch h⟩⟩)⟩)
      all_goals
        have hj2 : j = 2 ∨ c' = 0 := by
          first
          | omega
          | (rename ((⟨#[if x' = _ then _ else _]⟩ : Str) == _) = false => hb'; rw [blank_at] at hb'; have hne' : x' = (n : Int) := by simpa using hb'
             omega)
        refine slice_strN_ss (s := ⟨_, _, _, _, _⟩) (hsz := ?_) F2 N2 ?_
        rotate_left
        · exact fit_pad n hn
        intro h5 t5 k5 F5 N5
        rw [slice_pad hi hc hic hj hc' hj2 hx (by omega)]
        k_steps
        exact hret _ _ _ _ (by k_asm) (by k_asm) ⟨⟨_, rfl⟩, rfl⟩
end
end
section
section
variable {w : World} {mean : ExcName → Option Value} {mg mb : Str → Option Value} {news : List (Addr × Obj)} {x l : Addr} {kvs : List KV}
theorem strip_i {n : Nat} {k : Int} (hn : n ≤ 1000) (h0 : 0 ≤ k) (hk : k ≤ 2000) {t t' : Tok} :
    CkClaim w mean mg mb 1 52 news [.str (pad n) t, .int k t'] [] (fun v news' => (∃ t, v = .str (stripP n k.toNat) t) ∧ news = news') := by
  obtain ⟨j, rfl⟩ := Int.eq_ofNat_of_zero_le h0
  exact strip_c hn (by omega)
theorem stripP_one {n : Nat} : stripP (n + 1) 1 = pad n := by
  unfold stripP
  rw [if_pos (by omega), Nat.add_sub_cancel]
theorem strip_one {n : Nat} (hn : n + 1 ≤ 1000) {t t' : Tok} :
    CkClaim w mean mg mb 1 52 news [.str (pad (n + 1)) t, .int 1 t'] [] (fun v news' => (∃ t, v = .str (pad n) t) ∧ news = news') := by
  have h := strip_c (w := w) (mean := mean) (mg := mg) (mb := mb) (news := news) (k := 1) hn (by omega) (t := t) (t' := t')
  rw [stripP_one] at h
  exact h
theorem lit_one : Str.ofString " \t  " = pad 1 := by decide +kernel
theorem lit_zero {n : Nat} : (pad n == Str.ofString "\t  ") = decide (n = 0) := by
  by_cases h : n = 0
  · subst h; decide +kernel
  · rw [decide_eq_false h]
    refine beq_eq_false_iff_ne.mpr fun e => h ?_
    have := congrArg Str.length e
    rw [len_pad, show (Str.ofString "\t  ").length = 3 by decide +kernel] at this
    omega
theorem setitem_w (hH : HdrAt w news x l kvs) (hz : kvs.length ≤ 50) {y : Fin 5} {u : Bool} {n : Nat} {s : Str} (hn : n ≤ 1000) (hs : s = pad n) {t t' : Tok} :
    CkClaim w mean mg mb 6 110 news [.ref x, .str (fs y u) t, .str s t'] [] (fun v news' => v = .none ∧ HdrAt w news' x l (delK y kvs ++ [(y, u, n)]) ∧ ∀ p ∈ news, p.1 ≠ l → p ∈ news') := by
  subst hs
  exact setitem_c hH hz hn
theorem contains_t (hH : HdrAt w news x l kvs) {y : Fin 5} {u : Bool} {t : Tok} {n : Nat} (hn : getK y kvs = some n) :
    CkClaim w mean mg mb 5 129 news [.ref x, .str (fs y u) t] [] (fun v news' => v = .bool true ∧ news = news') := by
  have h := contains_c (w := w) (mean := mean) (mg := mg) (mb := mb) hH (y := y) (u := u) (t := t)
  rw [hn] at h
  exact h
theorem contains_f (hH : HdrAt w news x l kvs) {y : Fin 5} {u : Bool} {t : Tok} (hn : getK y kvs = none) :
    CkClaim w mean mg mb 5 129 news [.ref x, .str (fs y u) t] [] (fun v news' => v = .bool false ∧ news = news') := by
  have h := contains_c (w := w) (mean := mean) (mg := mg) (mb := mb) hH (y := y) (u := u) (t := t)
  rw [hn] at h
  exact h
end
section
variable {prog : Program} {w : World} {A : Around} {E : Value → Shared → Prop} {s : Shared}
theorem pad_succ {n : Nat} : Str.ofString " " ++ pad n = pad (n + 1) := by
  show (⟨(Str.ofString " ").cps ++ (List.replicate n 32 ++ [9, 32, 32]).toArray⟩ : Str) = ⟨(List.replicate (n + 1) 32 ++ [9, 32, 32]).toArray⟩
  rw [show (Str.ofString " ").cps = #[32] by decide +kernel]
  simp [List.replicate_succ]
theorem add_pad {n : Nat} {t t' : Tok} {Q : Value → Shared → Prop} (hn : n ≤ 1000) (h : ∀ t' k, Q (.str (pad (n + 1)) t') { s with toks := k }) :
    wpAny (model prog w) A (binaryOp .Add (.str (Str.ofString " ") t) (.str (pad n) t')) Q E s :=
  add_str (fun t' tk => by rw [pad_succ]; exact h t' tk) (by rw [len_pad, show (Str.ofString " ").length = 1 by decide +kernel, sizeLine_eq]; omega)
theorem lenBack_mk {Q : Value → Shared → Prop} {n : Int} {u : Tok} {s' : Shared} (h0 : 0 ≤ n) (h1 : n < 2 ^ 63) (hq : Q (.int n s'.toks) { s' with toks := s'.toks + 1 }) : W.LenBack Q (.int n u) s' := ⟨⟨h0, h1⟩, hq⟩
end
theorem Rows.off {h₀ h : Heap} {L I : Addr} {o : Obj} {news news' : List (Addr × Obj)} (N : News h₀ L h news) (hI : (I, o) ∈ news) (hc : o.cls = .type "list_iterator") (hk : ∀ p ∈ news, p.1 ≠ I → p ∈ news') {items : List Value} {kvs : List KV} (hR : Rows news items kvs) : Rows news' items kvs := by
  induction hR with
  | nil => exact .nil
  | cons h _ ih => exact .cons (hk _ h (ne_objs N h hI (by rw [hc]; intro e; injection e with e; exact absurd e (by decide)))) ih
theorem HdrAt.off {w : World} {h₀ h : Heap} {L I x l : Addr} {o : Obj} {kvs : List KV} {news news' : List (Addr × Obj)} (N : News h₀ L h news) (hI : (I, o) ∈ news) (hc : o.cls = .type "list_iterator") (hk : ∀ p ∈ news, p.1 ≠ I → p ∈ news')
    (hH : HdrAt w news x l kvs) : HdrAt w news' x l kvs :=
  let ⟨dx, th, n, k, items, h1, h2, h3, h4⟩ := hH.at_
  ⟨dx, th, n, k, items, hk _ h1 (ne_objs N h1 hI (by rw [hc]; intro e; cases e)), hk _ h2 (ne_objs N h2 hI (by rw [hc]; intro e; injection e with e; exact absurd e (by decide))), hk _ h3 (ne_objs N h3 hI (by rw [hc]; intro e; injection e with e; exact absurd e (by decide))), h4.off N hI hc hk⟩
theorem HdrAt.keep {w : World} {h₀ h : Heap} {L l x' l' : Addr} {its : Array Value} {k : Nat} {kvs : List KV} {news news' : List (Addr × Obj)} (N : News h₀ L h news) (hl : (l, listOf its k) ∈ news) (hne : l' ≠ l) (hk : ∀ p ∈ news, p.1 ≠ l → p ∈ news')
    (hH : HdrAt w news x' l' kvs) : HdrAt w news' x' l' kvs :=
  let ⟨dx, th, n, k, items, h1, h2, h3, h4⟩ := hH.at_
  ⟨dx, th, n, k, items, hk _ h1 (ne_objs N h1 hl (by intro e; cases e)), hk _ h2 (ne_objs N h2 hl (by intro e; injection e with e; exact absurd e (by decide))), hk _ h3 hne, h4.keep N hl hk⟩
/-- the ledger without the iterator -/
noncomputable def cut (I : Addr) (n : List (Addr × Obj)) : List (Addr × Obj) := n.filter fun p => decide (p.1 ≠ I)
theorem cut_mem {I : Addr} {n : List (Addr × Obj)} : ∀ p ∈ n, p.1 ≠ I → p ∈ cut I n := fun _ hp hq => List.mem_filter.mpr ⟨hp, decide_eq_true hq⟩
theorem cut_sub {I : Addr} {n : List (Addr × Obj)} : ∀ p ∈ cut I n, p ∈ n := fun _ hp => (List.mem_filter.mp hp).1
theorem cut_ne {I : Addr} {n : List (Addr × Obj)} : ∀ p ∈ cut I n, p.1 ≠ I := fun _ hp => of_decide_eq_true (List.mem_filter.mp hp).2
theorem keep_sub {l : Addr} {A news news' : List (Addr × Obj)} (h : ∀ p ∈ A, p.1 ≠ l → p ∈ news') (hs : ∀ p ∈ news, p ∈ A) : ∀ p ∈ news, p.1 ≠ l → p ∈ news' := fun p hp hq => h p (hs p hp) hq
theorem ne_of_all {D a : Addr} {o : Obj} {l : List (Addr × Obj)} (h : ∀ p ∈ l, p.1 ≠ D) (hm : (a, o) ∈ l) : D ≠ a := fun e => h _ hm e.symm
theorem ne_of_all' {D a : Addr} {o : Obj} {l : List (Addr × Obj)} (h : ∀ p ∈ l, p.1 ≠ D) (hm : (a, o) ∈ l) : a ≠ D := fun e => h _ hm e
end
local macro_rules | `(tactic| k_ne) => `(tactic| ((try dsimp only); k_dflt (first | (refine' ne_of_all ?hNa ?hNm; (case hNa => assumption); (case hNm => (repeat (first | exact List.Mem.head _ | refine List.Mem.tail _ ?_)))) | (refine' ne_of_all' ?hNa ?hNm; (case hNa => assumption); (case hNm => (repeat (first | exact List.Mem.head _ | refine List.Mem.tail _ ?_)))))))
section
def lowRow (cur : List KV) (r : KV) : List KV := if r.2.2 ≤ 1 then delK r.1 cur else delK r.1 cur ++ [(r.1, r.2.1, r.2.2 - 1)]
/-- what _law_few makes of the short table -/
def fewStep (kvs : List KV) (y : Fin 5) (u : Bool) (size : Int) : List KV :=
  match getK y kvs with
  | some n => delK y kvs ++ [(y, u, n + 1)]
  | none => if (kvs.length : Int) < size then delK y kvs ++ [(y, u, 1)] else kvs.foldl lowRow kvs
section
variable {w : World} {mean : ExcName → Option Value} {mg mb : Str → Option Value} {news : List (Addr × Obj)} {x l : Addr} {kvs : List KV}
theorem getK_mem {y : Fin 5} {n : Nat} : ∀ {kvs : List KV}, getK y kvs = some n → ∃ u, (y, u, n) ∈ kvs
  | [], h => nomatch h
  | (y', u, n') :: r, h => by
    unfold getK at h
    split at h
    · rename_i e
      injection h with h
      exact ⟨u, by rw [e, h]; exact List.mem_cons_self ..⟩
    · exact let ⟨u, hu⟩ := getK_mem h; ⟨u, List.mem_cons_of_mem _ hu⟩
theorem few_fin {g h1 h2 : Heap} {L I D : Addr} {o : Obj} {lo : Array Value} {lk k2 : Nat} {its : Array Value} {cur : List KV} {r : List Value} {rest : List KV} {nw n2 : List (Addr × Obj)} (N1 : News g L h1 ((I, o) :: nw)) (N2 : News g L h2 n2) (hc : o.cls = .type "list_iterator")
    (hm : (D, listOf lo lk) ∈ nw) (hD : ∀ p ∈ news, p.1 ≠ D) (hI : ∀ p ∈ (D, listOf lo lk) :: news, p.1 < I) (hDl : D ≠ l) (hl : (l, listOf its k2) ∈ nw) (hr : Rows nw r rest) (hK : ∀ p ∈ (I, o) :: nw, p.1 ≠ l → p ∈ n2) (hk : ∀ p ∈ news, p.1 ≠ l → p ∈ nw) (hH : HdrAt w n2 x l cur) :
    ((D, listOf lo lk) ∈ cut I n2 ∧ (∀ p ∈ news, p.1 ≠ l → p ∈ cut I n2) ∧ Rows (cut I n2) r rest ∧ HdrAt w (cut I n2) x l cur) ∧ (I, o) ∈ n2 := by
  have hil : I ≠ l := ne_objs N1 (List.mem_cons_self ..) (List.mem_cons_of_mem _ hl) (by rw [hc]; intro e; injection e with e; exact absurd e (by decide))
  have hI2 := hK _ (List.mem_cons_self ..) hil
  refine ⟨⟨cut_mem _ (hK _ (List.mem_cons_of_mem _ hm) hDl) (Nat.ne_of_lt (hI _ (List.mem_cons_self ..))), fun p hp hq => cut_mem _ (hK _ (List.mem_cons_of_mem _ (hk p hp hq)) hq) (Nat.ne_of_lt (hI _ (List.mem_cons_of_mem _ hp))), ?_, hH.off N2 hI2 hc cut_mem⟩, hI2⟩
  exact ((hr.mono fun p hp => List.mem_cons_of_mem _ hp).keep N1 (List.mem_cons_of_mem _ hl) hK).off N2 hI2 hc cut_mem
theorem few_c (hH : HdrAt w news x l kvs) (hz : kvs.length ≤ 4) (hp : ∀ p ∈ kvs, 1 ≤ p.2.2 ∧ p.2.2 ≤ 900) {y : Fin 5} {u : Bool} {size : Int} {t t' : Tok} :
    CkClaim w mean mg mb 8 213 news [.ref x, .str (fs y u) t, .int size t'] [] (fun v news' => v = .none ∧ HdrAt w news' x l (fewStep kvs y u size) ∧ ∀ p ∈ news, p.1 ≠ l → p ∈ news') := by
  dsimp only [CkClaim]
  intros
  rename_i hret
  obtain ⟨dx, th, n, k, items, hx, hd, hl, hr⟩ := hH.at_
  have hlen := hr.len
  cases hg : getK y kvs with
  | some n0 =>
    have hn0 : n0 ≤ 900 := let ⟨u, hu⟩ := getK_mem hg; (hp _ hu).2
    (refine wpAny_call ?_; (k_dflt (first | (refine' code_def ?k1 ?k2 ?k3 ?k4 ?k5 ?kA ?kF ?kK ?k6 ?k7 ?k8 ?k9 ?kB ?_ ?c2 ?c3 ?c4 ?c5; (case kA => exact rfl); (case kF => exact rfl); (case kK => first | exact rfl | assumption); (case k1 => k_asm); (case k2 => k_asm); (case k3 => k_asm); (case k4 => k_asm); (case k5 => k_asm); (case k6 => k_is); (case k7 => k_is); (case k8 => first | exact room_a (by assumption) (by decide) | omega | ktr_room | k_room); (case k9 => first | exact BindsTo.of_eq rfl | exact binds_K (by k_in) rfl (by k_is) rfl rfl rfl); (case c5 => decide); (case kB => exact locs rfl); (case c2 => exact rfl); (case c3 => exact rfl); (case c4 => exact rfl); k_whole; intro gE LE hE FGE FE NE BE XE TE; (try dsimp only); (try k_lift BE); (try k_fold)) | (refine' code_defC ?k1 ?k2 ?k3 ?k4 ?k5 ?kA ?kF ?kK ?k6 ?k7 ?k8 ?k9 ?kB ?kD ?_ ?c2 ?c3 ?c4; (case kA => exact rfl); (case kF => exact rfl); (case kK => first | exact rfl | assumption); (case k1 => k_asm); (case k2 => k_asm); (case k3 => k_asm); (case k4 => k_asm); (case k5 => k_asm); (case k6 => k_is); (case k7 => k_is); (case k8 => first | exact room_a (by assumption) (by decide) | omega | ktr_room | k_room); (case k9 => first | exact BindsTo.of_eq rfl | exact binds_K (by k_in) rfl (by k_is) rfl rfl rfl); (case kB => exact rfl); (case kD => decide +kernel); (case c2 => exact rfl); (case c3 => exact rfl); (case c4 => exact rfl); k_whole; intro gE LE hE tkE cells' FGE FE NE YE BE XE TE lE; (try k_lt lE); k_cells YE; (try simp only [List.cons_append, List.nil_append] at NE); (try dsimp only); (try k_lift BE); (try k_fold)))))
    (k_steps; repeat' (first | ((with_reducible (refine Stop.into ?_; (with_reducible show wpAny _ _ (binaryOp Operator.Add (Value.str _ _) (Value.str _ _)) _ _ _); refine add_pad (by first | assumption | omega) ?_; intro _ _)); k_steps) | ((with_reducible (refine Stop.into ?_; (with_reducible show wpAny _ _ (call (Value.ref _) _ _) _ _ _); k_dflt (first | (refine' ck_use0 (contains_t ?hH ?hn) ?kk ?_; (case kk => (refine' CkAt.mk ?k1 ?k2 ?k3 ?k4 ?k5 ?kK ?kd ?ku; ((case k1 => k_asm); (case k2 => k_asm); (case k3 => k_asm); (case k4 => k_asm); (case k5 => k_asm); (case kK => first | exact rfl | assumption); (case kd => first | exact room_a (by assumption) (by decide) | omega | ktr_room | k_room); (case ku => first | exact unit_a (by assumption) (by decide) | exact unit_b (by assumption) (by decide) | exact unit_c (by assumption) (by decide) | omega | ktr_units | k_units)))); (case hH => first | assumption | (refine' HdrAt.mono ?hs9 ?hh9; (case hh9 => assumption); (case hs9 => (intro p hp; (repeat (first | exact hp | assumption | refine List.mem_cons_of_mem _ ?_)))))); (case hn => assumption); intro _ _ _ _) | (refine' ck_use0 (contains_f ?hH ?hn) ?kk ?_; (case kk => (refine' CkAt.mk ?k1 ?k2 ?k3 ?k4 ?k5 ?kK ?kd ?ku; ((case k1 => k_asm); (case k2 => k_asm); (case k3 => k_asm); (case k4 => k_asm); (case k5 => k_asm); (case kK => first | exact rfl | assumption); (case kd => first | exact room_a (by assumption) (by decide) | omega | ktr_room | k_room); (case ku => first | exact unit_a (by assumption) (by decide) | exact unit_b (by assumption) (by decide) | exact unit_c (by assumption) (by decide) | omega | ktr_units | k_units)))); (case hH => first | assumption | (refine' HdrAt.mono ?hs9 ?hh9; (case hh9 => assumption); (case hs9 => (intro p hp; (repeat (first | exact hp | assumption | refine List.mem_cons_of_mem _ ?_)))))); (case hn => assumption); intro _ _ _ _)))); k_steps) | ((with_reducible (refine Stop.into ?_; (with_reducible show wpAny _ _ (call (Value.ref _) _ _) _ _ _); k_dflt (refine' ck_useH (setitem_w ?hH ?hz ?hn ?hs) ?kk ?_; (case kk => (refine' CkAt.mk ?k1 ?k2 ?k3 ?k4 ?k5 ?kK ?kd ?ku; ((case k1 => k_asm); (case k2 => k_asm); (case k3 => k_asm); (case k4 => k_asm); (case k5 => k_asm); (case kK => first | exact rfl | assumption); (case kd => first | exact room_a (by assumption) (by decide) | omega | ktr_room | k_room); (case ku => first | exact unit_a (by assumption) (by decide) | exact unit_b (by assumption) (by decide) | exact unit_c (by assumption) (by decide) | omega | ktr_units | k_units)))); (case hH => first | assumption | (refine' HdrAt.mono ?hs9 ?hh9; (case hh9 => assumption); (case hs9 => (intro p hp; (repeat (first | exact hp | assumption | refine List.mem_cons_of_mem _ ?_)))))); (case hs => first | exact rfl | exact lit_one); (case hz => first | assumption | omega); (case hn => first | assumption | omega); (intro hZ tkZ newsZ FZ NZ hHZ hKZ; obtain ⟨_, _, _, _, _, _, _, _, hrZ⟩ := HdrAt.at_ hHZ; have hlenZ := Rows.len hrZ)))); k_steps) | ((with_reducible (refine Stop.into ?_; (with_reducible show wpAny _ _ (call (Value.ref _) _ _) _ _ _); k_dflt (first | (refine' ck_use0 (contains_c ?hH) ?kk ?_; (case kk => (refine' CkAt.mk ?k1 ?k2 ?k3 ?k4 ?k5 ?kK ?kd ?ku; ((case k1 => k_asm); (case k2 => k_asm); (case k3 => k_asm); (case k4 => k_asm); (case k5 => k_asm); (case kK => first | exact rfl | assumption); (case kd => first | exact room_a (by assumption) (by decide) | omega | ktr_room | k_room); (case ku => first | exact unit_a (by assumption) (by decide) | exact unit_b (by assumption) (by decide) | exact unit_c (by assumption) (by decide) | omega | ktr_units | k_units)))); (case hH => first | assumption | (refine' HdrAt.mono ?hs9 ?hh9; (case hh9 => assumption); (case hs9 => (intro p hp; (repeat (first | exact hp | assumption | refine List.mem_cons_of_mem _ ?_)))))); intro _ _ _ _) | (refine' ck_useT (getitem_c ?hH ?hn) ?kk ?_; (case kk => (refine' CkAt.mk ?k1 ?k2 ?k3 ?k4 ?k5 ?kK ?kd ?ku; ((case k1 => k_asm); (case k2 => k_asm); (case k3 => k_asm); (case k4 => k_asm); (case k5 => k_asm); (case kK => first | exact rfl | assumption); (case kd => first | exact room_a (by assumption) (by decide) | omega | ktr_room | k_room); (case ku => first | exact unit_a (by assumption) (by decide) | exact unit_b (by assumption) (by decide) | exact unit_c (by assumption) (by decide) | omega | ktr_units | k_units)))); (case hH => first | assumption | (refine' HdrAt.mono ?hs9 ?hh9; (case hh9 => assumption); (case hs9 => (intro p hp; (repeat (first | exact hp | assumption | refine List.mem_cons_of_mem _ ?_)))))); (case hn => assumption); intro _ _ _ _ _) | (refine' ck_useT (len_c ?hH ?hn) ?kk ?_; (case kk => (refine' CkAt.mk ?k1 ?k2 ?k3 ?k4 ?k5 ?kK ?kd ?ku; ((case k1 => k_asm); (case k2 => k_asm); (case k3 => k_asm); (case k4 => k_asm); (case k5 => k_asm); (case kK => first | exact rfl | assumption); (case kd => first | exact room_a (by assumption) (by decide) | omega | ktr_room | k_room); (case ku => first | exact unit_a (by assumption) (by decide) | exact unit_b (by assumption) (by decide) | exact unit_c (by assumption) (by decide) | omega | ktr_units | k_units)))); (case hH => first | assumption | (refine' HdrAt.mono ?hs9 ?hh9; (case hh9 => assumption); (case hs9 => (intro p hp; (repeat (first | exact hp | assumption | refine List.mem_cons_of_mem _ ?_)))))); (case hn => omega); intro _ _ _ _ _)))); k_steps) | fail))
    exact hret _ _ _ _ (by k_asm) (by k_asm) ⟨rfl, by unfold fewStep; rw [hg]; assumption, by assumption⟩
  | none =>
    (refine wpAny_call ?_; (k_dflt (first | (refine' code_def ?k1 ?k2 ?k3 ?k4 ?k5 ?kA ?kF ?kK ?k6 ?k7 ?k8 ?k9 ?kB ?_ ?c2 ?c3 ?c4 ?c5; (case kA => exact rfl); (case kF => exact rfl); (case kK => first | exact rfl | assumption); (case k1 => k_asm); (case k2 => k_asm); (case k3 => k_asm); (case k4 => k_asm); (case k5 => k_asm); (case k6 => k_is); (case k7 => k_is); (case k8 => first | exact room_a (by assumption) (by decide) | omega | ktr_room | k_room); (case k9 => first | exact BindsTo.of_eq rfl | exact binds_K (by k_in) rfl (by k_is) rfl rfl rfl); (case c5 => decide); (case kB => exact locs rfl); (case c2 => exact rfl); (case c3 => exact rfl); (case c4 => exact rfl); k_whole; intro gE LE hE FGE FE NE BE XE TE; (try dsimp only); (try k_lift BE); (try k_fold)) | (refine' code_defC ?k1 ?k2 ?k3 ?k4 ?k5 ?kA ?kF ?kK ?k6 ?k7 ?k8 ?k9 ?kB ?kD ?_ ?c2 ?c3 ?c4; (case kA => exact rfl); (case kF => exact rfl); (case kK => first | exact rfl | assumption); (case k1 => k_asm); (case k2 => k_asm); (case k3 => k_asm); (case k4 => k_asm); (case k5 => k_asm); (case k6 => k_is); (case k7 => k_is); (case k8 => first | exact room_a (by assumption) (by decide) | omega | ktr_room | k_room); (case k9 => first | exact BindsTo.of_eq rfl | exact binds_K (by k_in) rfl (by k_is) rfl rfl rfl); (case kB => exact rfl); (case kD => decide +kernel); (case c2 => exact rfl); (case c3 => exact rfl); (case c4 => exact rfl); k_whole; intro gE LE hE tkE cells' FGE FE NE YE BE XE TE lE; (try k_lt lE); k_cells YE; (try simp only [List.cons_append, List.nil_append] at NE); (try dsimp only); (try k_lift BE); (try k_fold)))))
    (k_steps; repeat' (first | ((with_reducible (refine Stop.into ?_; (with_reducible show wpAny _ _ (call (Value.ref _) _ _) _ _ _); k_dflt (first | (refine' ck_use0 (contains_t ?hH ?hn) ?kk ?_; (case kk => (refine' CkAt.mk ?k1 ?k2 ?k3 ?k4 ?k5 ?kK ?kd ?ku; ((case k1 => k_asm); (case k2 => k_asm); (case k3 => k_asm); (case k4 => k_asm); (case k5 => k_asm); (case kK => first | exact rfl | assumption); (case kd => first | exact room_a (by assumption) (by decide) | omega | ktr_room | k_room); (case ku => first | exact unit_a (by assumption) (by decide) | exact unit_b (by assumption) (by decide) | exact unit_c (by assumption) (by decide) | omega | ktr_units | k_units)))); (case hH => first | assumption | (refine' HdrAt.mono ?hs9 ?hh9; (case hh9 => assumption); (case hs9 => (intro p hp; (repeat (first | exact hp | assumption | refine List.mem_cons_of_mem _ ?_)))))); (case hn => assumption); intro _ _ _ _) | (refine' ck_use0 (contains_f ?hH ?hn) ?kk ?_; (case kk => (refine' CkAt.mk ?k1 ?k2 ?k3 ?k4 ?k5 ?kK ?kd ?ku; ((case k1 => k_asm); (case k2 => k_asm); (case k3 => k_asm); (case k4 => k_asm); (case k5 => k_asm); (case kK => first | exact rfl | assumption); (case kd => first | exact room_a (by assumption) (by decide) | omega | ktr_room | k_room); (case ku => first | exact unit_a (by assumption) (by decide) | exact unit_b (by assumption) (by decide) | exact unit_c (by assumption) (by decide) | omega | ktr_units | k_units)))); (case hH => first | assumption | (refine' HdrAt.mono ?hs9 ?hh9; (case hh9 => assumption); (case hs9 => (intro p hp; (repeat (first | exact hp | assumption | refine List.mem_cons_of_mem _ ?_)))))); (case hn => assumption); intro _ _ _ _)))); k_steps) | ((with_reducible (refine Stop.into ?_; (with_reducible show wpAny _ _ (call (Value.ref _) _ _) _ _ _); k_dflt (refine' ck_useH (setitem_w ?hH ?hz ?hn ?hs) ?kk ?_; (case kk => (refine' CkAt.mk ?k1 ?k2 ?k3 ?k4 ?k5 ?kK ?kd ?ku; ((case k1 => k_asm); (case k2 => k_asm); (case k3 => k_asm); (case k4 => k_asm); (case k5 => k_asm); (case kK => first | exact rfl | assumption); (case kd => first | exact room_a (by assumption) (by decide) | omega | ktr_room | k_room); (case ku => first | exact unit_a (by assumption) (by decide) | exact unit_b (by assumption) (by decide) | exact unit_c (by assumption) (by decide) | omega | ktr_units | k_units)))); (case hH => first | assumption | (refine' HdrAt.mono ?hs9 ?hh9; (case hh9 => assumption); (case hs9 => (intro p hp; (repeat (first | exact hp | assumption | refine List.mem_cons_of_mem _ ?_)))))); (case hs => first | exact rfl | exact lit_one); (case hz => first | assumption | omega); (case hn => first | assumption | omega); (intro hZ tkZ newsZ FZ NZ hHZ hKZ; obtain ⟨_, _, _, _, _, _, _, _, hrZ⟩ := HdrAt.at_ hHZ; have hlenZ := Rows.len hrZ)))); k_steps) | ((with_reducible (refine Stop.into ?_; (with_reducible show wpAny _ _ (call (Value.ref _) _ _) _ _ _); k_dflt (first | (refine' ck_useK (keys_c ?hH ?hz) ?kk ?_; (case kk => (refine' CkAt.mk ?k1 ?k2 ?k3 ?k4 ?k5 ?kK ?kd ?ku; ((case k1 => k_asm); (case k2 => k_asm); (case k3 => k_asm); (case k4 => k_asm); (case k5 => k_asm); (case kK => first | exact rfl | assumption); (case kd => first | exact room_a (by assumption) (by decide) | omega | ktr_room | k_room); (case ku => first | exact unit_a (by assumption) (by decide) | exact unit_b (by assumption) (by decide) | exact unit_c (by assumption) (by decide) | omega | ktr_units | k_units)))); (case hH => first | assumption | (refine' HdrAt.mono ?hs9 ?hh9; (case hh9 => assumption); (case hs9 => (intro p hp; (repeat (first | exact hp | assumption | refine List.mem_cons_of_mem _ ?_)))))); (case hz => first | assumption | omega); intro _ _ _ _ _ _ _ _) | (refine' ck_useK (values_c ?hH ?hz) ?kk ?_; (case kk => (refine' CkAt.mk ?k1 ?k2 ?k3 ?k4 ?k5 ?kK ?kd ?ku; ((case k1 => k_asm); (case k2 => k_asm); (case k3 => k_asm); (case k4 => k_asm); (case k5 => k_asm); (case kK => first | exact rfl | assumption); (case kd => first | exact room_a (by assumption) (by decide) | omega | ktr_room | k_room); (case ku => first | exact unit_a (by assumption) (by decide) | exact unit_b (by assumption) (by decide) | exact unit_c (by assumption) (by decide) | omega | ktr_units | k_units)))); (case hH => first | assumption | (refine' HdrAt.mono ?hs9 ?hh9; (case hh9 => assumption); (case hs9 => (intro p hp; (repeat (first | exact hp | assumption | refine List.mem_cons_of_mem _ ?_)))))); (case hz => first | assumption | omega); intro _ _ _ _ _ _ _ _) | (refine' ck_useI (items_c ?hH ?hz) ?kk ?_; (case kk => (refine' CkAt.mk ?k1 ?k2 ?k3 ?k4 ?k5 ?kK ?kd ?ku; ((case k1 => k_asm); (case k2 => k_asm); (case k3 => k_asm); (case k4 => k_asm); (case k5 => k_asm); (case kK => first | exact rfl | assumption); (case kd => first | exact room_a (by assumption) (by decide) | omega | ktr_room | k_room); (case ku => first | exact unit_a (by assumption) (by decide) | exact unit_b (by assumption) (by decide) | exact unit_c (by assumption) (by decide) | omega | ktr_units | k_units)))); (case hH => first | assumption | (refine' HdrAt.mono ?hs9 ?hh9; (case hh9 => assumption); (case hs9 => (intro p hp; (repeat (first | exact hp | assumption | refine List.mem_cons_of_mem _ ?_)))))); (case hz => first | assumption | omega); intro _ _ _ _ _ _ _ _ _)))); k_steps) | ((with_reducible (refine Stop.into ?_; (with_reducible show wpAny _ _ (call (Value.ref _) _ _) _ _ _); k_dflt (first | (refine' ck_use0 (contains_c ?hH) ?kk ?_; (case kk => (refine' CkAt.mk ?k1 ?k2 ?k3 ?k4 ?k5 ?kK ?kd ?ku; ((case k1 => k_asm); (case k2 => k_asm); (case k3 => k_asm); (case k4 => k_asm); (case k5 => k_asm); (case kK => first | exact rfl | assumption); (case kd => first | exact room_a (by assumption) (by decide) | omega | ktr_room | k_room); (case ku => first | exact unit_a (by assumption) (by decide) | exact unit_b (by assumption) (by decide) | exact unit_c (by assumption) (by decide) | omega | ktr_units | k_units)))); (case hH => first | assumption | (refine' HdrAt.mono ?hs9 ?hh9; (case hh9 => assumption); (case hs9 => (intro p hp; (repeat (first | exact hp | assumption | refine List.mem_cons_of_mem _ ?_)))))); intro _ _ _ _) | (refine' ck_useT (getitem_c ?hH ?hn) ?kk ?_; (case kk => (refine' CkAt.mk ?k1 ?k2 ?k3 ?k4 ?k5 ?kK ?kd ?ku; ((case k1 => k_asm); (case k2 => k_asm); (case k3 => k_asm); (case k4 => k_asm); (case k5 => k_asm); (case kK => first | exact rfl | assumption); (case kd => first | exact room_a (by assumption) (by decide) | omega | ktr_room | k_room); (case ku => first | exact unit_a (by assumption) (by decide) | exact unit_b (by assumption) (by decide) | exact unit_c (by assumption) (by decide) | omega | ktr_units | k_units)))); (case hH => first | assumption | (refine' HdrAt.mono ?hs9 ?hh9; (case hh9 => assumption); (case hs9 => (intro p hp; (repeat (first | exact hp | assumption | refine List.mem_cons_of_mem _ ?_)))))); (case hn => assumption); intro _ _ _ _ _) | (refine' ck_useT (len_c ?hH ?hn) ?kk ?_; (case kk => (refine' CkAt.mk ?k1 ?k2 ?k3 ?k4 ?k5 ?kK ?kd ?ku; ((case k1 => k_asm); (case k2 => k_asm); (case k3 => k_asm); (case k4 => k_asm); (case k5 => k_asm); (case kK => first | exact rfl | assumption); (case kd => first | exact room_a (by assumption) (by decide) | omega | ktr_room | k_room); (case ku => first | exact unit_a (by assumption) (by decide) | exact unit_b (by assumption) (by decide) | exact unit_c (by assumption) (by decide) | omega | ktr_units | k_units)))); (case hH => first | assumption | (refine' HdrAt.mono ?hs9 ?hh9; (case hh9 => assumption); (case hs9 => (intro p hp; (repeat (first | exact hp | assumption | refine List.mem_cons_of_mem _ ?_)))))); (case hn => omega); intro _ _ _ _ _)))); k_steps) | ((with_reducible (refine Stop.into ?_; (with_reducible show W.LenBack _ _ _); refine lenBack_mk (by omega) (by omega) ?_)); k_steps) | ((with_reducible refine Stop.into ?_); (with_reducible show wpAny _ _ _ _ _ _); (fail_if_success (with_reducible show wpAny _ _ (pyIter _) _ _ _)); have hNS : NoStop := noStop; walk1; all_goals clear hNS; k_steps) | fail))
    · exact hret _ _ _ _ (by k_asm) (by k_asm) ⟨rfl, by unfold fewStep; rw [hg]; dsimp only; rw [if_pos (by omega)]; assumption, by assumption⟩
    · rename Rows news _ kvs => hy
      rename ∀ p ∈ news, p.1 ≠ _ => hD
      refine Stop.into (iter_listTurns (vs := _) rfl (by k_asm) (by k_asm) (List.mem_cons_self ..) rfl rfl fun I hI => ?_)
      refine items_ind (I := I) [Str.ofString "name", Str.ofString "line", Str.ofString "less"] (fun r n' => (_, listOf (List.toArray _) _) ∈ n' ∧ (∀ p ∈ news, p.1 ≠ l → p ∈ n') ∧ ∃ cur rest, Rows n' r rest ∧ HdrAt w n' x l cur ∧ rest.foldl lowRow cur = kvs.foldl lowRow kvs ∧ cur.length + rest.length ≤ 8 ∧ ∀ p ∈ rest, 1 ≤ p.2.2 ∧ p.2.2 ≤ 900) ?turn ?done _ _ _ (fun _ _ => rfl) ⟨List.mem_cons_self .., fun p hp _ => List.mem_cons_of_mem _ hp, kvs, kvs, hy.mono fun p hp => List.mem_cons_of_mem _ hp, hH.mono fun p hp => List.mem_cons_of_mem _ hp, rfl, by omega, hp⟩
      case turn =>
        rintro v r nw u h tk o ⟨hm, hk', cur, rest, hr', hc', he, hz', hp'⟩ hc F N
        cases hr'
        rename_i a' x' u' n' t1 t2 rest hm2 hr'
        obtain ⟨hp1, hp2⟩ := hp' _ (List.mem_cons_self ..)
        dsimp only at hp1 hp2
        obtain ⟨n', rfl⟩ : ∃ j, n' = j + 1 := ⟨n' - 1, by omega⟩
        rw [List.length_cons] at hz'
        obtain ⟨dx2, th2, n2, k2, items2, hx2, hd2, hl2, hr2⟩ := hc'.at_
        have hlen2 := hr2.len
        have hil : I ≠ l := ne_objs N (List.mem_cons_self ..) (List.mem_cons_of_mem _ hl2) (by rw [hc]; intro e; injection e with e; exact absurd e (by decide))
        have hc2 : HdrAt w ((I, o) :: nw) x l cur := hc'.mono (fun p hp => List.mem_cons_of_mem _ hp)
        (k_steps; repeat' (first | ((with_reducible (refine Stop.into ?_; (with_reducible show wpAny _ _ (call (Value.builtin "str.swapcase") _ _) _ _ _); refine KXw.swapcase (swap_fs _ _) (tl_swap _ _) ?_; intro _ _)); k_steps) | ((with_reducible (refine Stop.into ?_; (with_reducible show wpAny _ _ (call (Value.ref _) _ _) _ _ _); k_dflt (refine' ck_useH (setitem_w ?hH ?hz ?hn ?hs) ?kk ?_; (case kk => (refine' CkAt.mk ?k1 ?k2 ?k3 ?k4 ?k5 ?kK ?kd ?ku; ((case k1 => k_asm); (case k2 => k_asm); (case k3 => k_asm); (case k4 => k_asm); (case k5 => k_asm); (case kK => first | exact rfl | assumption); (case kd => first | exact room_a (by assumption) (by decide) | omega | ktr_room | k_room); (case ku => first | exact unit_a (by assumption) (by decide) | exact unit_b (by assumption) (by decide) | exact unit_c (by assumption) (by decide) | omega | ktr_units | k_units)))); (case hH => first | assumption | (refine' HdrAt.mono ?hs9 ?hh9; (case hh9 => assumption); (case hs9 => (intro p hp; (repeat (first | exact hp | assumption | refine List.mem_cons_of_mem _ ?_)))))); (case hs => first | exact rfl | exact lit_one); (case hz => first | assumption | omega); (case hn => first | assumption | omega); (intro hZ tkZ newsZ FZ NZ hHZ hKZ; obtain ⟨_, _, _, _, _, _, _, _, hrZ⟩ := HdrAt.at_ hHZ; have hlenZ := Rows.len hrZ)))); k_steps) | ((with_reducible (refine Stop.into ?_; (with_reducible show wpAny _ _ (call (Value.ref _) _ _) _ _ _); k_dflt (first | (refine' ck_useT (strip_one ?hn) ?kk ?_; (case kk => (refine' CkAt.mk ?k1 ?k2 ?k3 ?k4 ?k5 ?kK ?kd ?ku; ((case k1 => k_asm); (case k2 => k_asm); (case k3 => k_asm); (case k4 => k_asm); (case k5 => k_asm); (case kK => first | exact rfl | assumption); (case kd => first | exact room_a (by assumption) (by decide) | omega | ktr_room | k_room); (case ku => first | exact unit_a (by assumption) (by decide) | exact unit_b (by assumption) (by decide) | exact unit_c (by assumption) (by decide) | omega | ktr_units | k_units)))); (case hn => first | assumption | omega); intro _ _ _ _ _) | (refine' ck_useT (strip_i ?hn ?h0 ?hk) ?kk ?_; (case kk => (refine' CkAt.mk ?k1 ?k2 ?k3 ?k4 ?k5 ?kK ?kd ?ku; ((case k1 => k_asm); (case k2 => k_asm); (case k3 => k_asm); (case k4 => k_asm); (case k5 => k_asm); (case kK => first | exact rfl | assumption); (case kd => first | exact room_a (by assumption) (by decide) | omega | ktr_room | k_room); (case ku => first | exact unit_a (by assumption) (by decide) | exact unit_b (by assumption) (by decide) | exact unit_c (by assumption) (by decide) | omega | ktr_units | k_units)))); (case hn => first | assumption | omega); (case h0 => omega); (case hk => omega); intro _ _ _ _ _)))); k_steps) | ((with_reducible (refine Stop.into ?_; (with_reducible show wpAny _ _ (call (Value.ref _) _ _) _ _ _); k_dflt (refine' ck_useH (delitem_c ?hH ?hn) ?kk ?_; (case kk => (refine' CkAt.mk ?k1 ?k2 ?k3 ?k4 ?k5 ?kK ?kd ?ku; ((case k1 => k_asm); (case k2 => k_asm); (case k3 => k_asm); (case k4 => k_asm); (case k5 => k_asm); (case kK => first | exact rfl | assumption); (case kd => first | exact room_a (by assumption) (by decide) | omega | ktr_room | k_room); (case ku => first | exact unit_a (by assumption) (by decide) | exact unit_b (by assumption) (by decide) | exact unit_c (by assumption) (by decide) | omega | ktr_units | k_units)))); (case hH => first | assumption | (refine' HdrAt.mono ?hs9 ?hh9; (case hh9 => assumption); (case hs9 => (intro p hp; (repeat (first | exact hp | assumption | refine List.mem_cons_of_mem _ ?_)))))); (case hn => omega); (intro hZ tkZ newsZ FZ NZ hHZ hKZ; obtain ⟨_, _, _, _, _, _, _, _, hrZ⟩ := HdrAt.at_ hHZ; have hlenZ := Rows.len hrZ)))); k_steps) | ((with_reducible (refine Stop.into ?_; (with_reducible show wpAny _ _ (delItem (Value.ref _) _) _ _ _); k_dflt (refine' own_delItem ?k1 ?k2 ?k3 ?k4 ?k5 ?k6 ?_; (case k1 => k_asm); (case k2 => k_asm); (case k3 => k_inst); (case k4 => k_is); (case k5 => k_is); (case k6 => k_is); k_whole))); k_steps) | ((with_reducible refine Stop.into ?_); (with_reducible show wpAny _ _ _ _ _ _); (fail_if_success (with_reducible show wpAny _ _ (pyIter _) _ _ _)); have hNS : NoStop := noStop; walk1; all_goals clear hNS; k_steps) | fail))
        · rename (_ == _) = true => hb
          rw [lit_zero] at hb
          have hn0 : n' = 0 := of_decide_eq_true hb
          obtain ⟨⟨f1, f2, f3, f4⟩, f5⟩ := few_fin (by assumption) (by assumption) hc hm hD hI (fun e => hD _ hl e.symm) hl2 hr' (by assumption) hk' (by assumption)
          refine Stop.into ?_; refine turn_end (by k_asm) (by k_asm) f5 cut_sub cut_ne ⟨⟨f1, trivial⟩, ?_, f1, f2, _, _, f3, f4, ?_, ?_, fun p hp => hp' p (List.mem_cons_of_mem _ hp)⟩
          · (intro z hz; (try dsimp only); (repeat' (first | exact ovr_off hz | refine (off_if hz (by simp)).trans ?_)))
          · rw [← he, List.foldl_cons, lowRow, if_pos (by dsimp only; omega)]
          · have := List.length_filter_le (fun p : KV => !(p.1 == x')) cur
            unfold delK
            omega
        · rename (_ == _) = false => hb
          rw [lit_zero] at hb
          have hn0 : n' ≠ 0 := of_decide_eq_false hb
          obtain ⟨⟨f1, f2, f3, f4⟩, f5⟩ := few_fin (by assumption) (by assumption) hc hm hD hI (fun e => hD _ hl e.symm) hl2 hr' (by assumption) hk' (by assumption)
          refine Stop.into ?_; refine turn_end (by k_asm) (by k_asm) f5 cut_sub cut_ne ⟨⟨f1, trivial⟩, ?_, f1, f2, _, _, f3, f4, ?_, ?_, fun p hp => hp' p (List.mem_cons_of_mem _ hp)⟩
          · (intro z hz; (try dsimp only); (repeat' (first | exact ovr_off hz | refine (off_if hz (by simp)).trans ?_)))
          · rw [← he, List.foldl_cons, lowRow, if_neg (by dsimp only; omega)]
            rfl
          · have := List.length_filter_le (fun p : KV => !(p.1 == x')) cur
            unfold delK
            rw [List.length_append, List.length_singleton]
            omega
      case done =>
        rintro n' u h tk ⟨hm, hk', cur, rest, hr', hc', he, hz', hp'⟩ F N
        cases hr'
        k_steps
        exact hret _ _ _ _ (by k_asm) (by k_asm) ⟨rfl, by unfold fewStep; rw [hg]; dsimp only; rw [if_neg (by omega), ← he]; exact hc', by assumption⟩
end
end
section
section
variable {prog : Program} {w : World} {A : Around} {E : Value → Shared → Prop} {s : Shared}
theorem tup_gt_tree {p q : Addr} {op oq : Obj} {n n' : Nat} {a b c d : Int} {t1 t2 t3 t4 : Tok} {P : PySem.Fin → Shared → Prop} (hp : s.heap.get? p = some op) (hpd : op.data = .seq #[.int a t1, .int b t2] n) (hq : s.heap.get? q = some oq) (hqc : oq.cls = .type "tuple") (hqd : oq.data = .seq #[.int c t3, .int d t4] n')
    (h : P (.done (.ret (.bool (decide (c < a ∨ (a = c ∧ d < b)))))) s) :
    wpAny (model prog w) A (Builtin.«tuple.__gt__» ⟨[.ref p, .ref q], []⟩) P E s := by
  have hT : s.TypeIs (.ref q) "tuple" := ⟨oq, hq, hqc⟩
  show wpAny _ _ (isInstance (.ref q) (.type "tuple") >>= _) _ _ s
  refine wpAny_bind (wpAny_isInstance hT isSubtype_tuple_tuple ?_)
  simp only [Bool.not_true, Bool.false_eq_true, if_false]
  refine wpAny_bind (wpAny_tupleItemsOf hp hpd ?_)
  refine wpAny_bind (wpAny_tupleItemsOf hq hqd ?_)
  simp only [List.zip_cons_cons, List.zip_nil_right]
  rw [List.forIn_cons]
  refine wpAny_bind (wpAny_bind (wpAny_bind (wpAny_eqBool_int ?_)))
  by_cases hac : a = c
  · subst hac
    simp only [beq_self_eq_true, Bool.not_true, Bool.false_eq_true, if_false]
    refine wpAny_pure ?_
    dsimp only
    rw [List.forIn_cons]
    refine wpAny_bind (wpAny_bind (wpAny_eqBool_int ?_))
    by_cases hbd : b = d
    · subst hbd
      simp only [beq_self_eq_true, Bool.not_true, Bool.false_eq_true, if_false]
      refine wpAny_pure (wpAny_pure ?_)
      dsimp only
      refine wpAny_pure ?_
      rw [decide_eq_false (by omega)] at h
      exact h
    · rw [beq_false_of_ne hbd]
      simp only [Bool.not_false, if_true]
      refine wpAny_bind (wpAny_rule (wpAny_bind (gt_int (wpAny_bind (wpAny_pure (wpAny_pure (wpAny_pure (wpAny_pure ?_))))))))
      rw [show decide (a < a ∨ a = a ∧ d < b) = decide (d < b) from decide_eq_decide.mpr (by simp)] at h
      exact h
  · rw [beq_false_of_ne hac]
    simp only [Bool.not_false, if_true]
    refine wpAny_bind (wpAny_rule (wpAny_bind (gt_int (wpAny_bind (wpAny_pure (wpAny_pure (wpAny_pure (wpAny_pure ?_))))))))
    rw [show decide (c < a ∨ a = c ∧ d < b) = decide (c < a) from decide_eq_decide.mpr (by simp [hac])] at h
    exact h
theorem tup_lt_tree {p q : Addr} {op oq : Obj} {n n' : Nat} {a b c d : Int} {t1 t2 t3 t4 : Tok} {P : PySem.Fin → Shared → Prop} (hp : s.heap.get? p = some op) (hpd : op.data = .seq #[.int a t1, .int b t2] n) (hq : s.heap.get? q = some oq) (hqc : oq.cls = .type "tuple") (hqd : oq.data = .seq #[.int c t3, .int d t4] n')
    (h : P (.done (.ret (.bool (decide (a < c ∨ (a = c ∧ b < d)))))) s) :
    wpAny (model prog w) A (Builtin.«tuple.__lt__» ⟨[.ref p, .ref q], []⟩) P E s := by
  have hT : s.TypeIs (.ref q) "tuple" := ⟨oq, hq, hqc⟩
  show wpAny _ _ (isInstance (.ref q) (.type "tuple") >>= _) _ _ s
  refine wpAny_bind (wpAny_isInstance hT isSubtype_tuple_tuple ?_)
  simp only [Bool.not_true, Bool.false_eq_true, if_false]
  refine wpAny_bind (wpAny_tupleItemsOf hp hpd ?_)
  refine wpAny_bind (wpAny_tupleItemsOf hq hqd ?_)
  simp only [List.zip_cons_cons, List.zip_nil_right]
  rw [List.forIn_cons]
  refine wpAny_bind (wpAny_bind (wpAny_bind (wpAny_eqBool_int ?_)))
  by_cases hac : a = c
  · subst hac
    simp only [beq_self_eq_true, Bool.not_true, Bool.false_eq_true, if_false]
    refine wpAny_pure ?_
    dsimp only
    rw [List.forIn_cons]
    refine wpAny_bind (wpAny_bind (wpAny_eqBool_int ?_))
    by_cases hbd : b = d
    · subst hbd
      simp only [beq_self_eq_true, Bool.not_true, Bool.false_eq_true, if_false]
      refine wpAny_pure (wpAny_pure ?_)
      dsimp only
      refine wpAny_pure ?_
      rw [decide_eq_false (by omega)] at h
      exact h
    · rw [beq_false_of_ne hbd]
      simp only [Bool.not_false, if_true]
      refine wpAny_bind (wpAny_rule (wpAny_bind (lt_int (wpAny_bind (wpAny_pure (wpAny_pure (wpAny_pure (wpAny_pure ?_))))))))
      rw [show decide (a < a ∨ a = a ∧ b < d) = decide (b < d) from decide_eq_decide.mpr (by simp)] at h
      exact h
  · rw [beq_false_of_ne hac]
    simp only [Bool.not_false, if_true]
    refine wpAny_bind (wpAny_rule (wpAny_bind (lt_int (wpAny_bind (wpAny_pure (wpAny_pure (wpAny_pure (wpAny_pure ?_))))))))
    rw [show decide (a < c ∨ a = c ∧ b < d) = decide (a < c) from decide_eq_decide.mpr (by simp [hac])] at h
    exact h
abbrev tupI (a b : Int) (t t' : Tok) : Obj := { cls := .type "tuple", data := .seq #[.int a t, .int b t'] }
theorem gt_tup {h₀ : Heap} {L p q : Addr} {news : List (Addr × Obj)} {a b c d : Int} {t1 t2 t3 t4 : Tok} {Q : Value → Shared → Prop} (N : News h₀ L s.heap news) (hp : (p, tupI a b t1 t2) ∈ news) (hq : (q, tupI c d t3 t4) ∈ news) (hu : A.units < cLine)
    (h : Q (.bool (decide (c < a ∨ (a = c ∧ d < b)))) s) : wpAny (model prog w) A (compareOp .Gt (.ref p) (.ref q)) Q E s := by
  have hTp : s.TypeIs (.ref p) "tuple" := ⟨_, (N _ hp).1, rfl⟩
  have hTq : s.TypeIs (.ref q) "tuple" := ⟨_, (N _ hq).1, rfl⟩
  show wpAny _ _ (richCompare .Gt (.ref p) (.ref q)) Q E s
  exact wpAny_richCompare_same_room (op := .Gt) hTp hTq F.slot_tuple_gt (wpAny_call_entry F.slot_tuple_gt hTp F.entry_tuple_gt (tup_gt_tree (N _ hp).1 rfl (N _ hq).1 rfl rfl ⟨_, rfl, by simp, h⟩) (F.args_tuple_gt_2 _ _)) hu
theorem lt_tup {h₀ : Heap} {L p q : Addr} {news : List (Addr × Obj)} {a b c d : Int} {t1 t2 t3 t4 : Tok} {Q : Value → Shared → Prop} (N : News h₀ L s.heap news) (hp : (p, tupI a b t1 t2) ∈ news) (hq : (q, tupI c d t3 t4) ∈ news) (hu : A.units < cLine)
    (h : Q (.bool (decide (a < c ∨ (a = c ∧ b < d)))) s) : wpAny (model prog w) A (compareOp .Lt (.ref p) (.ref q)) Q E s := by
  have hTp : s.TypeIs (.ref p) "tuple" := ⟨_, (N _ hp).1, rfl⟩
  have hTq : s.TypeIs (.ref q) "tuple" := ⟨_, (N _ hq).1, rfl⟩
  show wpAny _ _ (richCompare .Lt (.ref p) (.ref q)) Q E s
  exact wpAny_richCompare_same_room (op := .Lt) hTp hTq F.slot_tuple_lt (wpAny_call_entry F.slot_tuple_lt hTp F.entry_tuple_lt (tup_lt_tree (N _ hp).1 rfl (N _ hq).1 rfl rfl ⟨_, rfl, by simp, h⟩) (F.args_tuple_lt_2 _ _)) hu
end
end
section
def isStr (s : Str) : Value → Bool
  | .str a _ => a == s
  | _ => false
theorem isStr_eq {s : Str} {t : Tok} : ∀ {l : List Value}, (∀ y ∈ l, ∃ a u, y = .str a u) → ∀ y ∈ l, MeetsSeq.EqGives y (.str s t) (isStr s y) := by
  intro l h y hy
  obtain ⟨a, u, rfl⟩ := h y hy
  exact eqGives_str a s u t
/-- a flag's place among \\a, a, ab, b, ba -/
def rk (x : Fin 5) : Nat := [1, 2, 0, 3, 4].getD x.val 0
def wordL (t0 t1 t2 t3 t4 : Tok) : List Value := [.str (Str.ofString "\\a") t0, .str (Str.ofString "a") t1, .str (Str.ofString "ab") t2, .str (Str.ofString "b") t3, .str (Str.ofString "ba") t4]
def wordT : List Str := [Str.ofString "\\a", Str.ofString "a", Str.ofString "ab", Str.ofString "b", Str.ofString "ba"]
theorem word_at : ∀ x : Fin 5, rk x < 5 ∧ (wordT.getD (rk x) ⟨#[]⟩ == fs x false) = true ∧ ∀ i, i < 5 → i < rk x → (wordT.getD i ⟨#[]⟩ == fs x false) = false := by decide +kernel
section
variable {prog : Program} {w : World} {A : Around} {E : Value → Shared → Prop} {s : Shared} {h₀ : Heap} {L D : Addr} {news : List (Addr × Obj)} {value slice : Expr}
theorem index_words {n : Nat} {t t0 t1 t2 t3 t4 : Tok} {x : Fin 5} {Q : Value → Shared → Prop} (N : News h₀ L s.heap news) (hm : (D, listOf #[.str (Str.ofString "\\a") t0, .str (Str.ofString "a") t1, .str (Str.ofString "ab") t2, .str (Str.ofString "b") t3, .str (Str.ofString "ba") t4] n) ∈ news)
    (h : Q (.int (rk x) s.toks) { s with toks := s.toks + 1 }) : wpAny (model prog w) A (call (.builtin "list.index") [.ref D, .str (fs x false) t]) Q E s := by
  have hw : ∀ y ∈ wordL t0 t1 t2 t3 t4, ∃ a u, y = .str a u := by
    intro y hy
    simp only [wordL, List.mem_cons, List.not_mem_nil, or_false] at hy
    rcases hy with rfl | rfl | rfl | rfl | rfl <;> exact ⟨_, _, rfl⟩
  obtain ⟨hj, b, c⟩ := word_at x
  have hg : ∀ i (hi : i < 5), isStr (fs x false) ((wordL t0 t1 t2 t3 t4)[i]'hi) = (wordT.getD i ⟨#[]⟩ == fs x false) := by
    rintro (_ | _ | _ | _ | _ | i) hi <;> first | rfl | omega
  refine call_meets PySem.F.slot_list_index ⟨_, (N _ hm).1, rfl⟩ PySem.F.entry_list_index (PySem.F.args_list_index_2 _ _)
    (MeetsSeq.list_index D (wordL t0 t1 t2 t3 t4).toArray n (.str (fs x false) t) (isStr (fs x false)) (fun y hy => isStr_eq hw y (by simpa using hy)) (rk x) hj (by omega) ((hg _ hj).trans b) (fun i hi hlt => (hg i hi).trans (c i hi hlt))) ⟨(N _ hm).1, h⟩
end
def rowAt (kvs : List KV) (i : Int) : KV := kvs.getD i.toNat (0, false, 0)
theorem Keys.at {ys : List Value} {kvs : List KV} (h : Keys ys kvs) : ∀ {i : Nat}, i < kvs.length → ∃ t, ys[i]? = some (.str (fs (kvs.getD i (0, false, 0)).1 (kvs.getD i (0, false, 0)).2.1) t) := by
  induction h with
  | nil => intro i hi; exact absurd hi (Nat.not_lt_zero _)
  | cons r ih =>
    intro i hi
    cases i with
    | zero => exact ⟨_, rfl⟩
    | succ i => exact ih (Nat.lt_of_succ_lt_succ hi)
theorem Vals.at {ys : List Value} {kvs : List KV} (h : Vals ys kvs) : ∀ {i : Nat}, i < kvs.length → ∃ t, ys[i]? = some (.str (pad (kvs.getD i (0, false, 0)).2.2) t) := by
  induction h with
  | nil => intro i hi; exact absurd hi (Nat.not_lt_zero _)
  | cons r ih =>
    intro i hi
    cases i with
    | zero => exact ⟨_, rfl⟩
    | succ i => exact ih (Nat.lt_of_succ_lt_succ hi)
/-- tuples of a line's length and its flag's place -/
inductive Ranks (news : List (Addr × Obj)) : List Value → List KV → Prop
  | nil : Ranks news [] []
  | cons {a : Addr} {x : Fin 5} {u : Bool} {n : Nat} {t t' : Tok} {items : List Value} {kvs : List KV} (h : (a, tupI ((n : Int) + 3) (rk x) t t') ∈ news) (r : Ranks news items kvs) : Ranks news (.ref a :: items) ((x, u, n) :: kvs)
theorem Ranks.mono {news news' : List (Addr × Obj)} (hs : ∀ p ∈ news, p ∈ news') {items : List Value} {kvs : List KV} (hR : Ranks news items kvs) : Ranks news' items kvs := by
  induction hR with
  | nil => exact .nil
  | cons h _ ih => exact .cons (hs _ h) ih
theorem Ranks.append {news : List (Addr × Obj)} {b : List Value} {kvb : List KV} (hb : Ranks news b kvb) {a : List Value} {kva : List KV} (h : Ranks news a kva) : Ranks news (a ++ b) (kva ++ kvb) := by
  induction h with
  | nil => exact hb
  | cons h _ ih => exact .cons h ih
theorem Ranks.len {news : List (Addr × Obj)} {items : List Value} {kvs : List KV} (h : Ranks news items kvs) : items.length = kvs.length := by
  induction h with
  | nil => rfl
  | cons _ _ ih => simp [ih]
theorem Ranks.at {news : List (Addr × Obj)} {ys : List Value} {kvs : List KV} (h : Ranks news ys kvs) : ∀ {i : Nat}, i < kvs.length → ∃ a t t', ys[i]? = some (.ref a) ∧ (a, tupI (((kvs.getD i (0, false, 0)).2.2 : Int) + 3) (rk (kvs.getD i (0, false, 0)).1) t t') ∈ news := by
  induction h with
  | nil => intro i hi; exact absurd hi (Nat.not_lt_zero _)
  | cons h r ih =>
    intro i hi
    cases i with
    | zero => exact ⟨_, _, _, rfl, h⟩
    | succ i => exact ih (Nat.lt_of_succ_lt_succ hi)
section
variable {prog : Program} {w : World} {A : Around} {E : Value → Shared → Prop} {s : Shared} {h₀ : Heap} {L D : Addr} {news : List (Addr × Obj)} {value slice : Expr} {ys : List Value} {kvs : List KV} {k : Int} {u : Tok} {Q : Value → Shared → Prop}
theorem item_keys (N : News h₀ L s.heap news) (hm : (D, LCg.lst ys) ∈ news) (hk : Keys ys kvs) (h0 : 0 ≤ k) (h1 : k < kvs.length) (h2 : kvs.length ≤ 50) (h : ∀ t, Q (.str (fs (rowAt kvs k).1 (rowAt kvs k).2.1) t) s)
    (hs : subscripted slice false (.ref D) (.int k u) = operate [.ref D, .int k u] (getItem (.ref D) (.int k u)) := by with_unfolding_all rfl) (hg : ∀ r, letTemporaryGo value (.ref D) r = pure () := by intro _; with_unfolding_all rfl) :
    wpAny (model prog w) A (subscriptTail value slice (.ref D) (.int k u)) Q E s :=
  let ⟨t, e⟩ := hk.at (i := k.toNat) (by omega)
  kim_list N hm rfl rfl h0 (by omega) e (h t) hs hg
theorem item_vals (N : News h₀ L s.heap news) (hm : (D, LCg.lst ys) ∈ news) (hk : Vals ys kvs) (h0 : 0 ≤ k) (h1 : k < kvs.length) (h2 : kvs.length ≤ 50) (h : ∀ t, Q (.str (pad (rowAt kvs k).2.2) t) s)
    (hs : subscripted slice false (.ref D) (.int k u) = operate [.ref D, .int k u] (getItem (.ref D) (.int k u)) := by with_unfolding_all rfl) (hg : ∀ r, letTemporaryGo value (.ref D) r = pure () := by intro _; with_unfolding_all rfl) :
    wpAny (model prog w) A (subscriptTail value slice (.ref D) (.int k u)) Q E s :=
  let ⟨t, e⟩ := hk.at (i := k.toNat) (by omega)
  kim_list N hm rfl rfl h0 (by omega) e (h t) hs hg
theorem item_ranks (N : News h₀ L s.heap news) (hm : (D, LCg.lst ys) ∈ news) (hk : Ranks news ys kvs) (h0 : 0 ≤ k) (h1 : k < kvs.length) (h2 : kvs.length ≤ 50) (h : ∀ a t t', (a, tupI (((rowAt kvs k).2.2 : Int) + 3) (rk (rowAt kvs k).1) t t') ∈ news → Q (.ref a) s)
    (hs : subscripted slice false (.ref D) (.int k u) = operate [.ref D, .int k u] (getItem (.ref D) (.int k u)) := by with_unfolding_all rfl) (hg : ∀ r, letTemporaryGo value (.ref D) r = pure () := by intro _; with_unfolding_all rfl) :
    wpAny (model prog w) A (subscriptTail value slice (.ref D) (.int k u)) Q E s :=
  let ⟨a, t, t', e, hm'⟩ := hk.at (i := k.toNat) (by omega)
  kim_list N hm rfl rfl h0 (by omega) e (h a t t' hm') hs hg
end
section
variable {prog : Program} {w : World} {A : Around} {E : Value → Shared → Prop} {s : Shared} {h₀ : Heap} {L D : Addr} {news : List (Addr × Obj)} {ys : List Value} {kvs : List KV} {Q : Value → Shared → Prop}
theorem len_keys (N : News h₀ L s.heap news) (hm : (D, LCg.lst ys) ∈ news) (hk : Keys ys kvs) (h2 : kvs.length ≤ 50) (h : Q (.int kvs.length (s.toks + 1)) { s with toks := s.toks + 1 + 1 }) : wpAny (model prog w) A (call (.builtin "len") [.ref D]) Q E s := by
  refine len_lst (its := ys.toArray) (k := ys.length) N hm ?_ ?_
  · rw [List.size_toArray, hk.len]; omega
  · rw [List.size_toArray, hk.len]; exact h
theorem len_vals (N : News h₀ L s.heap news) (hm : (D, LCg.lst ys) ∈ news) (hk : Vals ys kvs) (h2 : kvs.length ≤ 50) (h : Q (.int kvs.length (s.toks + 1)) { s with toks := s.toks + 1 + 1 }) : wpAny (model prog w) A (call (.builtin "len") [.ref D]) Q E s := by
  refine len_lst (its := ys.toArray) (k := ys.length) N hm ?_ ?_
  · rw [List.size_toArray, hk.len]; omega
  · rw [List.size_toArray, hk.len]; exact h
end
/-- no address of the one is an address of the other -/
def Apart (ext B : List (Addr × Obj)) : Prop := ∀ p ∈ ext, ∀ q ∈ B, p.1 ≠ q.1
theorem Apart.nil {B : List (Addr × Obj)} : Apart [] B := fun _ h => (nomatch h)
theorem Apart.all {ext B : List (Addr × Obj)} {a : Addr} {o : Obj} (h : Apart ext B) (hm : (a, o) ∈ B) : ∀ p ∈ ext, p.1 ≠ a := fun p hp => h p hp _ hm
theorem Apart.cons {ext B : List (Addr × Obj)} {t : Addr} {o : Obj} (h : Apart ext B) (ht : ∀ p ∈ B, p.1 ≠ t) : Apart ((t, o) :: ext) B := fun p hp q hq => by
  rcases List.mem_cons.mp hp with rfl | hp
  · exact fun e => ht q hq e.symm
  · exact h p hp q hq
def RanksJ (kvs : List KV) (news : List (Addr × Obj)) (n : Nat) (B : List (Addr × Obj)) (i : Nat) (ys : List Value) (n' : List (Addr × Obj)) : Prop :=
  ∃ e, n' = B.take n ++ e ∧ (∀ p ∈ news, p ∈ e) ∧ (∀ p ∈ e, p ∈ news ∨ ∀ q ∈ B, p.1 ≠ q.1) ∧ Ranks e ys (kvs.take i)
theorem RanksJ.nil {kvs : List KV} {n : Nat} {news B : List (Addr × Obj)} (h : B = B.take n ++ news) : RanksJ kvs news n B 0 [] B := ⟨news, h, fun _ h => h, fun _ h => .inl h, .nil⟩
theorem rowAt_le {kvs : List KV} (hp : ∀ p ∈ kvs, p.2.2 ≤ 900) (i : Int) : (rowAt kvs i).2.2 ≤ 900 := by
  unfold rowAt
  rw [List.getD_eq_getElem?_getD]
  cases h : kvs[i.toNat]? with
  | none => exact Nat.zero_le _
  | some r => exact hp _ (List.mem_of_getElem? h)
theorem off3_of {I C D : Addr} : ∀ {l : List (Addr × Obj)}, (∀ p ∈ l, p.1 ≠ I ∧ p.1 ≠ C ∧ p.1 ≠ D) → LCg.Off3 I C D l
  | [], _ => trivial
  | p :: _, h => ⟨h p (List.mem_cons_self ..), off3_of fun q hq => h q (List.mem_cons_of_mem _ hq)⟩
theorem take_rows {kvs : List KV} {i : Nat} (hi : i < kvs.length) : kvs.take (i + 1) = kvs.take i ++ [rowAt kvs (0 + (i : Int))] := by
  rw [List.take_add_one, List.getElem?_eq_getElem hi]
  unfold rowAt
  rw [show (0 + (i : Int)).toNat = i by omega, List.getD_eq_getElem?_getD, List.getElem?_eq_getElem hi]
  rfl
theorem ranks_turn {kvs : List KV} {n i : Nat} {B e news : List (Addr × Obj)} {ys : List Value} {t I C D L : Addr} {o oI oC oD : Obj} {la : Addr} {lo : Obj} {g h' : Heap} {m : Str → Option Value} {s₁ : Shared} {tk : Nat} {t1 t2 : Tok} (F : Fr g L h' m) (N : News g L h' ((t, o) :: (la, lo) :: (I, oI) :: (C, oC) :: (D, oD) :: (B.take n ++ e)))
    (hlt : AllLt t ((la, lo) :: (I, oI) :: (C, oC) :: (D, oD) :: (B.take n ++ e))) (off : LCg.Off3 I C D (B.take n ++ e)) (hB : B = B.take n ++ news) (hse : ∀ p ∈ news, p ∈ e) (hap : ∀ p ∈ e, p ∈ news ∨ ∀ q ∈ B, p.1 ≠ q.1) (hJ : Ranks e ys (kvs.take i)) (hi : i < kvs.length)
    (ho : o = tupI ((pad (rowAt kvs (0 + (i : Int))).2.2).length : Nat) (rk (rowAt kvs (0 + (i : Int))).1) t1 t2) :
    LCg.CompEnd g L m s₁ I oI C oC D oD (fun _ => True) (fun y n' => RanksJ kvs news n B (i + 1) (ys ++ [y]) n') (.ref t) { s₁ with heap := h', toks := tk } := by
  have hl := allLt_mem hlt
  have hlt' : ∀ p ∈ B.take n ++ e, p.1 ≠ t := fun p hp => Nat.ne_of_lt (hl p (by simp only [List.mem_cons]; exact .inr (.inr (.inr (.inr hp)))))
  refine LCg.CompEnd.intro F N (B.take n ++ ((t, o) :: e)) ?_ (off3_of ?_) trivial ⟨(t, o) :: e, rfl, fun p hp => List.mem_cons_of_mem _ (hse p hp), ?_, ?_⟩
  · intro p hp
    simp only [List.mem_cons, List.mem_append] at hp ⊢
    rcases hp with h | h | h | h | h | h
    · exact .inr (.inr (.inl h))
    · exact .inr (.inr (.inr (.inl h)))
    · exact .inr (.inr (.inr (.inr (.inl h))))
    · exact .inr (.inr (.inr (.inr (.inr (.inl h)))))
    · exact .inl h
    · exact .inr (.inr (.inr (.inr (.inr (.inr h)))))
  · intro p hp
    have hoff := off.mem
    rcases List.mem_append.mp hp with h | h
    · exact hoff p (List.mem_append_left _ h)
    · rcases List.mem_cons.mp h with rfl | h
      · exact ⟨Nat.ne_of_gt (hl (I, oI) (by simp)), Nat.ne_of_gt (hl (C, oC) (by simp)), Nat.ne_of_gt (hl (D, oD) (by simp))⟩
      · exact hoff p (List.mem_append_right _ h)
  · intro p hp
    rcases List.mem_cons.mp hp with rfl | hp
    · refine .inr fun q hq e1 => ?_
      rw [hB] at hq
      rcases List.mem_append.mp hq with h | h
      · exact hlt' q (List.mem_append_left _ h) e1.symm
      · exact hlt' q (List.mem_append_right _ (hse q h)) e1.symm
    · exact hap p hp
  · rw [take_rows hi]
    refine Ranks.append (kvb := [rowAt kvs (0 + (i : Int))]) (.cons (t := t1) (t' := t2) ?_ .nil) (hJ.mono fun p hp => List.mem_cons_of_mem _ hp)
    rw [ho, len_pad]
    exact List.mem_cons_self ..
theorem cells_off {d : Addr} {e news B : List (Addr × Obj)} {a : Addr} {o : Obj} (hap : ∀ p ∈ e, p ∈ news ∨ ∀ q ∈ B, p.1 ≠ q.1) (hl : ∀ p ∈ news, p.1 < d) (hm : (a, o) ∈ B) (ha : @LE.le Nat _ d a) : ∀ p ∈ e, p.1 ≠ a := fun p hp => by
  rcases hap p hp with h | h
  · exact all_ne hl ha p h
  · exact h _ hm
end
section
section
variable {prog : Program} {w : World} {A : Around} {E : Value → Shared → Prop} {s : Shared} {env : Env} {h₀ : Heap} {body : List Stmt} {Q : Flow → Shared → Prop}
/-- the items of a range -/
def rngItems (a : Int) (i k : Nat) : List Itm := (List.range' i k).map fun j => .tok (fun t => .int (a + (j : Nat)) t)
theorem iter_rangeT {y : Str} {py : Pos} {r : Addr} {a b : Int} {t u v : Tok} {n : Nat} {m₀ : Str → Option Value} {news : List (Addr × Obj)}
    (hh : A.handled = none) (F : Fr h₀ env.locals s.heap m₀) (N : News h₀ env.locals s.heap news) (hr : IsRange s.heap r a b 1 t u v) (hsm : Builtin.Range.small a b 1 = true) (hn : Builtin.Range.rangeSize a b 1 = ((n : Nat) : Int))
    (rest₀ : ∀ I : Addr, (∀ p ∈ news, p.1 < I) → ItemsRest prog w A E h₀ env (.Name y py) body Q s [(I, "range_iterator")] [] (rngItems a 0 n) m₀ news) :
    wpAny (model prog w) A (pyIter (.ref r)) (fun it s₂ => TurnsAt prog w A h₀ env (.Name y py) body Q E it s₂) E s := by
  refine wpAny_pyIter_range hr hsm ?_
  rw [hn]
  refine ktu_core (tk0 := s.toks) (keep := []) (KTurns.ofWalks (Walks.range hh s.heap.objs.size a 1 n).bound fun i v s Q E st q => wpAny_pure q) (by simp [rngItems]) (fun i v h hp => ?_) (fun i h st => ?_) (fun b hb => ?_) (fun b hb => by simpa using hb) (fun b hb => .inl (by simpa using hb)) ?_ (fun p hp hI => ?_) ?_ (F.push _) (fun p hp => ⟨Heap.get?_push_of_some _ (N p hp).1, (N p hp).2⟩) trivial (rest₀ _ fun p hp => Heap.lt_size (N p hp).1)
  · obtain ⟨hi, t, rfl⟩ := hp
    refine ⟨.tok (fun t => .int (a + (i : Nat)) t), ?_, t, by rw [Int.mul_one]⟩
    unfold rngItems
    rw [List.getElem?_map, List.getElem?_range' hi]
    simp
  · exact ⟨[(s.heap.objs.size, _)], ⟨⟨rfl, rfl⟩, trivial⟩, fun p hp => by rw [List.mem_singleton.mp hp]; exact st⟩
  · have hb' : b = s.heap.objs.size := by simpa using hb
    rw [hb']
    exact ⟨List.mem_cons_self .., next_is_new F⟩
  · intro hI
    rcases List.mem_cons.mp hI with e | hI
    · exact absurd F.ns.lt (e ▸ Nat.lt_irrefl _)
    · cases hI
  · exact absurd (Heap.lt_size (N p hp).1) ((List.mem_singleton.mp hI) ▸ Nat.lt_irrefl _)
  · have h0 : IsRangeIter (s.heap.push { cls := .type "range_iterator", data := .fields #[rawInt a, rawInt n, rawInt 1] }) s.heap.objs.size a n 1 := Heap.get?_push_size _ rfl
    have e1 : a + ((0 : Nat) : Int) * 1 = a := by omega
    have e2 : (n : Int) - ((0 : Nat) : Int) = n := by omega
    show IsRangeIter _ _ (a + ((0 : Nat) : Int) * 1) ((n : Int) - ((0 : Nat) : Int)) 1
    rw [e1, e2]
    exact h0
theorem range_ind {target : Expr} {I : Addr} {cl : String} {m₀ : Str → Option Value} {n : Nat} {a : Int} (names : List Str) (J : Nat → List (Addr × Obj) → Prop)
    (turn : ∀ i news u h tk o tt, i < n → J i news → o.cls = .type cl → Fr h₀ env.locals h (ovr u m₀ names) → News h₀ env.locals h ((I, o) :: news) →
      wpAny (model prog w) A (assign target env (.int (a + (i : Nat)) tt)) (fun _ s₂ => wpAny (model prog w) A (execs body env) (UnrPostW h₀ env.locals { s with heap := h, toks := tk } [(I, o)] (fun m' n' => SubL [] n' ∧ (∀ z, z ∉ names → m' z = m₀ z) ∧ J (i + 1) n') Q) E s₂) E { s with heap := h, toks := tk })
    (done : ∀ news u h tk, J n news → Fr h₀ env.locals h (ovr u m₀ names) → News h₀ env.locals h news → Q .next { s with heap := h, toks := tk }) :
    ∀ k i m₁ news, i + k = n → (∀ z, z ∉ names → m₁ z = m₀ z) → J i news → ItemsRest prog w A E h₀ env target body Q s [(I, cl)] [] (rngItems a i k) m₁ news := by
  intro k
  induction k with
  | zero =>
    intro i m₁ news hi hm hJ
    refine ItemsRest.zero fun h tk F N => ?_
    rw [ovr_eq hm] at F
    exact done news m₁ h tk (by rw [show n = i from hi.symm]; exact hJ) F N
  | succ k ih =>
    intro i m₁ news hi hm hJ
    have hi2 : i + 1 + k = n := by rw [Nat.add_right_comm]; exact hi
    refine ItemsRest.tok fun tt h tk F => AllObj.cons fun o hc => AllObj.nil fun N => ?_
    rw [ovr_eq hm] at F
    exact wpAny_mono (turn i news m₁ h tk o tt (hi ▸ Nat.lt_add_of_pos_right (Nat.succ_pos k)) hJ hc F N) (fun _ s₂ h₂ => wpAny_mono h₂ (fun f s₃ h₃ => unr_mono h₃ fun m n' ⟨a, b, c⟩ => ⟨a, ih (i + 1) m n' hi2 b c⟩) fun _ _ e => e) fun _ _ e => e
end
end
local macro_rules | `(tactic| k_all) => `(tactic| k_dflt (refine' cells_off ?h9 ?l9 ?m9 ?a9; (case h9 => assumption); (case l9 => first | assumption | exact allLt_mem (by assumption)); (case m9 => (repeat (first | exact List.Mem.head _ | refine List.Mem.tail _ ?_))); (case a9 => first | omega | exact Nat.le_succ _ | exact Nat.le_add_right _ _)))
section
def padL (n : Nat) (r : List Nat) : List Nat := List.replicate n 32 ++ 9 :: r
theorem padL_lt : ∀ (n m : Nat) (r r' : List Nat), padL n r < padL m r' ↔ n < m ∨ (n = m ∧ r < r')
  | 0, 0, r, r' => by simp [padL]
  | 0, m + 1, r, r' => by simp [padL, List.replicate_succ, List.cons_lt_cons_iff]
  | n + 1, 0, r, r' => by simp [padL, List.replicate_succ, List.cons_lt_cons_iff]
  | n + 1, m + 1, r, r' => by
    have ih := padL_lt n m r r'
    unfold padL at ih ⊢
    simp only [List.replicate_succ, List.cons_append, List.cons_lt_cons_iff, Nat.lt_irrefl, false_or, true_and, ih, Nat.add_lt_add_iff_right, Nat.add_right_cancel_iff]
theorem fs_order : ∀ x y : Fin 5, (((32 :: 32 :: (fs x false).cps.toList : List Nat) < 32 :: 32 :: (fs y false).cps.toList) ↔ rk x < rk y) := by decide +kernel
theorem line_list (n : Nat) (s : Str) : (pad n ++ s).cps.toList = padL n (32 :: 32 :: s.cps.toList) := by
  show ((List.replicate n 32 ++ [9, 32, 32]).toArray ++ s.cps).toList = _
  simp [padL]
theorem line_lt (n m : Nat) (x y : Fin 5) : (pad n ++ fs x false).cps.toList < (pad m ++ fs y false).cps.toList ↔ n < m ∨ (n = m ∧ rk x < rk y) := by
  rw [line_list, line_list, padL_lt, fs_order]
/-- the order of two lines, as tuples of ints tell it -/
def cmpI (n : Nat) (x : Fin 5) (m : Nat) (y : Fin 5) : Int :=
  b2i (decide (((m : Int) + 3) < ((n : Int) + 3) ∨ (((n : Int) + 3) = ((m : Int) + 3) ∧ (rk y : Int) < rk x))) - b2i (decide (((n : Int) + 3) < ((m : Int) + 3) ∨ (((n : Int) + 3) = ((m : Int) + 3) ∧ (rk x : Int) < rk y)))
theorem strcoll_line {w : World} {mean : ExcName → Option Value} {mg mb : Str → Option Value} {news : List (Addr × Obj)} {n m : Nat} {x y : Fin 5} {t t' : Tok} :
    CkClaim w mean mg mb 1 45 news [.str (pad n ++ fs x false) t, .str (pad m ++ fs y false) t'] [] (fun v news' => (∃ t, v = .int (cmpI n x m y) t) ∧ news = news') := by
  have h := strcoll_c (w := w) (mean := mean) (mg := mg) (mb := mb) (news := news) (a := pad n ++ fs x false) (b := pad m ++ fs y false) (t := t) (t' := t')
  have e1 : decide ((pad m ++ fs y false).cps.toList < (pad n ++ fs x false).cps.toList) = decide (((m : Int) + 3) < ((n : Int) + 3) ∨ (((n : Int) + 3) = ((m : Int) + 3) ∧ (rk y : Int) < rk x)) :=
    decide_eq_decide.mpr (by rw [line_lt]; omega)
  have e2 : decide ((pad n ++ fs x false).cps.toList < (pad m ++ fs y false).cps.toList) = decide (((n : Int) + 3) < ((m : Int) + 3) ∨ (((n : Int) + 3) = ((m : Int) + 3) ∧ (rk x : Int) < rk y)) :=
    decide_eq_decide.mpr (by rw [line_lt]; omega)
  rw [e1, e2] at h
  exact h
section
variable {prog : Program} {w : World} {A : Around} {E : Value → Shared → Prop} {s : Shared}
theorem add_line {n : Nat} {x : Fin 5} {u : Bool} {t t' : Tok} {Q : Value → Shared → Prop} (hn : n ≤ 1000) (h : ∀ t' k, Q (.str (pad n ++ fs x u) t') { s with toks := k }) :
    wpAny (model prog w) A (binaryOp .Add (.str (pad n) t) (.str (fs x u) t')) Q E s :=
  add_str h (by have := short_fs x u; rw [len_pad, sizeLine_eq]; omega)
end
/-- which of the first j lines is the least -/
def lowOf (kvs : List KV) : Nat → Nat
  | 0 => 0
  | j + 1 => if cmpI (rowAt kvs (0 + (j : Int))).2.2 (rowAt kvs (0 + (j : Int))).1 (rowAt kvs (lowOf kvs j : Int)).2.2 (rowAt kvs (lowOf kvs j : Int)).1 = -1 then j else lowOf kvs j
def LowJ (kvs : List KV) (B : List (Addr × Obj)) (n : Nat) (c : Addr) (j : Nat) (n' : List (Addr × Obj)) : Prop :=
  ∃ oc t, n' = B.take n ++ (c, oc) :: B.drop (n + 1) ∧ oc.data = Data.cell (some (.int (lowOf kvs j) t))
theorem lowOf_lt {kvs : List KV} (h : 0 < kvs.length) : ∀ j, j ≤ kvs.length → lowOf kvs j < kvs.length
  | 0, _ => h
  | j + 1, hj => by
    unfold lowOf
    split
    · omega
    · exact lowOf_lt h j (by omega)
theorem LowJ.nil {kvs : List KV} {B : List (Addr × Obj)} {n : Nat} {c : Addr} {oc : Obj} {t : Tok} (h : B = B.take n ++ (c, oc) :: B.drop (n + 1)) (hd : oc.data = Data.cell (some (.int 0 t))) : LowJ kvs B n c 0 B := ⟨oc, t, h, hd⟩
theorem low_lt {B : List (Addr × Obj)} {n : Nat} {c I : Addr} {o0 oc : Obj} (hI : ∀ p ∈ B, p.1 < I) (hB : B = B.take n ++ (c, o0) :: B.drop (n + 1)) : ∀ p ∈ B.take n ++ (c, oc) :: B.drop (n + 1), p.1 ≠ I := by
  intro p hp
  have hc : (c, o0) ∈ B := by rw [hB]; exact List.mem_append_right _ (List.mem_cons_self ..)
  rcases List.mem_append.mp hp with h | h
  · exact Nat.ne_of_lt (hI p (List.mem_of_mem_take h))
  · rcases List.mem_cons.mp h with rfl | h
    · exact Nat.ne_of_lt (hI (c, o0) hc)
    · exact Nat.ne_of_lt (hI p (List.mem_of_mem_drop h))
theorem low_step {kvs : List KV} {j : Nat} {oc : Obj} {t : Tok} (hq : cmpI (rowAt kvs (0 + (j : Int))).2.2 (rowAt kvs (0 + (j : Int))).1 (rowAt kvs (lowOf kvs j : Int)).2.2 (rowAt kvs (lowOf kvs j : Int)).1 = -1) (hd : oc.data = Data.cell (some (.int (0 + (j : Int)) t))) :
    oc.data = Data.cell (some (.int (lowOf kvs (j + 1)) t)) := by
  rw [lowOf, if_pos hq, hd, Int.zero_add]
theorem low_stay {kvs : List KV} {j : Nat} {oc : Obj} {t : Tok} (hq : ¬ cmpI (rowAt kvs (0 + (j : Int))).2.2 (rowAt kvs (0 + (j : Int))).1 (rowAt kvs (lowOf kvs j : Int)).2.2 (rowAt kvs (lowOf kvs j : Int)).1 = -1) (hd : oc.data = Data.cell (some (.int (lowOf kvs j) t))) :
    oc.data = Data.cell (some (.int (lowOf kvs (j + 1)) t)) := by
  rw [lowOf, if_neg hq, hd]
/-- what the least line counts; the rows that count so -/
def lowN (kvs : List KV) : Nat := (rowAt kvs (lowOf kvs kvs.length : Int)).2.2
def outOf (kvs : List KV) : List KV := kvs.filter fun r => r.2.2 == lowN kvs
theorem rowAt_mem {kvs : List KV} {i : Nat} (hi : i < kvs.length) : rowAt kvs (i : Int) ∈ kvs := by
  unfold rowAt
  rw [Int.toNat_natCast, List.getD_eq_getElem?_getD, List.getElem?_eq_getElem hi]
  exact List.getElem_mem hi
theorem outOf_pos {kvs : List KV} (h : 0 < kvs.length) : 0 < (outOf kvs).length := by
  have hm := rowAt_mem (lowOf_lt h kvs.length (Nat.le_refl _))
  exact List.length_pos_of_mem (List.mem_filter.mpr ⟨hm, by simp [lowN]⟩)
def OutJ (kvs : List KV) (B : List (Addr × Obj)) (i : Nat) (ys : List Value) (n' : List (Addr × Obj)) : Prop := B = n' ∧ Keys ys ((kvs.take i).filter fun r => r.2.2 == lowN kvs)
theorem OutJ.nil {kvs : List KV} {B : List (Addr × Obj)} : OutJ kvs B 0 [] B := ⟨rfl, .nil⟩
theorem OutJ.step {kvs : List KV} {B n' : List (Addr × Obj)} {i : Nat} {ys : List Value} {t : Tok} (h : OutJ kvs B i ys n') (hi : i < kvs.length) (e : (rowAt kvs (0 + (i : Int))).2.2 = lowN kvs) :
    OutJ kvs B (i + 1) (ys ++ [.str (fs (rowAt kvs (0 + (i : Int))).1 (rowAt kvs (0 + (i : Int))).2.1) t]) n' := by
  refine ⟨h.1, ?_⟩
  rw [take_rows hi, List.filter_append]
  have : List.filter (fun r : KV => r.2.2 == lowN kvs) [rowAt kvs (0 + (i : Int))] = [rowAt kvs (0 + (i : Int))] := by rw [Int.zero_add] at e ⊢; simp [e]
  rw [this]
  exact Keys.append (kvb := [rowAt kvs (0 + (i : Int))]) (.cons .nil) h.2
theorem OutJ.skip {kvs : List KV} {B n' : List (Addr × Obj)} {i : Nat} {ys : List Value} (h : OutJ kvs B i ys n') (hi : i < kvs.length) (e : ¬ (rowAt kvs (0 + (i : Int))).2.2 = lowN kvs) : OutJ kvs B (i + 1) ys n' := by
  refine ⟨h.1, ?_⟩
  rw [take_rows hi, List.filter_append]
  have : List.filter (fun r : KV => r.2.2 == lowN kvs) [rowAt kvs (0 + (i : Int))] = [] := by rw [Int.zero_add] at e ⊢; simp [e]
  rw [this, List.append_nil]
  exact h.2
theorem pad_len_eq {n m : Nat} : (((pad n).length : Nat) : Int) = ((pad m).length : Nat) ↔ n = m := by
  rw [len_pad, len_pad]; omega
theorem fmod_pos {a : Int} {n : Nat} (h : 0 < n) : 0 ≤ a.fmod n ∧ a.fmod n < n := by
  rw [Int.fmod_eq_emod_of_nonneg _ (Int.natCast_nonneg n)]
  exact ⟨Int.emod_nonneg _ (by omega), Int.emod_lt_of_pos _ (by omega)⟩
theorem keep2 {l : Addr} {A B C news : List (Addr × Obj)} (h2 : ∀ p ∈ B, p.1 ≠ l → p ∈ C) (h1 : ∀ p ∈ A, p.1 ≠ l → p ∈ B) (hs : ∀ p ∈ news, p ∈ A) : ∀ p ∈ news, p.1 ≠ l → p ∈ C := fun p hp hq => h2 p (h1 p (hs p hp) hq) hq
theorem delK_len {kvs : List KV} {m : Nat} (h : kvs.length ≤ m) (y : Fin 5) : (delK y kvs).length ≤ m := Nat.le_trans (List.length_filter_le _ _) h
end
section
/-- what _law_full makes of the long table -/
def fullStep (kvs : List KV) (y : Fin 5) (u : Bool) (size pick : Int) : List KV :=
  match getK y kvs with
  | some n => delK y kvs ++ [(y, u, n + 1)]
  | none =>
    if (kvs.length : Int) ≤ size then delK y kvs ++ [(y, u, 1)] else
      delK y (delK (rowAt (outOf kvs) (pick.fmod (outOf kvs).length)).1 kvs) ++ [(y, u, lowN kvs + 1)]
section
variable {w : World} {mean : ExcName → Option Value} {mg mb : Str → Option Value} {news : List (Addr × Obj)} {x l : Addr} {kvs : List KV}
theorem full_c (hH : HdrAt w news x l kvs) (hz : kvs.length ≤ 40) (hp : ∀ p ∈ kvs, p.2.2 ≤ 900) {y : Fin 5} {u : Bool} {size pick : Int} (hsz : 0 ≤ size) {t t' t'' : Tok} :
    CkClaim w mean mg mb 8 218 news [.ref x, .str (fs y u) t, .int size t', .int pick t''] [] (fun v news' => v = .bool true ∧ HdrAt w news' x l (fullStep kvs y u size pick) ∧ ∀ p ∈ news, p.1 ≠ l → p ∈ news') := by
  dsimp only [CkClaim]
  intros
  rename_i hret
  obtain ⟨dx, th, n, k, items, hx, hd, hl, hr⟩ := hH.at_
  have hlen := hr.len
  cases hg : getK y kvs with
  | some n0 =>
    have hn0 : n0 ≤ 900 := let ⟨u, hu⟩ := getK_mem hg; hp _ hu
    (refine wpAny_call ?_; (k_dflt (first | (refine' code_def ?k1 ?k2 ?k3 ?k4 ?k5 ?kA ?kF ?kK ?k6 ?k7 ?k8 ?k9 ?kB ?_ ?c2 ?c3 ?c4 ?c5; (case kA => exact rfl); (case kF => exact rfl); (case kK => first | exact rfl | assumption); (case k1 => k_asm); (case k2 => k_asm); (case k3 => k_asm); (case k4 => k_asm); (case k5 => k_asm); (case k6 => k_is); (case k7 => k_is); (case k8 => first | exact room_a (by assumption) (by decide) | omega | ktr_room | k_room); (case k9 => first | exact BindsTo.of_eq rfl | exact binds_K (by k_in) rfl (by k_is) rfl rfl rfl); (case c5 => decide); (case kB => exact locs rfl); (case c2 => exact rfl); (case c3 => exact rfl); (case c4 => exact rfl); k_whole; intro gE LE hE FGE FE NE BE XE TE; (try dsimp only); (try k_lift BE); (try k_fold)) | (refine' code_defC ?k1 ?k2 ?k3 ?k4 ?k5 ?kA ?kF ?kK ?k6 ?k7 ?k8 ?k9 ?kB ?kD ?_ ?c2 ?c3 ?c4; (case kA => exact rfl); (case kF => exact rfl); (case kK => first | exact rfl | assumption); (case k1 => k_asm); (case k2 => k_asm); (case k3 => k_asm); (case k4 => k_asm); (case k5 => k_asm); (case k6 => k_is); (case k7 => k_is); (case k8 => first | exact room_a (by assumption) (by decide) | omega | ktr_room | k_room); (case k9 => first | exact BindsTo.of_eq rfl | exact binds_K (by k_in) rfl (by k_is) rfl rfl rfl); (case kB => exact rfl); (case kD => decide +kernel); (case c2 => exact rfl); (case c3 => exact rfl); (case c4 => exact rfl); k_whole; intro gE LE hE tkE cells' FGE FE NE YE BE XE TE lE; (try k_lt lE); k_cells YE; (try simp only [List.cons_append, List.nil_append] at NE); (try dsimp only); (try k_lift BE); (try k_fold)))))
    (k_steps; repeat' (first | ((with_reducible (refine Stop.into ?_; (with_reducible show wpAny _ _ (binaryOp Operator.Add (Value.str _ _) (Value.str _ _)) _ _ _); refine add_pad (by first | assumption | omega) ?_; intro _ _)); k_steps) | ((with_reducible (refine Stop.into ?_; (with_reducible show wpAny _ _ (call (Value.ref _) _ _) _ _ _); k_dflt (first | (refine' ck_use0 (contains_t ?hH ?hn) ?kk ?_; (case kk => (refine' CkAt.mk ?k1 ?k2 ?k3 ?k4 ?k5 ?kK ?kd ?ku; ((case k1 => k_asm); (case k2 => k_asm); (case k3 => k_asm); (case k4 => k_asm); (case k5 => k_asm); (case kK => first | exact rfl | assumption); (case kd => first | exact room_a (by assumption) (by decide) | omega | ktr_room | k_room); (case ku => first | exact unit_a (by assumption) (by decide) | exact unit_b (by assumption) (by decide) | exact unit_c (by assumption) (by decide) | omega | ktr_units | k_units)))); (case hH => first | assumption | (refine' HdrAt.mono ?hs9 ?hh9; (case hh9 => assumption); (case hs9 => (intro p hp; (repeat (first | exact hp | assumption | refine List.mem_cons_of_mem _ ?_)))))); (case hn => assumption); intro _ _ _ _) | (refine' ck_use0 (contains_f ?hH ?hn) ?kk ?_; (case kk => (refine' CkAt.mk ?k1 ?k2 ?k3 ?k4 ?k5 ?kK ?kd ?ku; ((case k1 => k_asm); (case k2 => k_asm); (case k3 => k_asm); (case k4 => k_asm); (case k5 => k_asm); (case kK => first | exact rfl | assumption); (case kd => first | exact room_a (by assumption) (by decide) | omega | ktr_room | k_room); (case ku => first | exact unit_a (by assumption) (by decide) | exact unit_b (by assumption) (by decide) | exact unit_c (by assumption) (by decide) | omega | ktr_units | k_units)))); (case hH => first | assumption | (refine' HdrAt.mono ?hs9 ?hh9; (case hh9 => assumption); (case hs9 => (intro p hp; (repeat (first | exact hp | assumption | refine List.mem_cons_of_mem _ ?_)))))); (case hn => assumption); intro _ _ _ _)))); k_steps) | ((with_reducible (refine Stop.into ?_; (with_reducible show wpAny _ _ (call (Value.ref _) _ _) _ _ _); k_dflt (refine' ck_useH (setitem_w ?hH ?hz ?hn ?hs) ?kk ?_; (case kk => (refine' CkAt.mk ?k1 ?k2 ?k3 ?k4 ?k5 ?kK ?kd ?ku; ((case k1 => k_asm); (case k2 => k_asm); (case k3 => k_asm); (case k4 => k_asm); (case k5 => k_asm); (case kK => first | exact rfl | assumption); (case kd => first | exact room_a (by assumption) (by decide) | omega | ktr_room | k_room); (case ku => first | exact unit_a (by assumption) (by decide) | exact unit_b (by assumption) (by decide) | exact unit_c (by assumption) (by decide) | omega | ktr_units | k_units)))); (case hH => first | assumption | (refine' HdrAt.mono ?hs9 ?hh9; (case hh9 => assumption); (case hs9 => (intro p hp; (repeat (first | exact hp | assumption | refine List.mem_cons_of_mem _ ?_)))))); (case hs => first | exact rfl | exact lit_one); (case hz => first | assumption | omega); (case hn => first | assumption | omega); (intro hZ tkZ newsZ FZ NZ hHZ hKZ; obtain ⟨_, _, _, _, _, _, _, _, hrZ⟩ := HdrAt.at_ hHZ; have hlenZ := Rows.len hrZ)))); k_steps) | ((with_reducible (refine Stop.into ?_; (with_reducible show wpAny _ _ (call (Value.ref _) _ _) _ _ _); k_dflt (first | (refine' ck_use0 (contains_c ?hH) ?kk ?_; (case kk => (refine' CkAt.mk ?k1 ?k2 ?k3 ?k4 ?k5 ?kK ?kd ?ku; ((case k1 => k_asm); (case k2 => k_asm); (case k3 => k_asm); (case k4 => k_asm); (case k5 => k_asm); (case kK => first | exact rfl | assumption); (case kd => first | exact room_a (by assumption) (by decide) | omega | ktr_room | k_room); (case ku => first | exact unit_a (by assumption) (by decide) | exact unit_b (by assumption) (by decide) | exact unit_c (by assumption) (by decide) | omega | ktr_units | k_units)))); (case hH => first | assumption | (refine' HdrAt.mono ?hs9 ?hh9; (case hh9 => assumption); (case hs9 => (intro p hp; (repeat (first | exact hp | assumption | refine List.mem_cons_of_mem _ ?_)))))); intro _ _ _ _) | (refine' ck_useT (getitem_c ?hH ?hn) ?kk ?_; (case kk => (refine' CkAt.mk ?k1 ?k2 ?k3 ?k4 ?k5 ?kK ?kd ?ku; ((case k1 => k_asm); (case k2 => k_asm); (case k3 => k_asm); (case k4 => k_asm); (case k5 => k_asm); (case kK => first | exact rfl | assumption); (case kd => first | exact room_a (by assumption) (by decide) | omega | ktr_room | k_room); (case ku => first | exact unit_a (by assumption) (by decide) | exact unit_b (by assumption) (by decide) | exact unit_c (by assumption) (by decide) | omega | ktr_units | k_units)))); (case hH => first | assumption | (refine' HdrAt.mono ?hs9 ?hh9; (case hh9 => assumption); (case hs9 => (intro p hp; (repeat (first | exact hp | assumption | refine List.mem_cons_of_mem _ ?_)))))); (case hn => assumption); intro _ _ _ _ _) | (refine' ck_useT (len_c ?hH ?hn) ?kk ?_; (case kk => (refine' CkAt.mk ?k1 ?k2 ?k3 ?k4 ?k5 ?kK ?kd ?ku; ((case k1 => k_asm); (case k2 => k_asm); (case k3 => k_asm); (case k4 => k_asm); (case k5 => k_asm); (case kK => first | exact rfl | assumption); (case kd => first | exact room_a (by assumption) (by decide) | omega | ktr_room | k_room); (case ku => first | exact unit_a (by assumption) (by decide) | exact unit_b (by assumption) (by decide) | exact unit_c (by assumption) (by decide) | omega | ktr_units | k_units)))); (case hH => first | assumption | (refine' HdrAt.mono ?hs9 ?hh9; (case hh9 => assumption); (case hs9 => (intro p hp; (repeat (first | exact hp | assumption | refine List.mem_cons_of_mem _ ?_)))))); (case hn => omega); intro _ _ _ _ _)))); k_steps) | fail))
    exact hret _ _ _ _ (by k_asm) (by k_asm) ⟨rfl, by unfold fullStep; rw [hg]; assumption, by first | assumption | (refine' keep_sub ?h9 ?s9; (case h9 => assumption); (case s9 => (intro p hp; (repeat (first | exact hp | assumption | refine List.mem_cons_of_mem _ ?_)))))⟩
  | none =>
    (refine wpAny_call ?_; (k_dflt (first | (refine' code_def ?k1 ?k2 ?k3 ?k4 ?k5 ?kA ?kF ?kK ?k6 ?k7 ?k8 ?k9 ?kB ?_ ?c2 ?c3 ?c4 ?c5; (case kA => exact rfl); (case kF => exact rfl); (case kK => first | exact rfl | assumption); (case k1 => k_asm); (case k2 => k_asm); (case k3 => k_asm); (case k4 => k_asm); (case k5 => k_asm); (case k6 => k_is); (case k7 => k_is); (case k8 => first | exact room_a (by assumption) (by decide) | omega | ktr_room | k_room); (case k9 => first | exact BindsTo.of_eq rfl | exact binds_K (by k_in) rfl (by k_is) rfl rfl rfl); (case c5 => decide); (case kB => exact locs rfl); (case c2 => exact rfl); (case c3 => exact rfl); (case c4 => exact rfl); k_whole; intro gE LE hE FGE FE NE BE XE TE; (try dsimp only); (try k_lift BE); (try k_fold)) | (refine' code_defC ?k1 ?k2 ?k3 ?k4 ?k5 ?kA ?kF ?kK ?k6 ?k7 ?k8 ?k9 ?kB ?kD ?_ ?c2 ?c3 ?c4; (case kA => exact rfl); (case kF => exact rfl); (case kK => first | exact rfl | assumption); (case k1 => k_asm); (case k2 => k_asm); (case k3 => k_asm); (case k4 => k_asm); (case k5 => k_asm); (case k6 => k_is); (case k7 => k_is); (case k8 => first | exact room_a (by assumption) (by decide) | omega | ktr_room | k_room); (case k9 => first | exact BindsTo.of_eq rfl | exact binds_K (by k_in) rfl (by k_is) rfl rfl rfl); (case kB => exact rfl); (case kD => decide +kernel); (case c2 => exact rfl); (case c3 => exact rfl); (case c4 => exact rfl); k_whole; intro gE LE hE tkE cells' FGE FE NE YE BE XE TE lE; (try k_lt lE); k_cells YE; (try simp only [List.cons_append, List.nil_append] at NE); (try dsimp only); (try k_lift BE); (try k_fold)))))
    (k_steps; repeat' (first | ((with_reducible (refine Stop.into ?_; (with_reducible show wpAny _ _ (call (Value.ref _) _ _) _ _ _); k_dflt (first | (refine' ck_use0 (contains_t ?hH ?hn) ?kk ?_; (case kk => (refine' CkAt.mk ?k1 ?k2 ?k3 ?k4 ?k5 ?kK ?kd ?ku; ((case k1 => k_asm); (case k2 => k_asm); (case k3 => k_asm); (case k4 => k_asm); (case k5 => k_asm); (case kK => first | exact rfl | assumption); (case kd => first | exact room_a (by assumption) (by decide) | omega | ktr_room | k_room); (case ku => first | exact unit_a (by assumption) (by decide) | exact unit_b (by assumption) (by decide) | exact unit_c (by assumption) (by decide) | omega | ktr_units | k_units)))); (case hH => first | assumption | (refine' HdrAt.mono ?hs9 ?hh9; (case hh9 => assumption); (case hs9 => (intro p hp; (repeat (first | exact hp | assumption | refine List.mem_cons_of_mem _ ?_)))))); (case hn => assumption); intro _ _ _ _) | (refine' ck_use0 (contains_f ?hH ?hn) ?kk ?_; (case kk => (refine' CkAt.mk ?k1 ?k2 ?k3 ?k4 ?k5 ?kK ?kd ?ku; ((case k1 => k_asm); (case k2 => k_asm); (case k3 => k_asm); (case k4 => k_asm); (case k5 => k_asm); (case kK => first | exact rfl | assumption); (case kd => first | exact room_a (by assumption) (by decide) | omega | ktr_room | k_room); (case ku => first | exact unit_a (by assumption) (by decide) | exact unit_b (by assumption) (by decide) | exact unit_c (by assumption) (by decide) | omega | ktr_units | k_units)))); (case hH => first | assumption | (refine' HdrAt.mono ?hs9 ?hh9; (case hh9 => assumption); (case hs9 => (intro p hp; (repeat (first | exact hp | assumption | refine List.mem_cons_of_mem _ ?_)))))); (case hn => assumption); intro _ _ _ _)))); k_steps) | ((with_reducible (refine Stop.into ?_; (with_reducible show wpAny _ _ (call (Value.ref _) _ _) _ _ _); k_dflt (refine' ck_useH (setitem_w ?hH ?hz ?hn ?hs) ?kk ?_; (case kk => (refine' CkAt.mk ?k1 ?k2 ?k3 ?k4 ?k5 ?kK ?kd ?ku; ((case k1 => k_asm); (case k2 => k_asm); (case k3 => k_asm); (case k4 => k_asm); (case k5 => k_asm); (case kK => first | exact rfl | assumption); (case kd => first | exact room_a (by assumption) (by decide) | omega | ktr_room | k_room); (case ku => first | exact unit_a (by assumption) (by decide) | exact unit_b (by assumption) (by decide) | exact unit_c (by assumption) (by decide) | omega | ktr_units | k_units)))); (case hH => first | assumption | (refine' HdrAt.mono ?hs9 ?hh9; (case hh9 => assumption); (case hs9 => (intro p hp; (repeat (first | exact hp | assumption | refine List.mem_cons_of_mem _ ?_)))))); (case hs => first | exact rfl | exact lit_one); (case hz => first | assumption | omega); (case hn => first | assumption | omega); (intro hZ tkZ newsZ FZ NZ hHZ hKZ; obtain ⟨_, _, _, _, _, _, _, _, hrZ⟩ := HdrAt.at_ hHZ; have hlenZ := Rows.len hrZ)))); k_steps) | ((with_reducible (refine Stop.into ?_; (with_reducible show wpAny _ _ (call (Value.ref _) _ _) _ _ _); k_dflt (first | (refine' ck_useK (keys_c ?hH ?hz) ?kk ?_; (case kk => (refine' CkAt.mk ?k1 ?k2 ?k3 ?k4 ?k5 ?kK ?kd ?ku; ((case k1 => k_asm); (case k2 => k_asm); (case k3 => k_asm); (case k4 => k_asm); (case k5 => k_asm); (case kK => first | exact rfl | assumption); (case kd => first | exact room_a (by assumption) (by decide) | omega | ktr_room | k_room); (case ku => first | exact unit_a (by assumption) (by decide) | exact unit_b (by assumption) (by decide) | exact unit_c (by assumption) (by decide) | omega | ktr_units | k_units)))); (case hH => first | assumption | (refine' HdrAt.mono ?hs9 ?hh9; (case hh9 => assumption); (case hs9 => (intro p hp; (repeat (first | exact hp | assumption | refine List.mem_cons_of_mem _ ?_)))))); (case hz => first | assumption | omega); intro _ _ _ _ _ _ _ _) | (refine' ck_useK (values_c ?hH ?hz) ?kk ?_; (case kk => (refine' CkAt.mk ?k1 ?k2 ?k3 ?k4 ?k5 ?kK ?kd ?ku; ((case k1 => k_asm); (case k2 => k_asm); (case k3 => k_asm); (case k4 => k_asm); (case k5 => k_asm); (case kK => first | exact rfl | assumption); (case kd => first | exact room_a (by assumption) (by decide) | omega | ktr_room | k_room); (case ku => first | exact unit_a (by assumption) (by decide) | exact unit_b (by assumption) (by decide) | exact unit_c (by assumption) (by decide) | omega | ktr_units | k_units)))); (case hH => first | assumption | (refine' HdrAt.mono ?hs9 ?hh9; (case hh9 => assumption); (case hs9 => (intro p hp; (repeat (first | exact hp | assumption | refine List.mem_cons_of_mem _ ?_)))))); (case hz => first | assumption | omega); intro _ _ _ _ _ _ _ _) | (refine' ck_useI (items_c ?hH ?hz) ?kk ?_; (case kk => (refine' CkAt.mk ?k1 ?k2 ?k3 ?k4 ?k5 ?kK ?kd ?ku; ((case k1 => k_asm); (case k2 => k_asm); (case k3 => k_asm); (case k4 => k_asm); (case k5 => k_asm); (case kK => first | exact rfl | assumption); (case kd => first | exact room_a (by assumption) (by decide) | omega | ktr_room | k_room); (case ku => first | exact unit_a (by assumption) (by decide) | exact unit_b (by assumption) (by decide) | exact unit_c (by assumption) (by decide) | omega | ktr_units | k_units)))); (case hH => first | assumption | (refine' HdrAt.mono ?hs9 ?hh9; (case hh9 => assumption); (case hs9 => (intro p hp; (repeat (first | exact hp | assumption | refine List.mem_cons_of_mem _ ?_)))))); (case hz => first | assumption | omega); intro _ _ _ _ _ _ _ _ _)))); k_steps) | ((with_reducible (refine Stop.into ?_; (with_reducible show wpAny _ _ (call (Value.ref _) _ _) _ _ _); k_dflt (first | (refine' ck_use0 (contains_c ?hH) ?kk ?_; (case kk => (refine' CkAt.mk ?k1 ?k2 ?k3 ?k4 ?k5 ?kK ?kd ?ku; ((case k1 => k_asm); (case k2 => k_asm); (case k3 => k_asm); (case k4 => k_asm); (case k5 => k_asm); (case kK => first | exact rfl | assumption); (case kd => first | exact room_a (by assumption) (by decide) | omega | ktr_room | k_room); (case ku => first | exact unit_a (by assumption) (by decide) | exact unit_b (by assumption) (by decide) | exact unit_c (by assumption) (by decide) | omega | ktr_units | k_units)))); (case hH => first | assumption | (refine' HdrAt.mono ?hs9 ?hh9; (case hh9 => assumption); (case hs9 => (intro p hp; (repeat (first | exact hp | assumption | refine List.mem_cons_of_mem _ ?_)))))); intro _ _ _ _) | (refine' ck_useT (getitem_c ?hH ?hn) ?kk ?_; (case kk => (refine' CkAt.mk ?k1 ?k2 ?k3 ?k4 ?k5 ?kK ?kd ?ku; ((case k1 => k_asm); (case k2 => k_asm); (case k3 => k_asm); (case k4 => k_asm); (case k5 => k_asm); (case kK => first | exact rfl | assumption); (case kd => first | exact room_a (by assumption) (by decide) | omega | ktr_room | k_room); (case ku => first | exact unit_a (by assumption) (by decide) | exact unit_b (by assumption) (by decide) | exact unit_c (by assumption) (by decide) | omega | ktr_units | k_units)))); (case hH => first | assumption | (refine' HdrAt.mono ?hs9 ?hh9; (case hh9 => assumption); (case hs9 => (intro p hp; (repeat (first | exact hp | assumption | refine List.mem_cons_of_mem _ ?_)))))); (case hn => assumption); intro _ _ _ _ _) | (refine' ck_useT (len_c ?hH ?hn) ?kk ?_; (case kk => (refine' CkAt.mk ?k1 ?k2 ?k3 ?k4 ?k5 ?kK ?kd ?ku; ((case k1 => k_asm); (case k2 => k_asm); (case k3 => k_asm); (case k4 => k_asm); (case k5 => k_asm); (case kK => first | exact rfl | assumption); (case kd => first | exact room_a (by assumption) (by decide) | omega | ktr_room | k_room); (case ku => first | exact unit_a (by assumption) (by decide) | exact unit_b (by assumption) (by decide) | exact unit_c (by assumption) (by decide) | omega | ktr_units | k_units)))); (case hH => first | assumption | (refine' HdrAt.mono ?hs9 ?hh9; (case hh9 => assumption); (case hs9 => (intro p hp; (repeat (first | exact hp | assumption | refine List.mem_cons_of_mem _ ?_)))))); (case hn => omega); intro _ _ _ _ _)))); k_steps) | ((with_reducible (refine Stop.into ?_; (with_reducible show W.LenBack _ _ _); refine lenBack_mk (by omega) (by omega) ?_)); k_steps) | ((with_reducible refine Stop.into ?_); (with_reducible show wpAny _ _ _ _ _ _); (fail_if_success (with_reducible show wpAny _ _ (pyIter _) _ _ _)); (fail_if_success (with_reducible show wpAny _ _ (exec (Stmt.Assign _ (Expr.ListComp _ _ _ _) _) _) _ _ _)); have hNS : NoStop := noStop; walk1; all_goals clear hNS; k_steps) | fail))
    · exact hret _ _ _ _ (by k_asm) (by k_asm) ⟨rfl, by unfold fullStep; rw [hg]; dsimp only; rw [if_pos (by omega)]; assumption, by first | assumption | (refine' keep_sub ?h9 ?s9; (case h9 => assumption); (case s9 => (intro p hp; (repeat (first | exact hp | assumption | refine List.mem_cons_of_mem _ ?_)))))⟩
    · rename Keys _ kvs => hky
      rename Vals _ kvs => hvl
      refine Stop.into (LCg.Assign_ListComp_U (F₀ := by k_asm) (by rfl) (by with_unfolding_all rfl) (by with_unfolding_all rfl) (by decide) (by rfl) (by decide) (by rfl) (by rfl) (by rfl) ?_)
      (k_steps; repeat' (first | ((with_reducible (refine Stop.into ?_; (with_reducible show wpAny _ _ (call (Value.builtin "len") [Value.ref _]) _ _ _); k_dflt (first | (refine' len_keys ?N ?hl ?hk ?hf ?_; (case N => k_asm); (case hl => k_mem); (case hk => assumption); (case hf => omega)) | (refine' len_vals ?N ?hl ?hk ?hf ?_; (case N => k_asm); (case hl => k_mem); (case hk => assumption); (case hf => omega))))); k_steps) | fail))
      refine Stop.into (LCg.CompSrc.range (n := kvs.length) (by rfl) (by k_asm) (by k_asm) (by assumption) (small_one (by omega) (by omega) (by omega) (by omega)) ((rangeSize_nat _ _).trans (by omega)) (by rw [sizeLine_eq]; omega) fun g => ?_)
      refine compU_ind (n := kvs.length) (J := RanksJ kvs news 6 _) ?turn ?fin _ _ _ _ (Nat.zero_add _) (RanksJ.nil rfl)
      case turn =>
        rintro i v ys n' I oI C oC D m₂ h tk E' hi ⟨t9, rfl⟩ ⟨e, rfl, hse, hap, hJ⟩ hC hx' F N off ne
        simp only [List.take_succ_cons, List.take_zero, List.cons_append, List.nil_append] at N off
        have hb := rowAt_le hp (0 + (i : Int))
        (k_steps; repeat' (first | ((with_reducible (refine Stop.into ?_; (with_reducible show wpAny _ _ (subscriptTail (Expr.Name _ _) (Expr.Name _ _) (Value.ref _) (Value.int _ _)) _ _ _); k_dflt (first | (refine' item_keys ?N ?hm ?hk ?h0 ?h1 ?h2 ?_; (case N => k_asm); (case hm => k_mem); (case hk => assumption); (case h0 => omega); (case h1 => omega); (case h2 => omega); intro _) | (refine' item_vals ?N ?hm ?hk ?h0 ?h1 ?h2 ?_; (case N => k_asm); (case hm => k_mem); (case hk => assumption); (case h0 => omega); (case h1 => omega); (case h2 => omega); intro _) | (refine' item_ranks ?N ?hm ?hk ?h0 ?h1 ?h2 ?_; (case N => k_asm); (case hm => k_mem); (case hk => first | assumption | (refine' Ranks.mono ?s9 ?h9; (case h9 => assumption); (case s9 => (intro p hp; (repeat (first | exact hp | assumption | refine List.mem_cons_of_mem _ ?_)))))); (case h0 => omega); (case h1 => omega); (case h2 => omega); intro _ _ _ _)))); k_steps) | ((with_reducible (refine Stop.into ?_; (with_reducible show wpAny _ _ (call (Value.builtin "len") [Value.str _ _]) _ _ _); (refine P.len_str (by first | (rw [len_pad]; omega) | omega) ?_))); k_steps) | ((with_reducible (refine Stop.into ?_; (with_reducible show wpAny _ _ (call (Value.builtin "list.index") _ _) _ _ _); k_dflt (refine' index_words ?N ?hm ?_; (case N => k_asm); (case hm => k_mem)))); k_steps) | ((with_reducible (refine Stop.into ?_; (with_reducible show wpAny _ _ (call (Value.builtin "str.lower") _ _) _ _ _); refine KXw.lower (lower_fs _ _) (tl_lower _ _) ?_; intro _ _)); k_steps) | ((with_reducible refine Stop.into ?_); (with_reducible show wpAny _ _ _ _ _ _); (fail_if_success (with_reducible show wpAny _ _ (pyIter _) _ _ _)); (fail_if_success (with_reducible show wpAny _ _ (exec (Stmt.Assign _ (Expr.ListComp _ _ _ _) _) _) _ _ _)); have hNS : NoStop := noStop; walk1; all_goals clear hNS; k_steps) | fail))
        rename _ ∧ _ ∧ _ ∧ _ ∧ _ ∧ _ ∧ _ ∧ _ ∧ _ ∧ _ ∧ AllLt _ e => l9
        exact ranks_turn (e := e) (by k_asm) (by k_asm) l9 off rfl hse hap hJ hi rfl
      case fin =>
        rintro ys n' ⟨e, rfl, hse, hap, hJ⟩
        intro D h tk F N o1
        simp only [List.take_succ_cons, List.take_zero, List.cons_append, List.nil_append] at N o1
        rw [List.take_length] at hJ
        have o2 := off1_mem o1
        (k_steps; repeat' (first | ((with_reducible (refine Stop.into ?_; (with_reducible show wpAny _ _ (call (Value.builtin "len") [Value.ref _]) _ _ _); k_dflt (first | (refine' len_keys ?N ?hl ?hk ?hf ?_; (case N => k_asm); (case hl => k_mem); (case hk => assumption); (case hf => omega)) | (refine' len_vals ?N ?hl ?hk ?hf ?_; (case N => k_asm); (case hl => k_mem); (case hk => assumption); (case hf => omega))))); k_steps) | fail))
        have hk0 : 0 < kvs.length := by omega
        refine Stop.into (iter_rangeT (n := kvs.length) rfl (by k_asm) (by k_asm) (by assumption) (small_one (by omega) (by omega) (by omega) (by omega)) ((rangeSize_nat _ _).trans (by omega)) fun I hI => ?_)
        refine range_ind (I := I) [Str.ofString "j", Str.ofString "told"] (LowJ kvs _ 4 _) ?turn ?done kvs.length 0 _ _ (Nat.zero_add _) (fun _ _ => rfl) (LowJ.nil rfl (by assumption))
        case turn =>
          rintro j n' u' h' tk' o tt hj ⟨oc, tc, rfl, hoc⟩ hc' F' N'
          simp only [List.take_succ_cons, List.take_zero, List.cons_append, List.nil_append, List.drop_succ_cons, List.drop_zero] at N'
          have hjb := rowAt_le hp (0 + (j : Int))
          have hlb := rowAt_le hp (lowOf kvs j : Int)
          have hll := lowOf_lt hk0 j (by omega)
          have hI2 := all_ne0 hI
          (k_steps; repeat' (first | ((with_reducible (refine Stop.into ?_; (with_reducible show wpAny _ _ (subscriptTail (Expr.Name _ _) (Expr.Name _ _) (Value.ref _) (Value.int _ _)) _ _ _); k_dflt (first | (refine' item_keys ?N ?hm ?hk ?h0 ?h1 ?h2 ?_; (case N => k_asm); (case hm => k_mem); (case hk => assumption); (case h0 => omega); (case h1 => omega); (case h2 => omega); intro _) | (refine' item_vals ?N ?hm ?hk ?h0 ?h1 ?h2 ?_; (case N => k_asm); (case hm => k_mem); (case hk => assumption); (case h0 => omega); (case h1 => omega); (case h2 => omega); intro _) | (refine' item_ranks ?N ?hm ?hk ?h0 ?h1 ?h2 ?_; (case N => k_asm); (case hm => k_mem); (case hk => first | assumption | (refine' Ranks.mono ?s9 ?h9; (case h9 => assumption); (case s9 => (intro p hp; (repeat (first | exact hp | assumption | refine List.mem_cons_of_mem _ ?_)))))); (case h0 => omega); (case h1 => omega); (case h2 => omega); intro _ _ _ _)))); k_steps) | ((with_reducible (refine Stop.into ?_; (with_reducible show wpAny _ _ (binaryOp Operator.Add (Value.str _ _) (Value.str _ _)) _ _ _); refine add_line (by first | assumption | omega) ?_; intro _ _)); k_steps) | ((with_reducible (refine Stop.into ?_; (with_reducible show wpAny _ _ (compareOp CmpOp.Gt (Value.ref _) (Value.ref _)) _ _ _); k_dflt (refine' gt_tup ?N ?hp ?hq ?hu ?_; (case N => k_asm); (case hp => k_mem); (case hq => k_mem); (case hu => first | exact unit_a (by assumption) (by decide) | exact unit_b (by assumption) (by decide) | exact unit_c (by assumption) (by decide) | omega | ktr_units | k_units)))); k_steps) | ((with_reducible (refine Stop.into ?_; (with_reducible show wpAny _ _ (compareOp CmpOp.Lt (Value.ref _) (Value.ref _)) _ _ _); k_dflt (refine' lt_tup ?N ?hp ?hq ?hu ?_; (case N => k_asm); (case hp => k_mem); (case hq => k_mem); (case hu => first | exact unit_a (by assumption) (by decide) | exact unit_b (by assumption) (by decide) | exact unit_c (by assumption) (by decide) | omega | ktr_units | k_units)))); k_steps) | ((with_reducible (refine Stop.into ?_; (with_reducible show wpAny _ _ (call (Value.builtin "str.lower") _ _) _ _ _); refine KXw.lower (lower_fs _ _) (tl_lower _ _) ?_; intro _ _)); k_steps) | ((with_reducible (refine Stop.into ?_; (with_reducible show wpAny _ _ (call (Value.ref _) _ _) _ _ _); k_dflt (refine' ck_useT strcoll_line ?kk ?_; (case kk => (refine' CkAt.mk ?k1 ?k2 ?k3 ?k4 ?k5 ?kK ?kd ?ku; ((case k1 => k_asm); (case k2 => k_asm); (case k3 => k_asm); (case k4 => k_asm); (case k5 => k_asm); (case kK => first | exact rfl | assumption); (case kd => first | exact room_a (by assumption) (by decide) | omega | ktr_room | k_room); (case ku => first | exact unit_a (by assumption) (by decide) | exact unit_b (by assumption) (by decide) | exact unit_c (by assumption) (by decide) | omega | ktr_units | k_units)))); intro _ _ _ _ _))); k_steps) | ((with_reducible refine Stop.into ?_); (with_reducible show wpAny _ _ _ _ _ _); (fail_if_success (with_reducible show wpAny _ _ (pyIter _) _ _ _)); (fail_if_success (with_reducible show wpAny _ _ (exec (Stmt.Assign _ (Expr.ListComp _ _ _ _) _) _) _ _ _)); have hNS : NoStop := noStop; walk1; all_goals clear hNS; k_steps) | fail))
          all_goals try (rename ¬ cmpI _ _ _ _ = b2i _ - b2i _ => hbad; exact absurd rfl hbad)
          · rename cmpI _ _ _ _ = -1 => hq
            refine Stop.into ?_; refine turn_end (by k_asm) (by k_asm) (List.mem_cons_self ..) (fun p hp => List.mem_cons_of_mem _ hp) (low_lt (n := 4) hI rfl) ⟨trivial, ?_, ⟨_, _, rfl, low_step hq (by assumption)⟩⟩
            (intro z hz; (try dsimp only); (repeat' (first | exact ovr_off hz | refine (off_if hz (by simp)).trans ?_)))
          · rename ¬ cmpI _ _ _ _ = -1 => hq
            refine Stop.into ?_; refine turn_end (by k_asm) (by k_asm) (List.mem_cons_self ..) (fun p hp => List.mem_cons_of_mem _ hp) (low_lt (n := 4) hI rfl) ⟨trivial, ?_, ⟨_, _, rfl, low_stay hq hoc⟩⟩
            (intro z hz; (try dsimp only); (repeat' (first | exact ovr_off hz | refine (off_if hz (by simp)).trans ?_)))
        case done =>
          rintro n' u' h' tk' ⟨oc, tc, rfl, hoc⟩ F' N'
          simp only [List.take_succ_cons, List.take_zero, List.cons_append, List.nil_append, List.drop_succ_cons, List.drop_zero] at N'
          k_steps
          refine Stop.into (LCt.Assign_ListComp_T (F₀ := by k_asm) (by rfl) (by with_unfolding_all rfl) (by with_unfolding_all rfl) (by decide) (by rfl) (by decide) (by rfl) (by rfl) (by rfl) ?_)
          (k_steps; repeat' (first | ((with_reducible (refine Stop.into ?_; (with_reducible show wpAny _ _ (call (Value.builtin "len") [Value.ref _]) _ _ _); k_dflt (first | (refine' len_keys ?N ?hl ?hk ?hf ?_; (case N => k_asm); (case hl => k_mem); (case hk => assumption); (case hf => omega)) | (refine' len_vals ?N ?hl ?hk ?hf ?_; (case N => k_asm); (case hl => k_mem); (case hk => assumption); (case hf => omega))))); k_steps) | fail))
          refine Stop.into (LCt.CompSrcT.range (n := kvs.length) (by rfl) (by k_asm) (by k_asm) (by assumption) (small_one (by omega) (by omega) (by omega) (by omega)) ((rangeSize_nat _ _).trans (by omega)) (by rw [sizeLine_eq]; omega) fun g => ?_)
          have hll := lowOf_lt hk0 kvs.length (Nat.le_refl _)
          have hlb := rowAt_le hp (lowOf kvs kvs.length : Int)
          refine compT_ind (n := kvs.length) (J := OutJ kvs _) ?turn ?fin _ _ _ _ (Nat.zero_add _) OutJ.nil
          case turn =>
            rintro i v ys2 n' I2 oI2 C2 oC2 D2 m₂ h2 tk2 E' hi ⟨t9, rfl⟩ ⟨rfl, hJ2⟩ hC hx' F N off ne
            have hib := rowAt_le hp (0 + (i : Int))
            (k_steps; repeat' (first | ((with_reducible (refine Stop.into ?_; (with_reducible show wpAny _ _ (subscriptTail (Expr.Name _ _) (Expr.Name _ _) (Value.ref _) (Value.int _ _)) _ _ _); k_dflt (first | (refine' item_keys ?N ?hm ?hk ?h0 ?h1 ?h2 ?_; (case N => k_asm); (case hm => k_mem); (case hk => assumption); (case h0 => omega); (case h1 => omega); (case h2 => omega); intro _) | (refine' item_vals ?N ?hm ?hk ?h0 ?h1 ?h2 ?_; (case N => k_asm); (case hm => k_mem); (case hk => assumption); (case h0 => omega); (case h1 => omega); (case h2 => omega); intro _) | (refine' item_ranks ?N ?hm ?hk ?h0 ?h1 ?h2 ?_; (case N => k_asm); (case hm => k_mem); (case hk => first | assumption | (refine' Ranks.mono ?s9 ?h9; (case h9 => assumption); (case s9 => (intro p hp; (repeat (first | exact hp | assumption | refine List.mem_cons_of_mem _ ?_)))))); (case h0 => omega); (case h1 => omega); (case h2 => omega); intro _ _ _ _)))); k_steps) | ((with_reducible (refine Stop.into ?_; (with_reducible show wpAny _ _ (call (Value.builtin "len") [Value.str _ _]) _ _ _); (refine P.len_str (by first | (rw [len_pad]; omega) | omega) ?_))); k_steps) | fail))
            · rename (_ : Int) = _ => hq
              exact LCg.CompEnd.intro (by k_asm) (by k_asm) _ (fun p hp => hp) off trivial (OutJ.step ⟨rfl, hJ2⟩ hi (pad_len_eq.mp hq))
            · rename ¬ (_ : Int) = _ => hq
              exact LCg.CompEnd.intro (by k_asm) (by k_asm) _ (fun p hp => hp) off trivial (OutJ.skip ⟨rfl, hJ2⟩ hi fun z => hq (pad_len_eq.mpr z))
          case fin =>
            rintro ys2 n' ⟨rfl, hJ2⟩
            intro D2 h2 tk2 F N o3
            rw [List.take_length] at hJ2
            have hJ3 : Keys ys2 (outOf kvs) := hJ2
            have ho2 := outOf_pos hk0
            have ho3 : (outOf kvs).length ≤ kvs.length := List.length_filter_le _ _
            obtain ⟨hm0, hm1⟩ := fmod_pos (a := pick) ho2
            have hHe := hH.mono hse
            obtain ⟨dx3, th3, n3, k3, items3, hx3, hd3, hl3, hr3⟩ := hHe.at_
            have o4 := off1_mem o3
            have hln : (rowAt kvs (lowOf kvs kvs.length : Int)).2.2 ≤ 900 := hlb
            have hdl := delK_len (m := 50) (by omega : kvs.length ≤ 50) (rowAt (outOf kvs) (pick.fmod (outOf kvs).length)).1
            (k_steps; repeat' (first | ((with_reducible (refine Stop.into ?_; (with_reducible show wpAny _ _ (subscriptTail (Expr.Name _ _) (Expr.BinOp _ _ _ _) (Value.ref _) (Value.int _ _)) _ _ _); k_dflt (first | (refine' item_keys ?N ?hm ?hk ?h0 ?h1 ?h2 ?_; (case N => k_asm); (case hm => k_mem); (case hk => assumption); (case h0 => omega); (case h1 => omega); (case h2 => omega); intro _) | (refine' item_vals ?N ?hm ?hk ?h0 ?h1 ?h2 ?_; (case N => k_asm); (case hm => k_mem); (case hk => assumption); (case h0 => omega); (case h1 => omega); (case h2 => omega); intro _) | (refine' item_ranks ?N ?hm ?hk ?h0 ?h1 ?h2 ?_; (case N => k_asm); (case hm => k_mem); (case hk => first | assumption | (refine' Ranks.mono ?s9 ?h9; (case h9 => assumption); (case s9 => (intro p hp; (repeat (first | exact hp | assumption | refine List.mem_cons_of_mem _ ?_)))))); (case h0 => omega); (case h1 => omega); (case h2 => omega); intro _ _ _ _)))); k_steps) | ((with_reducible (refine Stop.into ?_; (with_reducible show wpAny _ _ (subscriptTail (Expr.Name _ _) (Expr.Name _ _) (Value.ref _) (Value.int _ _)) _ _ _); k_dflt (first | (refine' item_keys ?N ?hm ?hk ?h0 ?h1 ?h2 ?_; (case N => k_asm); (case hm => k_mem); (case hk => assumption); (case h0 => omega); (case h1 => omega); (case h2 => omega); intro _) | (refine' item_vals ?N ?hm ?hk ?h0 ?h1 ?h2 ?_; (case N => k_asm); (case hm => k_mem); (case hk => assumption); (case h0 => omega); (case h1 => omega); (case h2 => omega); intro _) | (refine' item_ranks ?N ?hm ?hk ?h0 ?h1 ?h2 ?_; (case N => k_asm); (case hm => k_mem); (case hk => first | assumption | (refine' Ranks.mono ?s9 ?h9; (case h9 => assumption); (case s9 => (intro p hp; (repeat (first | exact hp | assumption | refine List.mem_cons_of_mem _ ?_)))))); (case h0 => omega); (case h1 => omega); (case h2 => omega); intro _ _ _ _)))); k_steps) | ((with_reducible (refine Stop.into ?_; (with_reducible show wpAny _ _ (binaryOp Operator.Add (Value.str _ _) (Value.str _ _)) _ _ _); refine add_pad (by first | assumption | omega) ?_; intro _ _)); k_steps) | ((with_reducible (refine Stop.into ?_; (with_reducible show wpAny _ _ (call (Value.builtin "len") [Value.ref _]) _ _ _); k_dflt (first | (refine' len_keys ?N ?hl ?hk ?hf ?_; (case N => k_asm); (case hl => k_mem); (case hk => assumption); (case hf => omega)) | (refine' len_vals ?N ?hl ?hk ?hf ?_; (case N => k_asm); (case hl => k_mem); (case hk => assumption); (case hf => omega))))); k_steps) | ((with_reducible (refine Stop.into ?_; (with_reducible show wpAny _ _ (call (Value.builtin "str.swapcase") _ _) _ _ _); refine KXw.swapcase (swap_fs _ _) (tl_swap _ _) ?_; intro _ _)); k_steps) | ((with_reducible (refine Stop.into ?_; (with_reducible show wpAny _ _ (call (Value.ref _) _ _) _ _ _); k_dflt (refine' ck_useH (setitem_w ?hH ?hz ?hn ?hs) ?kk ?_; (case kk => (refine' CkAt.mk ?k1 ?k2 ?k3 ?k4 ?k5 ?kK ?kd ?ku; ((case k1 => k_asm); (case k2 => k_asm); (case k3 => k_asm); (case k4 => k_asm); (case k5 => k_asm); (case kK => first | exact rfl | assumption); (case kd => first | exact room_a (by assumption) (by decide) | omega | ktr_room | k_room); (case ku => first | exact unit_a (by assumption) (by decide) | exact unit_b (by assumption) (by decide) | exact unit_c (by assumption) (by decide) | omega | ktr_units | k_units)))); (case hH => first | assumption | (refine' HdrAt.mono ?hs9 ?hh9; (case hh9 => assumption); (case hs9 => (intro p hp; (repeat (first | exact hp | assumption | refine List.mem_cons_of_mem _ ?_)))))); (case hs => first | exact rfl | exact lit_one); (case hz => first | assumption | omega); (case hn => first | assumption | omega); (intro hZ tkZ newsZ FZ NZ hHZ hKZ; obtain ⟨_, _, _, _, _, _, _, _, hrZ⟩ := HdrAt.at_ hHZ; have hlenZ := Rows.len hrZ)))); k_steps) | ((with_reducible (refine Stop.into ?_; (with_reducible show wpAny _ _ (call (Value.ref _) _ _) _ _ _); k_dflt (refine' ck_useH (delitem_c ?hH ?hn) ?kk ?_; (case kk => (refine' CkAt.mk ?k1 ?k2 ?k3 ?k4 ?k5 ?kK ?kd ?ku; ((case k1 => k_asm); (case k2 => k_asm); (case k3 => k_asm); (case k4 => k_asm); (case k5 => k_asm); (case kK => first | exact rfl | assumption); (case kd => first | exact room_a (by assumption) (by decide) | omega | ktr_room | k_room); (case ku => first | exact unit_a (by assumption) (by decide) | exact unit_b (by assumption) (by decide) | exact unit_c (by assumption) (by decide) | omega | ktr_units | k_units)))); (case hH => first | assumption | (refine' HdrAt.mono ?hs9 ?hh9; (case hh9 => assumption); (case hs9 => (intro p hp; (repeat (first | exact hp | assumption | refine List.mem_cons_of_mem _ ?_)))))); (case hn => omega); (intro hZ tkZ newsZ FZ NZ hHZ hKZ; obtain ⟨_, _, _, _, _, _, _, _, hrZ⟩ := HdrAt.at_ hHZ; have hlenZ := Rows.len hrZ)))); k_steps) | ((with_reducible (refine Stop.into ?_; (with_reducible show wpAny _ _ (delItem (Value.ref _) _) _ _ _); k_dflt (refine' own_delItem ?k1 ?k2 ?k3 ?k4 ?k5 ?k6 ?_; (case k1 => k_asm); (case k2 => k_asm); (case k3 => k_inst); (case k4 => k_is); (case k5 => k_is); (case k6 => k_is); k_whole))); k_steps) | ((with_reducible refine Stop.into ?_); (with_reducible show wpAny _ _ _ _ _ _); (fail_if_success (with_reducible show wpAny _ _ (pyIter _) _ _ _)); (fail_if_success (with_reducible show wpAny _ _ (exec (Stmt.Assign _ (Expr.ListComp _ _ _ _) _) _) _ _ _)); have hNS : NoStop := noStop; walk1; all_goals clear hNS; k_steps) | fail))
            refine hret _ _ _ _ (by k_asm) (by k_asm) ⟨rfl, by unfold fullStep; rw [hg]; dsimp only; rw [if_neg (by omega)]; assumption, ?_⟩
            refine' keep2 ?h2 ?h1 ?hs
            case h2 => assumption
            case h1 => assumption
            case hs =>
              intro p hp
              have hp' := hse p hp
              revert hp'
              clear hp
              intro hp
              revert p
              (intro p hp; (repeat (first | exact hp | assumption | refine List.mem_cons_of_mem _ ?_)))
end
end
section
section
open LCg
variable {prog : Program} {w : World} {A : Around} {E : Value → Shared → Prop} {s : Shared} {h₀ : Heap} {L : Addr} {m : Str → Option Value} {env : Env}
/-- a comprehension over a list of pairs with a test: what its turns and its end ask -/
structure PTat (prog : Program) (w : World) (A : Around) (h₀ : Heap) (L : Addr) (m : Str → Option Value) (env : Env) (ct elt : Expr) (x x₂ : Str) (scope : Scope) (cl : List (Str × Addr)) (s : Shared) (ax : Addr) (its : Array Value) (k : Nat)
    (J : Nat → List Value → List (Addr × Obj) → Prop) (Fin : List Value → List (Addr × Obj) → Prop) : Prop where
  src : ∀ i ys n, J i ys n → (ax, listOf its k) ∈ n
  turn : ∀ i v ys n, i < its.size → its[i]? = some v → J i ys n → PStep v n fun v₁ v₂ =>
    ∀ I oI C oC D m₂ h tk (E' : Value → Shared → Prop), NsObj oC m₂ → m₂ x = some v₁ → m₂ x₂ = some v₂ → Fr h₀ L h m → News h₀ L h ((I, oI) :: (C, oC) :: (D, lst ys) :: n) → Off3 I C D n → ((@Ne Nat I C) ∧ (@Ne Nat I D) ∧ (@Ne Nat C D)) →
      wpAny (model prog w) A (isTrue ct (compEnvC scope cl C env) (eval ct (compEnvC scope cl C env))) (fun ok s' => if ok = true then
        wpAny (model prog w) A (eval elt (compEnvC scope cl C env)) (CompEnd h₀ L m { s with heap := h, toks := tk } I oI C oC D (lst ys) (fun _ => True) (fun y n' => J (i + 1) (ys ++ [y]) n')) E' s'
        else CompEnd h₀ L m { s with heap := h, toks := tk } I oI C oC D (lst ys) (fun _ => True) (fun _ n' => J (i + 1) ys n') Value.none s') E' { s with heap := h, toks := tk }
  fin : ∀ ys n, J its.size ys n → Fin ys n
def SrcPT (prog : Program) (w : World) (A : Around) (h₀ : Heap) (L : Addr) (m : Str → Option Value) (env : Env) (ct elt : Expr) (x x₂ : Str) (scope : Scope) (cl : List (Str × Addr)) (Fin : Shared → List Value → List (Addr × Obj) → Prop) (xv : Value) (s₁ : Shared) : Prop :=
  ∃ ax its k news J, xv = .ref ax ∧ A.handled = none ∧ Fr h₀ L s₁.heap m ∧ News h₀ L s₁.heap news ∧ its.size ≤ sizeLine ∧ J 0 [] news ∧ ∀ g, PTat prog w A h₀ L m env ct elt x x₂ scope cl { s₁ with heap := g } ax its k J (Fin { s₁ with heap := g })
theorem SrcPT.ledger {ct elt : Expr} {x x₂ : Str} {scope : Scope} {cl : List (Str × Addr)} {Fin : Shared → List Value → List (Addr × Obj) → Prop} {ax : Addr} {its : Array Value} {k : Nat} {news : List (Addr × Obj)} {s₁ : Shared} (J : Nat → List Value → List (Addr × Obj) → Prop)
    (hh : A.handled = none) (F : Fr h₀ L s₁.heap m) (N : News h₀ L s₁.heap news) (hsz : its.size ≤ sizeLine) (hJ : J 0 [] news) (h : ∀ g, PTat prog w A h₀ L m env ct elt x x₂ scope cl { s₁ with heap := g } ax its k J (Fin { s₁ with heap := g })) :
    SrcPT prog w A h₀ L m env ct elt x x₂ scope cl Fin (.ref ax) s₁ := ⟨ax, its, k, news, J, rfl, hh, F, N, hsz, hJ, h⟩
/-- what a comprehension's loop bears from turn to turn -/
inductive PTInv (h₀ : Heap) (L : Addr) (m : Str → Option Value) (s₂ : Shared) (ax I C D : Addr) (its : Array Value) (J : Nat → List Value → List (Addr × Obj) → Prop) (q : Nat) (s' : Shared) : Prop
  | mk (h' : Heap) (tk i : Nat) (ys : List Value) (m' : Str → Option Value) (n : List (Addr × Obj)) (hs : s' = { s₂ with heap := h', toks := tk }) (hi : i ≤ its.size) (hq : q = its.size + 1 - i) (hy : ys.length ≤ i) (hit : h'.IsListIter I ax i) (F : Fr h₀ L h' m) (hn : h'.Ns C m')
    (N : News h₀ L h' ((D, lst ys) :: n)) (off : Off3 I C D n) (hJ : J i ys n) : PTInv h₀ L m s₂ ax I C D its J q s'
theorem pt_loop {ct elt iter : Expr} {x x₂ : Str} {px px₂ tp : Pos} {tq} {scope : Scope} {cl : List (Str × Addr)} {pos : Pos} {s₂ : Shared} {ax I C D : Addr} {its : Array Value} {k : Nat} {J : Nat → List Value → List (Addr × Obj) → Prop} {Fin : List Value → List (Addr × Obj) → Prop}
    {R : Result → Shared → Prop} (T : PTat prog w A h₀ L m env ct elt x x₂ scope cl s₂ ax its k J Fin) (hsz : its.size ≤ sizeLine) (hkind : scope.kind = .function) (hx : scope.names.lookup x = some .local) (hx₂ : scope.names.lookup x₂ = some .local) (hxx : x ≠ x₂) (hh : A.handled = none)
    (hIL : L ≠ I) (hI₀ : h₀.get? I = none) (hCL : C ≠ L) (hC₀ : h₀.get? C = none) (hDL : D ≠ L) (hD₀ : h₀.get? D = none) (hIC : I ≠ C) (hID : I ≠ D) (hCD : C ≠ D) (hxI : ax ≠ I)
    (hR : ∀ h tk m' ys n, Fr h₀ L h m → News h₀ L h ((D, lst ys) :: n) → Off1 D n → h.Ns C m' → (∀ p ∈ n, p.1 ≠ C) → J its.size ys n → R (.ok .next) { s₂ with heap := h, toks := tk })
    {h' : Heap} {tk : Nat} {m' : Str → Option Value} {news : List (Addr × Obj)} (hit : h'.IsListIter I ax 0) (F : Fr h₀ L h' m) (hn : h'.Ns C m') (N : News h₀ L h' ((D, lst []) :: news)) (off : Off3 I C D news) (hJ : J 0 [] news) :
    codeAny (model prog w) A (.compLoop (.ListComp elt [⟨.Tuple [.Name x px, .Name x₂ px₂] tq tp, iter, [ct], 0⟩] scope pos) 0 (.ref I) (.ref D) (compEnvC scope cl C env)) R { s₂ with heap := h', toks := tk } := by
  have W := Walks.list (prog := prog) (w := w) hh I ax hxI its
  refine kct_loop (PTInv h₀ L m s₂ ax I C D its J) ?_ (its.size + 1)
    ⟨h', tk, 0, [], m', news, rfl, Nat.zero_le _, rfl, Nat.le_refl _, hit, F, hn, N, off, hJ⟩
  rintro q s' ⟨h', tk, i, ys, m', n, rfl, hi, rfl, hyl, hit, F, hn, N, off, hJ⟩
  have off3 := off.mem
  have hax : ∀ {g n}, News h₀ L g ((D, lst ys) :: n) → (ax, listOf its k) ∈ n → g.IsList ax its := fun N hm => ⟨_, (N _ (List.mem_cons_of_mem _ hm)).1, rfl, k, rfl⟩
  have keepI : ∀ {g : Heap}, (∀ b o, b ∉ [I] → h'.get? b = some o → g.get? b = some o) → Fr h₀ L g m ∧ News h₀ L g ((D, lst ys) :: n) ∧ g.Ns C m' := fun {g} hk => by
    refine ⟨fr_but F hk hIL hI₀, news_but N hk fun p hp => ?_, hn.at' fun o e => hk _ o (by simpa using Ne.symm hIC) e⟩
    rcases List.mem_cons.mp hp with rfl | hp
    · exact Ne.symm hID
    · exact (off3 p hp).1
  by_cases hlt : i < its.size
  · refine W.item i _ _ _ hlt ⟨hit, hax N (T.src _ _ _ hJ)⟩ fun v h₂ tk₂ hv hst hk₂ => ?_
    obtain ⟨F₂, N₂, hn₂⟩ := keepI hk₂
    obtain ⟨t, ot, v₁, v₂, nt, rfl, hmt, hct, hdt, K⟩ := T.turn i v ys n hlt hv hJ
    have ht : IsTup h₂ t #[v₁, v₂] := ⟨ot, (N₂ _ (List.mem_cons_of_mem _ hmt)).1, hct, nt, hdt⟩
    refine wpAny_letOwnedTupleGo_listiter hst.1 (assign_Tuple_tuple hh ht rfl rfl fun h₃ he => ?_)
    have he' : ∀ b o, h₂.get? b = some o → h₃.get? b = some o := fun b o e => he b o (Nat.ne_of_lt (Heap.lt_size e)) e
    refine assignInOrder_cons (wpAny_assign_Name (wpAny_storeName_local (lookup_relabel_local hx) (hn₂.at' fun o e => he' _ o e) (fun h₄ hn₄ hs₄ => ?_) (by simp [compEnvC, relabel, hkind])))
    refine assignInOrder_cons (wpAny_assign_Name (wpAny_storeName_local (lookup_relabel_local hx₂) hn₄ (fun h₅ hn₅ hs₅ => ?_) (by simp [compEnvC, relabel, hkind])))
    refine assignInOrder_nil ?_
    have up : ∀ b o, b ≠ C → h₂.get? b = some o → h₅.get? b = some o := fun b o hb e => hs₅.extBut b o hb (hs₄.extBut b o hb (he' b o e))
    have F₅ : Fr h₀ L h₅ m := ((F₂.keeps he').change hs₄ hCL hC₀).change hs₅ hCL hC₀
    obtain ⟨oI, heI, rI⟩ := hst.1
    obtain ⟨oC, heC, hoC⟩ := ns_obj hn₅
    have N₅ : News h₀ L h₅ ((I, oI) :: (C, oC) :: (D, lst ys) :: n) := fun p hp => by
      rcases List.mem_cons.mp hp with rfl | hp
      · exact ⟨up _ _ hIC heI, Ne.symm hIL, hI₀⟩
      · rcases List.mem_cons.mp hp with rfl | hp
        · exact ⟨heC, hCL, hC₀⟩
        · refine ⟨up _ _ ?_ (N₂ p hp).1, (N₂ p hp).2⟩
          rcases List.mem_cons.mp hp with rfl | hp
          · exact Ne.symm hCD
          · exact (off3 p hp).2.1
    have after : ∀ {g : Heap} {n'}, News h₀ L g ((I, oI) :: (C, oC) :: (D, lst ys) :: n') → g.IsListIter I ax (i + 1) ∧ g.Ns C _ ∧ News h₀ L g ((D, lst ys) :: n') := fun N' =>
      ⟨⟨oI, (N' _ (List.mem_cons_self ..)).1, rI⟩, hoC.ns (N' (C, oC) (List.mem_cons_of_mem _ (List.mem_cons_self ..))).1, fun p hp => N' p (List.mem_cons_of_mem _ (List.mem_cons_of_mem _ hp))⟩
    refine wpAny_mono (K I oI C oC D _ h₅ _ _ hoC (by simp [hxx]) (by simp) F₅ N₅ off ⟨hIC, hID, hCD⟩) (fun ok s₄ h₄ => ?_) fun _ _ e => e
    cases ok with
    | true =>
      simp only [if_true] at h₄ ⊢
      refine wpAny_mono h₄ (fun y s₅ h₅' => ?_) fun _ _ e => e
      obtain ⟨g, tg, n', rfl, Fg, Ng, offg, _, hJg⟩ := h₅'
      obtain ⟨a1, a2, a3⟩ := after Ng
      have offg3 := offg.mem
      refine append_at (hsz := by show ys.toArray.size ≤ sizeLine; rw [List.size_toArray]; omega) (a3 _ (List.mem_cons_self ..)).1 fun g₂ hs₂ hD₂ => ?_
      refine ⟨its.size + 1 - (i + 1), by omega, g₂, tg, i + 1, ys ++ [y], _, n', rfl, hlt, rfl, by rw [List.length_append, List.length_singleton]; omega, ?_, Fg.change hs₂ hDL hD₀, a2.sameBut hs₂ hCD, fun p hp => ?_, offg, hJg⟩
      · obtain ⟨o, e, r⟩ := a1
        exact ⟨o, hs₂.extBut _ _ hID e, r⟩
      · rcases List.mem_cons.mp hp with rfl | hp
        · exact ⟨hD₂.trans (congrArg some (lst_snoc ys y)), hDL, hD₀⟩
        · exact ⟨hs₂.extBut _ _ (offg3 p hp).2.2 (a3 p (List.mem_cons_of_mem _ hp)).1, (a3 p (List.mem_cons_of_mem _ hp)).2⟩
    | false =>
      simp only [Bool.false_eq_true, if_false] at h₄ ⊢
      obtain ⟨g, tg, n', rfl, Fg, Ng, offg, _, hJg⟩ := h₄
      obtain ⟨a1, a2, a3⟩ := after Ng
      exact ⟨its.size + 1 - (i + 1), by omega, g, tg, i + 1, ys, _, n', rfl, hlt, rfl, by omega, a1, Fg, a2, a3, offg, hJg⟩
  · obtain rfl : i = its.size := by omega
    refine W.done _ _ _ ⟨hit, hax N (T.src _ _ _ hJ)⟩ fun h₂ tk₂ hk₂ => ?_
    obtain ⟨F₂, N₂, hn₂⟩ := keepI hk₂
    exact hR _ _ _ ys n F₂ N₂ off.one hn₂ (fun p hp => (off3 p hp).2.1) hJ
theorem pt_block {ct elt iter : Expr} {x x₂ : Str} {px px₂ tp : Pos} {tq} {scope : Scope} {cl : List (Str × Addr)} {pos : Pos} {s₁ : Shared} {ax : Addr} {its : Array Value} {k : Nat} {news : List (Addr × Obj)} {J : Nat → List Value → List (Addr × Obj) → Prop} {Fin : Shared → List Value → List (Addr × Obj) → Prop}
    {RR : Value → Addr → Result → Shared → Prop} (hcell : ∀ y ∈ scope.names, y.2 ≠ .cell) (hkind : scope.kind = .function) (hx : scope.names.lookup x = some .local) (hx₂ : scope.names.lookup x₂ = some .local) (hxx : x ≠ x₂) (hh : A.handled = none)
    (F : Fr h₀ L s₁.heap m) (N : News h₀ L s₁.heap news) (hsz : its.size ≤ sizeLine) (hJ : J 0 [] news) (T : ∀ g, PTat prog w A h₀ L m env ct elt x x₂ scope cl { s₁ with heap := g } ax its k J (Fin { s₁ with heap := g }))
    (hRR : ∀ g D C h tk m' ys n, Fr h₀ L h m → News h₀ L h ((D, lst ys) :: n) → Off1 D n → h.Ns C m' → h₀.get? C = none → h₀.get? D = none → C ≠ L → D ≠ L → C ≠ D → (∀ p ∈ n, p.1 ≠ C) → Fin { s₁ with heap := g } ys n → RR (.ref D) C (.ok .next) { s₁ with heap := h, toks := tk }) :
    wpAny (model prog w) A (pyIter (.ref ax)) (fun it s₂ => wpAny (model prog w) A (newList []) (fun acc s₃ => wpAny (model prog w) A (newFunctionEnv scope env.globals cl [] env.qual none .none (some env)) (fun cenv s₄ =>
      codeAny (model prog w) A (.compStart (.ListComp elt [⟨.Tuple [.Name x px, .Name x₂ px₂] tq tp, iter, [ct], 0⟩] scope pos) 0 it acc { cenv with scope := relabel scope env }) (RR acc cenv.locals) s₄) E s₃) E s₂) E s₁ := by
  have hm := (T s₁.heap).src _ _ _ hJ
  have hl : s₁.heap.IsList ax its := ⟨_, (N _ hm).1, rfl, k, rfl⟩
  have hax : ax < s₁.heap.objs.size := Heap.lt_size (N _ hm).1
  refine wpAny_pyIter_list hl ?_
  generalize hH1 : s₁.heap.push { cls := .type "list_iterator", data := .fields #[.ref ax, .int 0 0] } = H1
  have z1 : H1.objs.size = s₁.heap.objs.size + 1 := by rw [← hH1, Heap.size_push]
  have i1 : H1.IsListIter s₁.heap.objs.size ax 0 := hH1 ▸ ⟨_, Heap.get?_push_size _ rfl, rfl, rfl⟩
  have u1 : ∀ b o, s₁.heap.get? b = some o → H1.get? b = some o := fun b o e => hH1 ▸ Heap.get?_push_of_some _ e
  refine wpAny_newObj_type (wpAny_newFunctionEnv hcell (by intro y hy; simp at hy) (fun H3 hns hsb => ?_) hkind)
  dsimp only at hns hsb ⊢
  generalize hH2 : H1.push { cls := .type "list", dict := none, data := .seq ([] : List Value).toArray } = H2 at hns hsb ⊢
  have z2 : H2.objs.size = s₁.heap.objs.size + 2 := by rw [← hH2, Heap.size_push, z1]
  have u2 : ∀ b o, H1.get? b = some o → H2.get? b = some o := fun b o e => hH2 ▸ Heap.get?_push_of_some _ e
  have d2 : H2.get? H1.objs.size = some (lst []) := hH2 ▸ Heap.get?_push_size _ rfl
  have u3 : ∀ b o, b < H2.objs.size → H2.get? b = some o → H3.get? b = some o := fun b o hb e => hsb.extBut b o (Nat.ne_of_lt hb) (Heap.get?_push_of_some _ e)
  have old : ∀ b o, s₁.heap.get? b = some o → H3.get? b = some o := fun b o e => u3 b o (by have := Heap.lt_size e; rw [z2]; exact Nat.lt_succ_of_lt (Nat.lt_succ_of_lt this)) (u2 _ _ (u1 _ _ e))
  have fresh : ∀ a, s₁.heap.objs.size ≤ a → h₀.get? a = none := fun a ha => by
    cases e : h₀.get? a with
    | none => rfl
    | some o' => exact absurd (Heap.lt_size (F.keep a o' e)) (Nat.not_lt.mpr ha)
  have hLlt : @LT.lt Nat _ L s₁.heap.objs.size := F.ns.lt
  have nlt : ∀ p ∈ news, @LT.lt Nat _ p.1 s₁.heap.objs.size := fun p hp => Heap.lt_size (N p hp).1
  have e1 : (H1.objs.size : Nat) = s₁.heap.objs.size + 1 := z1
  have e2 : (H2.objs.size : Nat) = s₁.heap.objs.size + 2 := z2
  have hLI : @Ne Nat L s₁.heap.objs.size := by omega
  have hCL : @Ne Nat H2.objs.size L := by omega
  have hDL : @Ne Nat H1.objs.size L := by omega
  have hIC : (s₁.heap.objs.size : Nat) ≠ H2.objs.size := by omega
  have hID : (s₁.heap.objs.size : Nat) ≠ H1.objs.size := by omega
  have hCD : (H2.objs.size : Nat) ≠ H1.objs.size := by omega
  have hxI : (ax : Nat) ≠ s₁.heap.objs.size := Nat.ne_of_lt hax
  have i3 : H3.IsListIter s₁.heap.objs.size ax 0 := by
    obtain ⟨o, e, r⟩ := i1
    exact ⟨o, u3 _ _ (by rw [z2]; exact Nat.lt_succ_of_lt (Nat.lt_succ_self _)) (u2 _ _ e), r⟩
  have N3 : News h₀ L H3 ((H1.objs.size, lst []) :: news) := fun p hp => by
    rcases List.mem_cons.mp hp with rfl | hp
    · exact ⟨u3 _ _ (by rw [z2, z1]; exact Nat.lt_succ_self _) d2, hDL, fresh _ (by rw [z1]; exact Nat.le_succ _)⟩
    · exact ⟨old _ _ (N p hp).1, (N p hp).2⟩
  have off : Off3 s₁.heap.objs.size H2.objs.size H1.objs.size news := Off3.of fun p hp => by
    have := nlt p hp
    exact ⟨Nat.ne_of_lt this, (by omega : @Ne Nat p.1 H2.objs.size), (by omega : @Ne Nat p.1 H1.objs.size)⟩
  have loop := fun tk => pt_loop (iter := iter) (px := px) (px₂ := px₂) (tp := tp) (tq := tq) (pos := pos) (R := RR (.ref H1.objs.size) H2.objs.size) (tk := tk) (T s₁.heap) hsz hkind hx hx₂ hxx hh hLI (fresh _ (Nat.le_refl _)) hCL (fresh _ (by rw [z2]; exact Nat.le_succ_of_le (Nat.le_succ _))) hDL (fresh _ (by rw [z1]; exact Nat.le_succ _)) hIC hID hCD hxI
    (fun h tk m' ys n F' N' o1 hn hc hJ' => hRR s₁.heap _ _ h tk m' ys n F' N' o1 hn (fresh _ (by rw [z2]; exact Nat.le_succ_of_le (Nat.le_succ _))) (fresh _ (by rw [z1]; exact Nat.le_succ _)) hCL hDL hCD hc ((T s₁.heap).fin ys n hJ'))
    i3 (F.keeps old) hns N3 off hJ
  refine codeAny_compStart_list (loop _) ?_
  have W := Walks.list (prog := prog) (w := w) hh s₁.heap.objs.size ax hxI its
  exact W.self 0 _ _ _ ⟨i3, ⟨_, (N3 _ (List.mem_cons_of_mem _ hm)).1, rfl, k, rfl⟩⟩ (loop _)
theorem ListComp_PT {ct elt iter : Expr} {x x₂ : Str} {px px₂ tp : Pos} {tq} {scope : Scope} {cl : List (Str × Addr)} {pos : Pos} {Q : Value → Shared → Prop} (_F₀ : Fr h₀ L s.heap m)
    (hclos : closureFor scope env = pure cl) (hcell : ∀ y ∈ scope.names, y.2 ≠ .cell) (hkind : scope.kind = .function)
    (hnames : ∀ y ∈ scope.names, y.2 = .local → scope.names.lookup y.1 = some .local) (hx : scope.names.lookup x = some .local) (hx₂ : scope.names.lookup x₂ = some .local) (hxx : x ≠ x₂)
    (h : wpAny (model prog w) A (eval iter env) (SrcPT prog w A h₀ L m env ct elt x x₂ scope cl (fun s₂ => FinE h₀ L m s₂ Q)) E s)
    (hs : ∀ x, foldedSetIterable iter env x = pure x := by intro _; rfl) :
    wpAny (model prog w) A (eval (.ListComp elt [⟨.Tuple [.Name x px, .Name x₂ px₂] tq tp, iter, [ct], 0⟩] scope pos) env) Q E s := by
  rw [eval_ListComp]
  refine wpAny_comprehension_free (use := none) rfl hs hclos hkind hnames (wpAny_mono h (fun xv s₁ h₁ => ?_) fun _ _ e => e)
  obtain ⟨ax, its, k, news, J, rfl, hh, F, N, hsz, hJ, T⟩ := h₁
  refine pt_block (Fin := fun s₂ => FinE h₀ L m s₂ Q) hcell hkind hx hx₂ hxx hh F N hsz hJ T fun g D C h' tk m' ys n F' N' o1 hn hC₀ hD₀ hCL hDL hCD offC fin => ?_
  refine ⟨m', hn, fun h'' hs'' => fin D h'' tk (F'.change hs'' hCL hC₀) (fun p hp => ?_) o1⟩
  refine ⟨hs''.extBut _ _ ?_ (N' p hp).1, (N' p hp).2⟩
  rcases List.mem_cons.mp hp with rfl | hp
  · exact Ne.symm hCD
  · exact offC p hp
theorem Assign_ListComp_PT {ct elt iter : Expr} {x x₂ y : Str} {px px₂ tp py : Pos} {tq} {scope : Scope} {cl : List (Str × Addr)} {pos spos : Pos} {Q : Flow → Shared → Prop} (_F₀ : Fr h₀ L s.heap m) (hLe : env.locals = L)
    (hsw : swapsWith (.ListComp elt [⟨.Tuple [.Name x px, .Name x₂ px₂] tq tp, iter, [ct], 0⟩] scope pos) (some (.Name y py)) spos.line env = pure true)
    (hclos : closureFor scope env = pure cl) (hcell : ∀ z ∈ scope.names, z.2 ≠ .cell) (hkind : scope.kind = .function)
    (hnames : ∀ z ∈ scope.names, z.2 = .local → scope.names.lookup z.1 = some .local) (hx : scope.names.lookup x = some .local) (hx₂ : scope.names.lookup x₂ = some .local) (hxx : x ≠ x₂)
    (hy : env.kindOf y = some .local) (hp : (env.scope.kind == .class || (env.scope.kind == .module && env.locals != env.globals)) = false)
    (h : wpAny (model prog w) A (eval iter env) (SrcPT prog w A h₀ L m env ct elt x x₂ scope cl (fun s₂ => FinA h₀ L m s₂ y Q)) E s)
    (hs : ∀ x, foldedSetIterable iter env x = pure x := by intro _; rfl) :
    wpAny (model prog w) A (exec (.Assign [.Name y py] (.ListComp elt [⟨.Tuple [.Name x px, .Name x₂ px₂] tq tp, iter, [ct], 0⟩] scope pos) spos) env) Q E s := by
  subst hLe
  rw [exec_Assign_Name_used _ _ _ _ hsw]
  refine wpAny_bind (wpAny_standAt (wpAny_bind ?_))
  show wpAny _ A (do let _ ← comprehension (.ListComp elt [⟨.Tuple [.Name x px, .Name x₂ px₂] tq tp, iter, [ct], 0⟩] scope pos) scope env _ (newList []) false (eval iter env) (some (assign (.Name y py) env))) _ _ s
  refine wpAny_bind (wpAny_mono (wpAny_comprehension_free (use := some (assign (.Name y py) env)) (Q := fun _ s' => Q .next s') rfl hs hclos hkind hnames
    (wpAny_mono h (fun xv s₁ h₁ => ?_) fun _ _ e => e)) (fun _ s' hq => wpAny_pure (wpAny_pure hq)) fun _ _ e => e)
  obtain ⟨ax, its, k, news, J, rfl, hh, F, N, hsz, hJ, T⟩ := h₁
  refine pt_block (Fin := fun s₂ => FinA h₀ env.locals m s₂ y Q) hcell hkind hx hx₂ hxx hh F N hsz hJ T fun g D C h' tk m' ys n F' N' o1 hn hC₀ hD₀ hCL hDL hCD offC fin => ?_
  show wpAny _ A (assign (.Name y py) env (.ref D)) _ _ _
  refine wpAny_assign_Name (wpAny_storeName_local hy F'.ns (fun h₂ hn₂ hs₂ => ?_) hp)
  have hL₀ : h₀.get? env.locals = none := Heap.get?_none_of_le F'.above
  have F₂ : Fr h₀ env.locals h₂ (fun z => if z = y then some (.ref D) else m z) := ⟨hn₂, fun b o e => hs₂.extBut b o (fun q => by rw [q, hL₀] at e; cases e) (F'.keep b o e), F'.above⟩
  refine ⟨m', hn.sameBut hs₂ hCL, fun h'' hs'' => fin D h'' _ (F₂.change hs'' hCL hC₀) (fun p hp => ?_) o1⟩
  have z : h₂.get? p.1 = some p.2 := hs₂.extBut _ _ (N' p hp).2.1 (N' p hp).1
  refine ⟨hs''.extBut _ _ ?_ z, (N' p hp).2⟩
  rcases List.mem_cons.mp hp with rfl | hp
  · exact Ne.symm hCD
  · exact offC p hp
end
end
section
def rowD (r : KV) : Dat := .tuple [.str (fs r.1 r.2.1), .str (pad r.2.2)]
theorem ok_fs (x : Fin 5) (u : Bool) : PyData.strOk (fs x u) = true := by revert x u; decide +kernel
theorem ok_pad (n : Nat) : PyData.strOk (pad n) = true := by
  show ((List.replicate n 32 ++ [9, 32, 32]).toArray).all (fun c => decide (c < 0x110000)) = true
  simp [List.all_append, List.all_replicate]
theorem Rows.dat {news : List (Addr × Obj)} {its : List Value} {kvs : List KV} (h : Rows news its kvs) : DatAll news its (kvs.map rowD) := by
  induction h with
  | nil => exact .nil
  | cons hm r ih => exact .cons (.tuple (n := 0) (vs := [_, _]) hm (.cons (.str _ _) (.cons (.str _ _) .nil))) ih
theorem Keys.dat {news : List (Addr × Obj)} {its : List Value} {kvs : List KV} (h : Keys its kvs) : DatAll news its (kvs.map fun r => .str (fs r.1 r.2.1)) := by
  induction h with
  | nil => exact .nil
  | cons r ih => exact .cons (.str _ _) ih
theorem Vals.dat {news : List (Addr × Obj)} {its : List Value} {kvs : List KV} (h : Vals its kvs) : DatAll news its (kvs.map fun r => .str (pad r.2.2)) := by
  induction h with
  | nil => exact .nil
  | cons r ih => exact .cons (.str _ _) ih
section
variable {prog : Program} {w : World} {A : Around} {E : Value → Shared → Prop} {s : Shared} {h₀ : Heap} {L a b : Addr} {news : List (Addr × Obj)} {xs ys : List Value} {ka kb : Nat} {kvs : List KV} {Q : Value → Shared → Prop}
theorem ok_rows : ∀ d ∈ kvs.map rowD, kqdOk 8 d = true := by
  intro d hd
  obtain ⟨r, _, rfl⟩ := List.mem_map.mp hd
  simp [rowD, kqdOk, ok_fs, ok_pad]
theorem ok_keys : ∀ d ∈ kvs.map (fun r => Dat.str (fs r.1 r.2.1)), kqdOk 8 d = true := by
  intro d hd
  obtain ⟨r, _, rfl⟩ := List.mem_map.mp hd
  exact ok_fs _ _
theorem ok_vals : ∀ d ∈ kvs.map (fun r => Dat.str (pad r.2.2)), kqdOk 8 d = true := by
  intro d hd
  obtain ⟨r, _, rfl⟩ := List.mem_map.mp hd
  exact ok_pad _
theorem ne_rows (N : News h₀ L s.heap news) (ma : (a, listOf xs.toArray ka) ∈ news) (mb : (b, listOf ys.toArray kb) ∈ news) (ra : Rows news xs kvs) (rb : Rows news ys kvs) (hu : A.units + 64 < cLine) (h : Q (.bool false) s) : wpAny (model prog w) A (compareOp .NotEq (.ref a) (.ref b)) Q E s :=
  kqd_ne N ma rfl rfl ra.dat (fun _ h => h) mb rfl rfl rb.dat (fun _ h => h) ok_rows ok_rows hu (by simpa using h)
theorem eq_rows (N : News h₀ L s.heap news) (ma : (a, listOf xs.toArray ka) ∈ news) (mb : (b, listOf ys.toArray kb) ∈ news) (ra : Rows news xs kvs) (rb : Rows news ys kvs) (hu : A.units + 64 < cLine) (h : Q (.bool true) s) : wpAny (model prog w) A (compareOp .Eq (.ref a) (.ref b)) Q E s :=
  kqd_eq N ma rfl rfl ra.dat (fun _ h => h) mb rfl rfl rb.dat (fun _ h => h) ok_rows ok_rows hu (by simpa using h)
theorem ne_keys (N : News h₀ L s.heap news) (ma : (a, listOf xs.toArray ka) ∈ news) (mb : (b, listOf ys.toArray kb) ∈ news) (ra : Keys xs kvs) (rb : Keys ys kvs) (hu : A.units + 64 < cLine) (h : Q (.bool false) s) : wpAny (model prog w) A (compareOp .NotEq (.ref a) (.ref b)) Q E s :=
  kqd_ne N ma rfl rfl ra.dat (fun _ h => h) mb rfl rfl rb.dat (fun _ h => h) ok_keys ok_keys hu (by simpa using h)
theorem ne_vals (N : News h₀ L s.heap news) (ma : (a, listOf xs.toArray ka) ∈ news) (mb : (b, listOf ys.toArray kb) ∈ news) (ra : Vals xs kvs) (rb : Vals ys kvs) (hu : A.units + 64 < cLine) (h : Q (.bool false) s) : wpAny (model prog w) A (compareOp .NotEq (.ref a) (.ref b)) Q E s :=
  kqd_ne N ma rfl rfl ra.dat (fun _ h => h) mb rfl rfl rb.dat (fun _ h => h) ok_vals ok_vals hu (by simpa using h)
end
/-- the law's own lists: pairs of a number and a flag; numbers of flags; counts -/
abbrev LV := Fin 5 × Bool
abbrev tupL (x : Fin 5) (u : Bool) (t t' : Tok) : Obj := { cls := .type "tuple", data := .seq #[.int (x.val : Nat) t, .str (fs x u) t'] }
inductive Lasts (news : List (Addr × Obj)) : List Value → List LV → Prop
  | nil : Lasts news [] []
  | cons {a : Addr} {x : Fin 5} {u : Bool} {t t' : Tok} {items : List Value} {l : List LV} (h : (a, tupL x u t t') ∈ news) (r : Lasts news items l) : Lasts news (.ref a :: items) ((x, u) :: l)
inductive Kepts : List Value → List (Fin 5) → Prop
  | nil : Kepts [] []
  | cons {x : Fin 5} {t : Tok} {items : List Value} {l : List (Fin 5)} (r : Kepts items l) : Kepts (.int (x.val : Nat) t :: items) (x :: l)
inductive Cnts : List Value → List Nat → Prop
  | nil : Cnts [] []
  | cons {n : Nat} {t : Tok} {items : List Value} {l : List Nat} (r : Cnts items l) : Cnts (.int n t :: items) (n :: l)
theorem Lasts.mono {news news' : List (Addr × Obj)} (hs : ∀ p ∈ news, p ∈ news') {items : List Value} {l : List LV} (hR : Lasts news items l) : Lasts news' items l := by
  induction hR with
  | nil => exact .nil
  | cons h _ ih => exact .cons (hs _ h) ih
theorem Lasts.append {news : List (Addr × Obj)} {b : List Value} {lb : List LV} (hb : Lasts news b lb) {a : List Value} {la : List LV} (h : Lasts news a la) : Lasts news (a ++ b) (la ++ lb) := by
  induction h with
  | nil => exact hb
  | cons h _ ih => exact .cons h ih
theorem Lasts.len {news : List (Addr × Obj)} {items : List Value} {l : List LV} (h : Lasts news items l) : items.length = l.length := by
  induction h with
  | nil => rfl
  | cons _ _ ih => simp [ih]
theorem Lasts.get {news : List (Addr × Obj)} {items : List Value} {l : List LV} (h : Lasts news items l) : ∀ {i : Nat} {v : Value}, items[i]? = some v → ∃ a x u t t', v = .ref a ∧ l[i]? = some (x, u) ∧ (a, tupL x u t t') ∈ news := by
  induction h with
  | nil => intro i v e; cases e
  | cons h _ ih =>
    intro i v e
    cases i with
    | zero => cases e; exact ⟨_, _, _, _, _, rfl, rfl, h⟩
    | succ i => exact ih e
theorem Kepts.append {b : List Value} {lb : List (Fin 5)} (hb : Kepts b lb) {a : List Value} {la : List (Fin 5)} (h : Kepts a la) : Kepts (a ++ b) (la ++ lb) := by
  induction h with
  | nil => exact hb
  | cons _ ih => exact .cons ih
theorem Kepts.len {items : List Value} {l : List (Fin 5)} (h : Kepts items l) : items.length = l.length := by
  induction h with
  | nil => rfl
  | cons _ ih => simp [ih]
theorem Cnts.len {items : List Value} {l : List Nat} (h : Cnts items l) : items.length = l.length := by
  induction h with
  | nil => rfl
  | cons _ ih => simp [ih]
theorem Cnts.append {b : List Value} {lb : List Nat} (hb : Cnts b lb) {a : List Value} {la : List Nat} (h : Cnts a la) : Cnts (a ++ b) (la ++ lb) := by
  induction h with
  | nil => exact hb
  | cons _ ih => exact .cons ih
theorem Cnts.at {ys : List Value} {l : List Nat} (h : Cnts ys l) : ∀ {i : Nat}, i < l.length → ∃ t, ys[i]? = some (.int (l.getD i 0 : Nat) t) := by
  induction h with
  | nil => intro i hi; exact absurd hi (Nat.not_lt_zero _)
  | cons r ih =>
    intro i hi
    cases i with
    | zero => exact ⟨_, rfl⟩
    | succ i => exact ih (Nat.lt_of_succ_lt_succ hi)
theorem Kepts.at {ys : List Value} {l : List (Fin 5)} (h : Kepts ys l) : ∀ {i : Nat}, i < l.length → ∃ t, ys[i]? = some (.int ((l.getD i 0).val : Nat) t) := by
  induction h with
  | nil => intro i hi; exact absurd hi (Nat.not_lt_zero _)
  | cons r ih =>
    intro i hi
    cases i with
    | zero => exact ⟨_, rfl⟩
    | succ i => exact ih (Nat.lt_of_succ_lt_succ hi)
theorem Kepts.get {ys : List Value} {l : List (Fin 5)} (h : Kepts ys l) : ∀ {i : Nat} {v : Value}, ys[i]? = some v → ∃ x t, v = .int (x.val : Nat) t ∧ l[i]? = some x := by
  induction h with
  | nil => intro i v e; cases e
  | cons _ ih =>
    intro i v e
    cases i with
    | zero => cases e; exact ⟨_, _, rfl, rfl⟩
    | succ i => exact ih e
theorem Cnts.get {ys : List Value} {l : List Nat} (h : Cnts ys l) : ∀ {i : Nat} {v : Value}, ys[i]? = some v → ∃ n t, v = .int (n : Nat) t ∧ l[i]? = some n := by
  induction h with
  | nil => intro i v e; cases e
  | cons _ ih =>
    intro i v e
    cases i with
    | zero => cases e; exact ⟨_, _, rfl, rfl⟩
    | succ i => exact ih e
def cnt (left : List Nat) (x : Fin 5) : Nat := left.getD x.val 0
/-- what the two tables must be -/
def fewDue (left : List Nat) (last : List LV) : List KV := (last.filter fun p => decide (0 < cnt left p.1)).map fun p => (p.1, p.2, cnt left p.1)
def fullDue (left : List Nat) (r : Nat) (last : List LV) (kept : List (Fin 5)) : List KV := (last.filter fun p => decide (p.1 ∈ kept)).map fun p => (p.1, p.2, cnt left p.1 + r)
section
variable {prog : Program} {w : World} {A : Around} {E : Value → Shared → Prop} {s : Shared} {h₀ : Heap} {L D : Addr} {news : List (Addr × Obj)} {value slice : Expr} {ys : List Value} {k : Nat} {u : Tok} {Q : Value → Shared → Prop}
theorem item_cnt {left : List Nat} {x : Fin 5} (N : News h₀ L s.heap news) (hm : (D, listOf ys.toArray k) ∈ news) (hk : Cnts ys left) (h5 : left.length = 5) (h : ∀ t, Q (.int (cnt left x : Nat) t) s)
    (hs : subscripted slice false (.ref D) (.int (x.val : Nat) u) = operate [.ref D, .int (x.val : Nat) u] (getItem (.ref D) (.int (x.val : Nat) u)) := by with_unfolding_all rfl) (hg : ∀ r, letTemporaryGo value (.ref D) r = pure () := by intro _; with_unfolding_all rfl) :
    wpAny (model prog w) A (subscriptTail value slice (.ref D) (.int (x.val : Nat) u)) Q E s :=
  let ⟨t, e⟩ := hk.at (i := x.val) (by omega)
  kim_list N hm rfl rfl (Int.natCast_nonneg _) (by have := x.isLt; omega) (by rw [Int.toNat_natCast]; exact e) (h t) hs hg
theorem isInt_kept {x : Fin 5} : ∀ {ys : List Value} {l : List (Fin 5)}, Kepts ys l → (kf_ints ys = true ∧ ys.any (isInt (x.val : Nat)) = decide (x ∈ l))
  | _, _, .nil => ⟨rfl, rfl⟩
  | _, _, .cons (x := z) (l := l) r => by
    obtain ⟨a, b⟩ := isInt_kept (x := x) r
    refine ⟨a, ?_⟩
    rw [List.any_cons, b]
    show (decide ((z.val : Int) = (x.val : Int)) || _) = _
    by_cases e : x = z
    · subst e; simp
    · have : ¬ ((z.val : Int) = (x.val : Int)) := fun q => e (Fin.ext (by omega))
      simp [this, e]
theorem in_kept {x : Fin 5} {t : Tok} {l : List (Fin 5)} (N : News h₀ L s.heap news) (hm : (D, listOf ys.toArray k) ∈ news) (hk : Kepts ys l) (h : Q (.bool (decide (x ∈ l))) s) : wpAny (model prog w) A (compareOp .In (.int (x.val : Nat) t) (.ref D)) Q E s :=
  kf_in N hm (by rw [List.toList_toArray]; exact (isInt_kept (x := x) hk).1) (by rw [List.toList_toArray]; exact (isInt_kept hk).2) h
theorem notin_kept {x : Fin 5} {t : Tok} {l : List (Fin 5)} (N : News h₀ L s.heap news) (hm : (D, listOf ys.toArray k) ∈ news) (hk : Kepts ys l) (h : Q (.bool (!decide (x ∈ l))) s) : wpAny (model prog w) A (compareOp .NotIn (.int (x.val : Nat) t) (.ref D)) Q E s :=
  kf_notin N hm (by rw [List.toList_toArray]; exact (isInt_kept (x := x) hk).1) (by rw [List.toList_toArray, (isInt_kept hk).2]) h
end
end
section
def blanks (n : Nat) : Str := ⟨(List.replicate n 32).toArray⟩
theorem blanks_fold : ∀ (n : Nat) (acc : Array Nat), (List.replicate n (#[32] : Array Nat)).foldl (· ++ ·) acc = acc ++ (List.replicate n 32).toArray
  | 0, acc => by simp
  | n + 1, acc => by
    rw [List.replicate_succ, List.foldl_cons, blanks_fold n]
    apply Array.toList_inj.mp
    rw [Array.toList_append, Array.toList_append, Array.toList_append, List.toList_toArray, List.toList_toArray, List.replicate_succ, List.append_assoc]
    rfl
theorem mul_txt (i : Int) : Txt.mul (Str.ofString " ") i = blanks i.toNat := by
  unfold Txt.mul
  have hc : (Str.ofString " ").cps = #[32] := by decide +kernel
  split
  · rw [show i.toNat = 0 by omega]; rfl
  · split
    · rename_i h1 h2
      rw [show (Str.ofString " ").length = 1 by decide +kernel] at h2
      have : i = 1 := by simpa using h2
      rw [this]
      decide +kernel
    · rw [hc, blanks_fold]
      simp [blanks]
theorem tail_blanks (n : Nat) : blanks n ++ Str.ofString "\t  " = pad n := by
  show (⟨(List.replicate n 32).toArray ++ (Str.ofString "\t  ").cps⟩ : Str) = ⟨(List.replicate n 32 ++ [9, 32, 32]).toArray⟩
  rw [show (Str.ofString "\t  ").cps = #[9, 32, 32] by decide +kernel]
  simp
section
variable {prog : Program} {w : World} {A : Around} {E : Value → Shared → Prop} {s : Shared} {t u : Tok} {Q : Value → Shared → Prop}
theorem mul_blank {i : Int} (h0 : -(2 ^ 63 : Int) ≤ i) (h1 : i ≤ 1000) (h : ∀ t' k, Q (.str (blanks i.toNat) t') { s with toks := k }) : wpAny (model prog w) A (binaryOp .Mult (.str (Str.ofString " ") t) (.int i u)) Q E s :=
  SB.mul (mulOk_of 16 1000 (by decide +kernel) h1 h0 (by decide) (by decide)) fun t' k => by rw [mul_txt]; exact h t' k
theorem add_tail {n : Nat} (hn : n ≤ 1000) (h : ∀ t' k, Q (.str (pad n) t') { s with toks := k }) : wpAny (model prog w) A (binaryOp .Add (.str (blanks n) t) (.str (Str.ofString "\t  ") u)) Q E s :=
  add_str (fun t' k => by rw [tail_blanks]; exact h t' k) (by
    rw [show (Str.ofString "\t  ").length = 3 by decide +kernel, show (blanks n).length = n by show (List.replicate n 32).toArray.size = n; simp, sizeLine_eq]; omega)
end
def RowsJ (news : List (Addr × Obj)) (n : Nat) (B : List (Addr × Obj)) (f : Nat → List KV) (i : Nat) (ys : List Value) (n' : List (Addr × Obj)) : Prop :=
  ∃ e, n' = B.take n ++ e ∧ (∀ p ∈ news, p ∈ e) ∧ (∀ p ∈ e, p ∈ news ∨ ∀ q ∈ B, p.1 ≠ q.1) ∧ Rows e ys (f i)
theorem RowsJ.nil {n : Nat} {news B : List (Addr × Obj)} {f : Nat → List KV} (h : B = B.take n ++ news) (hf : f 0 = []) : RowsJ news n B f 0 [] B := ⟨news, h, fun _ h => h, fun _ h => .inl h, by rw [hf]; exact .nil⟩
theorem rows_turn {n i : Nat} {f : Nat → List KV} {B e news : List (Addr × Obj)} {ys : List Value} {t I C D L : Addr} {x : Fin 5} {u : Bool} {c : Nat} {t1 t2 : Tok} {oI oC oD : Obj} {g h' : Heap} {m : Str → Option Value} {s₁ : Shared} {tk : Nat} (F : Fr g L h' m) (N : News g L h' ((t, tupO x u c t1 t2) :: (I, oI) :: (C, oC) :: (D, oD) :: (B.take n ++ e)))
    (hlt : AllLt t ((I, oI) :: (C, oC) :: (D, oD) :: (B.take n ++ e))) (off : LCg.Off3 I C D (B.take n ++ e)) (hB : B = B.take n ++ news) (hse : ∀ p ∈ news, p ∈ e) (hap : ∀ p ∈ e, p ∈ news ∨ ∀ q ∈ B, p.1 ≠ q.1) (hJ : Rows e ys (f i)) (hf : f (i + 1) = f i ++ [(x, u, c)]) :
    LCg.CompEnd g L m s₁ I oI C oC D oD (fun _ => True) (fun y n' => RowsJ news n B f (i + 1) (ys ++ [y]) n') (.ref t) { s₁ with heap := h', toks := tk } := by
  have hl := allLt_mem hlt
  have hlt' : ∀ p ∈ B.take n ++ e, p.1 ≠ t := fun p hp => Nat.ne_of_lt (hl p (by simp only [List.mem_cons]; exact .inr (.inr (.inr hp))))
  refine LCg.CompEnd.intro F N (B.take n ++ ((t, tupO x u c t1 t2) :: e)) ?_ (off3_of ?_) trivial ⟨(t, tupO x u c t1 t2) :: e, rfl, fun p hp => List.mem_cons_of_mem _ (hse p hp), ?_, ?_⟩
  · intro p hp
    simp only [List.mem_cons, List.mem_append] at hp ⊢
    rcases hp with h | h | h | h | h | h
    · exact .inr (.inl h)
    · exact .inr (.inr (.inl h))
    · exact .inr (.inr (.inr (.inl h)))
    · exact .inr (.inr (.inr (.inr (.inl h))))
    · exact .inl h
    · exact .inr (.inr (.inr (.inr (.inr h))))
  · intro p hp
    have hoff := off.mem
    rcases List.mem_append.mp hp with h | h
    · exact hoff p (List.mem_append_left _ h)
    · rcases List.mem_cons.mp h with rfl | h
      · exact ⟨Nat.ne_of_gt (hl (I, oI) (by simp)), Nat.ne_of_gt (hl (C, oC) (by simp)), Nat.ne_of_gt (hl (D, oD) (by simp))⟩
      · exact hoff p (List.mem_append_right _ h)
  · intro p hp
    rcases List.mem_cons.mp hp with rfl | hp
    · refine .inr fun q hq e1 => ?_
      rw [hB] at hq
      rcases List.mem_append.mp hq with h | h
      · exact hlt' q (List.mem_append_left _ h) e1.symm
      · exact hlt' q (List.mem_append_right _ (hse q h)) e1.symm
    · exact hap p hp
  · rw [hf]
    exact Rows.append (.cons (List.mem_cons_self ..) .nil) (hJ.mono fun p hp => List.mem_cons_of_mem _ hp)
theorem rows_skip {n i : Nat} {f : Nat → List KV} {B e news : List (Addr × Obj)} {ys : List Value} {v : Value} {I C D L : Addr} {oI oC oD : Obj} {g h' : Heap} {m : Str → Option Value} {s₁ : Shared} {tk : Nat} (F : Fr g L h' m) (N : News g L h' ((I, oI) :: (C, oC) :: (D, oD) :: (B.take n ++ e)))
    (off : LCg.Off3 I C D (B.take n ++ e)) (hse : ∀ p ∈ news, p ∈ e) (hap : ∀ p ∈ e, p ∈ news ∨ ∀ q ∈ B, p.1 ≠ q.1) (hJ : Rows e ys (f i)) (hf : f (i + 1) = f i) :
    LCg.CompEnd g L m s₁ I oI C oC D oD (fun _ => True) (fun _ n' => RowsJ news n B f (i + 1) ys n') v { s₁ with heap := h', toks := tk } :=
  LCg.CompEnd.intro F N _ (fun _ h => h) off trivial ⟨e, rfl, hse, hap, by rw [hf]; exact hJ⟩
/-- a comprehension's rows, by turns -/
def dueF (P : LV → Bool) (c : LV → Nat) (last : List LV) (i : Nat) : List KV := ((last.take i).filter P).map fun p => (p.1, p.2, c p)
theorem dueF_yes {P : LV → Bool} {c : LV → Nat} {last : List LV} {i : Nat} {p : LV} (h : last[i]? = some p) (hp : P p = true) : dueF P c last (i + 1) = dueF P c last i ++ [(p.1, p.2, c p)] := by
  unfold dueF
  rw [List.take_add_one, h]
  simp [List.filter_append, hp]
theorem dueF_no {P : LV → Bool} {c : LV → Nat} {last : List LV} {i : Nat} {p : LV} (h : last[i]? = some p) (hp : P p = false) : dueF P c last (i + 1) = dueF P c last i := by
  unfold dueF
  rw [List.take_add_one, h]
  simp [List.filter_append, hp]
theorem cons_sub {q : Addr × Obj} {a b : List (Addr × Obj)} (h : ∀ p ∈ a, p ∈ b) : ∀ p ∈ q :: a, p ∈ q :: b := fun p hp => by
  rcases List.mem_cons.mp hp with rfl | hp
  · exact List.mem_cons_self ..
  · exact List.mem_cons_of_mem _ (h p hp)
theorem skip_sub {q : Addr × Obj} {a b : List (Addr × Obj)} (h : ∀ p ∈ a, p ∈ b) : ∀ p ∈ a, p ∈ q :: b := fun p hp => List.mem_cons_of_mem _ (h p hp)
theorem dueF_all {P : LV → Bool} {c : LV → Nat} {last : List LV} {n : Nat} (h : n = last.length) : dueF P c last n = (last.filter P).map fun p => (p.1, p.2, c p) := by
  unfold dueF
  rw [h, List.take_length]
theorem fullDue_eq {left : List Nat} {r : Nat} {last : List LV} {kept : List (Fin 5)} {n : Nat} (h : n = last.length) : dueF (fun p => decide (p.1 ∈ kept)) (fun p => ((cnt left p.1 : Int) + (r : Int)).toNat) last n = fullDue left r last kept := by
  rw [dueF_all h]
  rfl
theorem sub_tr {a b c : List (Addr × Obj)} (h1 : ∀ p ∈ a, p ∈ b) (h2 : ∀ p ∈ b, p ∈ c) : ∀ p ∈ a, p ∈ c := fun p hp => h2 p (h1 p hp)
end
section
section
variable {w : World} {mean : ExcName → Option Value} {mg mb : Str → Option Value} {news : List (Addr × Obj)} {x1 l1 x2 l2 Dl Dk Df : Addr} {kv1 kv2 : List KV}
theorem lines_c {left : List Nat} {last : List LV} {kept : List (Fin 5)} {r : Nat} {ys1 ys2 ys3 : List Value} {c1 c2 c3 : Nat} {t : Tok} (hH1 : HdrAt w news x1 l1 kv1) (hH2 : HdrAt w news x2 l2 kv2)
    (hDf : (Df, listOf ys1.toArray c1) ∈ news) (hleft : Cnts ys1 left) (h5 : left.length = 5) (hDl : (Dl, listOf ys2.toArray c2) ∈ news) (hlast : Lasts news ys2 last) (hDk : (Dk, listOf ys3.toArray c3) ∈ news) (hkept : Kepts ys3 kept)
    (hz : last.length ≤ 10) (hb : ∀ x : Fin 5, cnt left x ≤ 100) (hr : r ≤ 100) (e1 : kv1 = fewDue left last) (e2 : kv2 = fullDue left r last kept) :
    CkClaim w mean mg mb 20 223 news [.ref x1, .ref x2, .ref Df, .int r t, .ref Dl, .ref Dk] [] (fun v news' => v = .bool true ∧ news = news') := by
  dsimp only [CkClaim]
  intros
  rename_i hret
  obtain ⟨dx1, th1, n1, k1, items1, hx1, hd1, hl1, hr1⟩ := hH1.at_
  obtain ⟨dx2, th2, n2, k2, items2, hx2, hd2, hl2, hr2⟩ := hH2.at_
  (refine wpAny_call ?_; (k_dflt (first | (refine' code_def ?k1 ?k2 ?k3 ?k4 ?k5 ?kA ?kF ?kK ?k6 ?k7 ?k8 ?k9 ?kB ?_ ?c2 ?c3 ?c4 ?c5; (case kA => exact rfl); (case kF => exact rfl); (case kK => first | exact rfl | assumption); (case k1 => k_asm); (case k2 => k_asm); (case k3 => k_asm); (case k4 => k_asm); (case k5 => k_asm); (case k6 => k_is); (case k7 => k_is); (case k8 => first | exact room_a (by assumption) (by decide) | omega | ktr_room | k_room); (case k9 => first | exact BindsTo.of_eq rfl | exact binds_K (by k_in) rfl (by k_is) rfl rfl rfl); (case c5 => decide); (case kB => exact locs rfl); (case c2 => exact rfl); (case c3 => exact rfl); (case c4 => exact rfl); k_whole; intro gE LE hE FGE FE NE BE XE TE; (try dsimp only); (try k_lift BE); (try k_fold)) | (refine' code_defC ?k1 ?k2 ?k3 ?k4 ?k5 ?kA ?kF ?kK ?k6 ?k7 ?k8 ?k9 ?kB ?kD ?_ ?c2 ?c3 ?c4; (case kA => exact rfl); (case kF => exact rfl); (case kK => first | exact rfl | assumption); (case k1 => k_asm); (case k2 => k_asm); (case k3 => k_asm); (case k4 => k_asm); (case k5 => k_asm); (case k6 => k_is); (case k7 => k_is); (case k8 => first | exact room_a (by assumption) (by decide) | omega | ktr_room | k_room); (case k9 => first | exact BindsTo.of_eq rfl | exact binds_K (by k_in) rfl (by k_is) rfl rfl rfl); (case kB => exact rfl); (case kD => decide +kernel); (case c2 => exact rfl); (case c3 => exact rfl); (case c4 => exact rfl); k_whole; intro gE LE hE tkE cells' FGE FE NE YE BE XE TE lE; (try k_lt lE); k_cells YE; (try simp only [List.cons_append, List.nil_append] at NE); (try dsimp only); (try k_lift BE); (try k_fold)))))
  have hf1 : kv1.length ≤ 10 := by rw [e1]; unfold fewDue; rw [List.length_map]; exact Nat.le_trans (List.length_filter_le _ _) hz
  have hf2 : kv2.length ≤ 10 := by rw [e2]; unfold fullDue; rw [List.length_map]; exact Nat.le_trans (List.length_filter_le _ _) hz
  (k_steps; repeat' (first | ((with_reducible (refine Stop.into ?_; (with_reducible show wpAny _ _ (call (Value.ref _) _ _) _ _ _); k_dflt (first | (refine' ck_useK (keys_c ?hH ?hz) ?kk ?_; (case kk => (refine' CkAt.mk ?k1 ?k2 ?k3 ?k4 ?k5 ?kK ?kd ?ku; ((case k1 => k_asm); (case k2 => k_asm); (case k3 => k_asm); (case k4 => k_asm); (case k5 => k_asm); (case kK => first | exact rfl | assumption); (case kd => first | exact room_a (by assumption) (by decide) | omega | ktr_room | k_room); (case ku => first | exact unit_a (by assumption) (by decide) | exact unit_b (by assumption) (by decide) | exact unit_c (by assumption) (by decide) | omega | ktr_units | k_units)))); (case hH => first | assumption | (refine' HdrAt.mono ?hs9 ?hh9; (case hh9 => assumption); (case hs9 => (intro p hp; (repeat (first | exact hp | assumption | refine List.mem_cons_of_mem _ ?_)))))); (case hz => first | assumption | omega); intro _ _ _ _ _ _ _ _) | (refine' ck_useK (values_c ?hH ?hz) ?kk ?_; (case kk => (refine' CkAt.mk ?k1 ?k2 ?k3 ?k4 ?k5 ?kK ?kd ?ku; ((case k1 => k_asm); (case k2 => k_asm); (case k3 => k_asm); (case k4 => k_asm); (case k5 => k_asm); (case kK => first | exact rfl | assumption); (case kd => first | exact room_a (by assumption) (by decide) | omega | ktr_room | k_room); (case ku => first | exact unit_a (by assumption) (by decide) | exact unit_b (by assumption) (by decide) | exact unit_c (by assumption) (by decide) | omega | ktr_units | k_units)))); (case hH => first | assumption | (refine' HdrAt.mono ?hs9 ?hh9; (case hh9 => assumption); (case hs9 => (intro p hp; (repeat (first | exact hp | assumption | refine List.mem_cons_of_mem _ ?_)))))); (case hz => first | assumption | omega); intro _ _ _ _ _ _ _ _) | (refine' ck_useI (items_c ?hH ?hz) ?kk ?_; (case kk => (refine' CkAt.mk ?k1 ?k2 ?k3 ?k4 ?k5 ?kK ?kd ?ku; ((case k1 => k_asm); (case k2 => k_asm); (case k3 => k_asm); (case k4 => k_asm); (case k5 => k_asm); (case kK => first | exact rfl | assumption); (case kd => first | exact room_a (by assumption) (by decide) | omega | ktr_room | k_room); (case ku => first | exact unit_a (by assumption) (by decide) | exact unit_b (by assumption) (by decide) | exact unit_c (by assumption) (by decide) | omega | ktr_units | k_units)))); (case hH => first | assumption | (refine' HdrAt.mono ?hs9 ?hh9; (case hh9 => assumption); (case hs9 => (intro p hp; (repeat (first | exact hp | assumption | refine List.mem_cons_of_mem _ ?_)))))); (case hz => first | assumption | omega); intro _ _ _ _ _ _ _ _ _)))); k_steps) | ((with_reducible refine Stop.into ?_); (with_reducible show wpAny _ _ _ _ _ _); (fail_if_success (with_reducible show wpAny _ _ (pyIter _) _ _ _)); (fail_if_success (with_reducible show wpAny _ _ (eval (Expr.ListComp _ _ _ _) _) _ _ _)); (fail_if_success (with_reducible show wpAny _ _ (exec (Stmt.Assign _ (Expr.ListComp _ _ _ _) _) _) _ _ _)); (fail_if_success (with_reducible show wpAny _ _ (compareOp CmpOp.NotEq (Value.ref _) (Value.ref _)) _ _ _)); (fail_if_success (with_reducible show wpAny _ _ (compareOp CmpOp.Eq (Value.ref _) (Value.ref _)) _ _ _)); have hNS : NoStop := noStop; walk1; all_goals clear hNS; k_steps) | fail))
  refine Stop.into (ListComp_PT (_F₀ := by k_asm) (by with_unfolding_all rfl) (by decide) (by rfl) (by decide) (by rfl) (by rfl) (by decide) ?_)
  k_steps
  rename Rows _ _ kv1 => hy
  have hsz2 : ys2.toArray.size = last.length := by rw [List.size_toArray, hlast.len]
  refine Stop.into (SrcPT.ledger (its := ys2.toArray) (k := c2) (RowsJ news 4 _ (dueF (fun p => decide (0 < cnt left p.1)) (fun p => cnt left p.1) last)) (by rfl) (by k_asm) (by k_asm) (by rw [hsz2, sizeLine_eq]; omega) (RowsJ.nil rfl rfl) fun g => ⟨?src, ?turn, ?fin⟩)
  case src =>
    rintro i ys n ⟨e, rfl, hse, _, _⟩
    exact List.mem_append_right _ (hse _ hDl)
  case turn =>
    rintro i v ys n hi hv ⟨e, rfl, hse, hap, hJ⟩
    obtain ⟨a, x, u, t1, t2, rfl, hlx, hm⟩ := hlast.get (by simpa using hv)
    refine ⟨a, _, _, _, _, rfl, List.mem_append_right _ (hse _ hm), rfl, rfl, fun I oI C oC D m₂ h tk E' hC hx hx' F N off ne => ?_⟩
    simp only [List.take_succ_cons, List.take_zero, List.cons_append, List.nil_append] at N off
    have hbx := hb x
    have hDf2 := hse _ hDf
    (k_steps; repeat' (first | ((with_reducible (refine Stop.into ?_; (with_reducible show wpAny _ _ (subscriptTail (Expr.Name _ _) (Expr.Name _ _) (Value.ref _) (Value.int _ _)) _ _ _); k_dflt (refine' item_cnt ?N ?hm ?hk ?h5 ?_; (case N => k_asm); (case hm => first | assumption | (repeat (first | assumption | refine List.mem_cons_of_mem _ ?_))); (case hk => assumption); (case h5 => assumption); intro _))); k_steps) | ((with_reducible (refine Stop.into ?_; (with_reducible show wpAny _ _ (binaryOp Operator.Add (Value.str _ _) (Value.str _ _)) _ _ _); refine add_tail (by omega) ?_; intro _ _)); k_steps) | ((with_reducible (refine Stop.into ?_; (with_reducible show wpAny _ _ (binaryOp Operator.Mult (Value.str _ _) (Value.int _ _)) _ _ _); refine mul_blank (by omega) (by omega) ?_; intro _ _)); k_steps) | fail))
    · rename _ ∧ _ ∧ _ ∧ _ ∧ _ ∧ _ ∧ _ ∧ AllLt _ e => l9
      rename (0 : Int) < _ => hq
      exact rows_turn (e := e) (by k_asm) (by k_asm) l9 off rfl hse hap hJ (dueF_yes hlx (decide_eq_true (p := 0 < cnt left x) (by omega)))
    · rename ¬ (0 : Int) < _ => hq
      exact rows_skip (e := e) (by k_asm) (by k_asm) off hse hap hJ (dueF_no hlx (decide_eq_false (p := 0 < cnt left x) (by omega)))
  case fin =>
    rintro ys n ⟨e, rfl, hse, hap, hJ⟩
    intro D h tk F N o1
    simp only [List.take_succ_cons, List.take_zero, List.cons_append, List.nil_append] at N o1
    have hJ2 : Rows e ys kv1 := by rw [e1]; rw [dueF_all hsz2] at hJ; exact hJ
    have o2 := off1_mem o1
    k_steps
    refine Stop.into ?_
    refine' ne_rows ?N ?ma ?mb ?ra ?rb ?hu ?_
    case N => k_asm
    case ma => k_mem
    case mb => k_mem
    case ra => exact hy.mono (by (iterate 16 (try (first | assumption | exact (fun _ h => h) | refine cons_sub ?_ | refine skip_sub ?_))))
    case rb => exact hJ2.mono (by (iterate 16 (try (first | assumption | exact (fun _ h => h) | refine cons_sub ?_ | refine skip_sub ?_))))
    case hu => first | first | exact unit_a (by assumption) (by decide) | exact unit_b (by assumption) (by decide) | exact unit_c (by assumption) (by decide) | omega | ktr_units | k_units | ke_room | (show _ + 64 < cLine; omega)
    k_steps
    refine Stop.into (Assign_ListComp_PT (_F₀ := by k_asm) (by rfl) (by with_unfolding_all rfl) (by with_unfolding_all rfl) (by decide) (by rfl) (by decide) (by rfl) (by rfl) (by decide) (by rfl) (by rfl) ?_)
    k_steps
    refine Stop.into (SrcPT.ledger (its := ys2.toArray) (k := c2) (RowsJ e 5 _ (dueF (fun p => decide (p.1 ∈ kept)) (fun p => ((cnt left p.1 : Int) + (r : Int)).toNat) last)) (by rfl) (by k_asm) (by k_asm) (by rw [hsz2, sizeLine_eq]; omega) (RowsJ.nil rfl rfl) fun g => ⟨?src, ?turn, ?fin⟩)
    case src =>
      rintro i ys n ⟨e2, rfl, hse2, _, _⟩
      exact List.mem_append_right _ (hse2 _ (hse _ hDl))
    case turn =>
      rintro i v ys n hi hv ⟨e', rfl, hse2, hap2, hJ3⟩
      obtain ⟨a, x, u, t1, t2, rfl, hlx, hm⟩ := hlast.get (by simpa using hv)
      refine ⟨a, _, _, _, _, rfl, List.mem_append_right _ (hse2 _ (hse _ hm)), rfl, rfl, fun I oI C oC D m₂ h tk E' hC hx hx' F N off ne => ?_⟩
      simp only [List.take_succ_cons, List.take_zero, List.cons_append, List.nil_append] at N off
      have hbx := hb x
      have hDf2 := hse2 _ (hse _ hDf)
      have hDk2 := hse2 _ (hse _ hDk)
      (k_steps; repeat' (first | ((with_reducible (refine Stop.into ?_; (with_reducible show wpAny _ _ (subscriptTail (Expr.Name _ _) (Expr.Name _ _) (Value.ref _) (Value.int _ _)) _ _ _); k_dflt (refine' item_cnt ?N ?hm ?hk ?h5 ?_; (case N => k_asm); (case hm => first | assumption | (repeat (first | assumption | refine List.mem_cons_of_mem _ ?_))); (case hk => assumption); (case h5 => assumption); intro _))); k_steps) | ((with_reducible (refine Stop.into ?_; (with_reducible show wpAny _ _ (binaryOp Operator.Add (Value.str _ _) (Value.str _ _)) _ _ _); refine add_tail (by omega) ?_; intro _ _)); k_steps) | ((with_reducible (refine Stop.into ?_; (with_reducible show wpAny _ _ (binaryOp Operator.Mult (Value.str _ _) (Value.int _ _)) _ _ _); refine mul_blank (by omega) (by omega) ?_; intro _ _)); k_steps) | ((with_reducible (refine Stop.into ?_; (with_reducible show wpAny _ _ (compareOp CmpOp.In (Value.int _ _) (Value.ref _)) _ _ _); k_dflt (refine' in_kept ?N ?hm ?hk ?_; (case N => k_asm); (case hm => first | assumption | (repeat (first | assumption | refine List.mem_cons_of_mem _ ?_))); (case hk => assumption)))); k_steps) | fail))
      · rename _ ∧ _ ∧ _ ∧ _ ∧ _ ∧ _ ∧ _ ∧ _ ∧ AllLt _ e' => l9
        rename x ∈ kept => hq
        exact rows_turn (e := e') (by k_asm) (by k_asm) l9 off rfl hse2 hap2 hJ3 (dueF_yes hlx (decide_eq_true (p := x ∈ kept) hq))
      · rename ¬ x ∈ kept => hq
        exact rows_skip (e := e') (by k_asm) (by k_asm) off hse2 hap2 hJ3 (dueF_no hlx (decide_eq_false (p := x ∈ kept) hq))
    case fin =>
      rintro ys n ⟨e', rfl, hse2, hap2, hJ3⟩
      intro D h tk F N o1
      simp only [List.take_succ_cons, List.take_zero, List.cons_append, List.nil_append] at N o1
      have hJ4 : Rows e' ys kv2 := by rw [e2]; rw [fullDue_eq hsz2] at hJ3; exact hJ3
      have o2 := off1_mem o1
      have hHe := hH2.mono (fun p hp => hse2 p (hse p hp))
      obtain ⟨dx3, th3, n3, k3, items3, hx3, hd3, hl3, hr3⟩ := hHe.at_
      have hyl := hJ4.len
      have hsz4 : ys.toArray.size ≤ sizeLine := by rw [sizeLine_eq, List.size_toArray]; omega
      have hsz5 : ys.toArray.size = kv2.length := by rw [List.size_toArray, hyl]
      (k_steps; repeat' (first | ((with_reducible (refine Stop.into ?_; (with_reducible show wpAny _ _ (call (Value.ref _) _ _) _ _ _); k_dflt (first | (refine' ck_useK (keys_c ?hH ?hz) ?kk ?_; (case kk => (refine' CkAt.mk ?k1 ?k2 ?k3 ?k4 ?k5 ?kK ?kd ?ku; ((case k1 => k_asm); (case k2 => k_asm); (case k3 => k_asm); (case k4 => k_asm); (case k5 => k_asm); (case kK => first | exact rfl | assumption); (case kd => first | exact room_a (by assumption) (by decide) | omega | ktr_room | k_room); (case ku => first | exact unit_a (by assumption) (by decide) | exact unit_b (by assumption) (by decide) | exact unit_c (by assumption) (by decide) | omega | ktr_units | k_units)))); (case hH => first | assumption | (refine' HdrAt.mono ?hs9 ?hh9; (case hh9 => assumption); (case hs9 => (intro p hp; (repeat (first | exact hp | assumption | refine List.mem_cons_of_mem _ ?_)))))); (case hz => first | assumption | omega); intro _ _ _ _ _ _ _ _) | (refine' ck_useK (values_c ?hH ?hz) ?kk ?_; (case kk => (refine' CkAt.mk ?k1 ?k2 ?k3 ?k4 ?k5 ?kK ?kd ?ku; ((case k1 => k_asm); (case k2 => k_asm); (case k3 => k_asm); (case k4 => k_asm); (case k5 => k_asm); (case kK => first | exact rfl | assumption); (case kd => first | exact room_a (by assumption) (by decide) | omega | ktr_room | k_room); (case ku => first | exact unit_a (by assumption) (by decide) | exact unit_b (by assumption) (by decide) | exact unit_c (by assumption) (by decide) | omega | ktr_units | k_units)))); (case hH => first | assumption | (refine' HdrAt.mono ?hs9 ?hh9; (case hh9 => assumption); (case hs9 => (intro p hp; (repeat (first | exact hp | assumption | refine List.mem_cons_of_mem _ ?_)))))); (case hz => first | assumption | omega); intro _ _ _ _ _ _ _ _) | (refine' ck_useI (items_c ?hH ?hz) ?kk ?_; (case kk => (refine' CkAt.mk ?k1 ?k2 ?k3 ?k4 ?k5 ?kK ?kd ?ku; ((case k1 => k_asm); (case k2 => k_asm); (case k3 => k_asm); (case k4 => k_asm); (case k5 => k_asm); (case kK => first | exact rfl | assumption); (case kd => first | exact room_a (by assumption) (by decide) | omega | ktr_room | k_room); (case ku => first | exact unit_a (by assumption) (by decide) | exact unit_b (by assumption) (by decide) | exact unit_c (by assumption) (by decide) | omega | ktr_units | k_units)))); (case hH => first | assumption | (refine' HdrAt.mono ?hs9 ?hh9; (case hh9 => assumption); (case hs9 => (intro p hp; (repeat (first | exact hp | assumption | refine List.mem_cons_of_mem _ ?_)))))); (case hz => first | assumption | omega); intro _ _ _ _ _ _ _ _ _)))); k_steps) | ((with_reducible refine Stop.into ?_); (with_reducible show wpAny _ _ _ _ _ _); (fail_if_success (with_reducible show wpAny _ _ (pyIter _) _ _ _)); (fail_if_success (with_reducible show wpAny _ _ (eval (Expr.ListComp _ _ _ _) _) _ _ _)); (fail_if_success (with_reducible show wpAny _ _ (exec (Stmt.Assign _ (Expr.ListComp _ _ _ _) _) _) _ _ _)); (fail_if_success (with_reducible show wpAny _ _ (compareOp CmpOp.NotEq (Value.ref _) (Value.ref _)) _ _ _)); (fail_if_success (with_reducible show wpAny _ _ (compareOp CmpOp.Eq (Value.ref _) (Value.ref _)) _ _ _)); have hNS : NoStop := noStop; walk1; all_goals clear hNS; k_steps) | fail))
      refine Stop.into (LCp.ListComp_P (F₀ := by k_asm) (by with_unfolding_all rfl) (by decide) (by rfl) (by decide) (by rfl) (by rfl) (by decide) ?_)
      k_steps
      refine Stop.into (LCp.SrcLP.ledger (its := ys.toArray) (by rfl) (by k_asm) (by k_asm) (by k_mem) hsz4 fun g => ?_)
      refine compP_indC (n := ys.toArray.size) (J := fun i zs => Keys zs (kv2.take i)) ?turn ?fin _ _ _ (Nat.zero_add _) .nil
      case turn =>
        intro i v zs hi hP hJ
        obtain ⟨a, x', u', n', t1, t2, rfl, hkv, hm⟩ := hJ4.get (by simpa using hP)
        refine ⟨a, _, _, _, _, rfl, by first | assumption | (repeat (first | assumption | refine List.mem_cons_of_mem _ ?_)), rfl, rfl, fun I oI C oC D m₂ h tk E' hC hx1 hx2 F N off ne => ?_⟩
        k_steps
        refine LCg.CompEnd.intro (by k_asm) (by k_asm) _ (fun p hp => hp) off (.inr ⟨_, by k_mem, rfl, _, rfl⟩) ⟨rfl, ?_⟩
        rw [List.take_add_one, hkv]
        exact (Keys.cons .nil).append hJ
      case fin =>
        intro zs hJ
        intro D2 h tk F N o3
        rw [hsz5, List.take_length] at hJ
        k_steps
        refine Stop.into ?_
        refine' ne_keys ?N ?ma ?mb ?ra hJ ?hu ?_
        case N => k_asm
        case ma => k_mem
        case mb => k_mem
        case ra => assumption
        case hu => first | first | exact unit_a (by assumption) (by decide) | exact unit_b (by assumption) (by decide) | exact unit_c (by assumption) (by decide) | omega | ktr_units | k_units | ke_room
        (k_steps; repeat' (first | ((with_reducible (refine Stop.into ?_; (with_reducible show wpAny _ _ (call (Value.ref _) _ _) _ _ _); k_dflt (first | (refine' ck_useK (keys_c ?hH ?hz) ?kk ?_; (case kk => (refine' CkAt.mk ?k1 ?k2 ?k3 ?k4 ?k5 ?kK ?kd ?ku; ((case k1 => k_asm); (case k2 => k_asm); (case k3 => k_asm); (case k4 => k_asm); (case k5 => k_asm); (case kK => first | exact rfl | assumption); (case kd => first | exact room_a (by assumption) (by decide) | omega | ktr_room | k_room); (case ku => first | exact unit_a (by assumption) (by decide) | exact unit_b (by assumption) (by decide) | exact unit_c (by assumption) (by decide) | omega | ktr_units | k_units)))); (case hH => first | assumption | (refine' HdrAt.mono ?hs9 ?hh9; (case hh9 => assumption); (case hs9 => (intro p hp; (repeat (first | exact hp | assumption | refine List.mem_cons_of_mem _ ?_)))))); (case hz => first | assumption | omega); intro _ _ _ _ _ _ _ _) | (refine' ck_useK (values_c ?hH ?hz) ?kk ?_; (case kk => (refine' CkAt.mk ?k1 ?k2 ?k3 ?k4 ?k5 ?kK ?kd ?ku; ((case k1 => k_asm); (case k2 => k_asm); (case k3 => k_asm); (case k4 => k_asm); (case k5 => k_asm); (case kK => first | exact rfl | assumption); (case kd => first | exact room_a (by assumption) (by decide) | omega | ktr_room | k_room); (case ku => first | exact unit_a (by assumption) (by decide) | exact unit_b (by assumption) (by decide) | exact unit_c (by assumption) (by decide) | omega | ktr_units | k_units)))); (case hH => first | assumption | (refine' HdrAt.mono ?hs9 ?hh9; (case hh9 => assumption); (case hs9 => (intro p hp; (repeat (first | exact hp | assumption | refine List.mem_cons_of_mem _ ?_)))))); (case hz => first | assumption | omega); intro _ _ _ _ _ _ _ _) | (refine' ck_useI (items_c ?hH ?hz) ?kk ?_; (case kk => (refine' CkAt.mk ?k1 ?k2 ?k3 ?k4 ?k5 ?kK ?kd ?ku; ((case k1 => k_asm); (case k2 => k_asm); (case k3 => k_asm); (case k4 => k_asm); (case k5 => k_asm); (case kK => first | exact rfl | assumption); (case kd => first | exact room_a (by assumption) (by decide) | omega | ktr_room | k_room); (case ku => first | exact unit_a (by assumption) (by decide) | exact unit_b (by assumption) (by decide) | exact unit_c (by assumption) (by decide) | omega | ktr_units | k_units)))); (case hH => first | assumption | (refine' HdrAt.mono ?hs9 ?hh9; (case hh9 => assumption); (case hs9 => (intro p hp; (repeat (first | exact hp | assumption | refine List.mem_cons_of_mem _ ?_)))))); (case hz => first | assumption | omega); intro _ _ _ _ _ _ _ _ _)))); k_steps) | ((with_reducible refine Stop.into ?_); (with_reducible show wpAny _ _ _ _ _ _); (fail_if_success (with_reducible show wpAny _ _ (pyIter _) _ _ _)); (fail_if_success (with_reducible show wpAny _ _ (eval (Expr.ListComp _ _ _ _) _) _ _ _)); (fail_if_success (with_reducible show wpAny _ _ (exec (Stmt.Assign _ (Expr.ListComp _ _ _ _) _) _) _ _ _)); (fail_if_success (with_reducible show wpAny _ _ (compareOp CmpOp.NotEq (Value.ref _) (Value.ref _)) _ _ _)); (fail_if_success (with_reducible show wpAny _ _ (compareOp CmpOp.Eq (Value.ref _) (Value.ref _)) _ _ _)); have hNS : NoStop := noStop; walk1; all_goals clear hNS; k_steps) | fail))
        refine Stop.into (LCp.ListComp_P (F₀ := by k_asm) (by with_unfolding_all rfl) (by decide) (by rfl) (by decide) (by rfl) (by rfl) (by decide) ?_)
        k_steps
        refine Stop.into (LCp.SrcLP.ledger (its := ys.toArray) (by rfl) (by k_asm) (by k_asm) (by k_mem) hsz4 fun g => ?_)
        refine compP_indC (n := ys.toArray.size) (J := fun i zs => Vals zs (kv2.take i)) ?turn ?fin _ _ _ (Nat.zero_add _) .nil
        case turn =>
          intro i v zs hi hP hJ
          obtain ⟨a, x', u', n', t1, t2, rfl, hkv, hm⟩ := hJ4.get (by simpa using hP)
          refine ⟨a, _, _, _, _, rfl, by first | assumption | (repeat (first | assumption | refine List.mem_cons_of_mem _ ?_)), rfl, rfl, fun I oI C oC D m₂ h tk E' hC hx1 hx2 F N off ne => ?_⟩
          k_steps
          refine LCg.CompEnd.intro (by k_asm) (by k_asm) _ (fun p hp => hp) off (.inr ⟨_, by k_mem, rfl, _, rfl⟩) ⟨rfl, ?_⟩
          rw [List.take_add_one, hkv]
          exact (Vals.cons .nil).append hJ
        case fin =>
          intro zs2 hJ
          intro D2 h tk F N o3
          rw [hsz5, List.take_length] at hJ
          k_steps
          refine Stop.into ?_
          refine' ne_vals ?N ?ma ?mb ?ra hJ ?hu ?_
          case N => k_asm
          case ma => k_mem
          case mb => k_mem
          case ra => assumption
          case hu => first | first | exact unit_a (by assumption) (by decide) | exact unit_b (by assumption) (by decide) | exact unit_c (by assumption) (by decide) | omega | ktr_units | k_units | ke_room
          (k_steps; repeat' (first | ((with_reducible (refine Stop.into ?_; (with_reducible show wpAny _ _ (call (Value.ref _) _ _) _ _ _); k_dflt (first | (refine' ck_useK (keys_c ?hH ?hz) ?kk ?_; (case kk => (refine' CkAt.mk ?k1 ?k2 ?k3 ?k4 ?k5 ?kK ?kd ?ku; ((case k1 => k_asm); (case k2 => k_asm); (case k3 => k_asm); (case k4 => k_asm); (case k5 => k_asm); (case kK => first | exact rfl | assumption); (case kd => first | exact room_a (by assumption) (by decide) | omega | ktr_room | k_room); (case ku => first | exact unit_a (by assumption) (by decide) | exact unit_b (by assumption) (by decide) | exact unit_c (by assumption) (by decide) | omega | ktr_units | k_units)))); (case hH => first | assumption | (refine' HdrAt.mono ?hs9 ?hh9; (case hh9 => assumption); (case hs9 => (intro p hp; (repeat (first | exact hp | assumption | refine List.mem_cons_of_mem _ ?_)))))); (case hz => first | assumption | omega); intro _ _ _ _ _ _ _ _) | (refine' ck_useK (values_c ?hH ?hz) ?kk ?_; (case kk => (refine' CkAt.mk ?k1 ?k2 ?k3 ?k4 ?k5 ?kK ?kd ?ku; ((case k1 => k_asm); (case k2 => k_asm); (case k3 => k_asm); (case k4 => k_asm); (case k5 => k_asm); (case kK => first | exact rfl | assumption); (case kd => first | exact room_a (by assumption) (by decide) | omega | ktr_room | k_room); (case ku => first | exact unit_a (by assumption) (by decide) | exact unit_b (by assumption) (by decide) | exact unit_c (by assumption) (by decide) | omega | ktr_units | k_units)))); (case hH => first | assumption | (refine' HdrAt.mono ?hs9 ?hh9; (case hh9 => assumption); (case hs9 => (intro p hp; (repeat (first | exact hp | assumption | refine List.mem_cons_of_mem _ ?_)))))); (case hz => first | assumption | omega); intro _ _ _ _ _ _ _ _) | (refine' ck_useI (items_c ?hH ?hz) ?kk ?_; (case kk => (refine' CkAt.mk ?k1 ?k2 ?k3 ?k4 ?k5 ?kK ?kd ?ku; ((case k1 => k_asm); (case k2 => k_asm); (case k3 => k_asm); (case k4 => k_asm); (case k5 => k_asm); (case kK => first | exact rfl | assumption); (case kd => first | exact room_a (by assumption) (by decide) | omega | ktr_room | k_room); (case ku => first | exact unit_a (by assumption) (by decide) | exact unit_b (by assumption) (by decide) | exact unit_c (by assumption) (by decide) | omega | ktr_units | k_units)))); (case hH => first | assumption | (refine' HdrAt.mono ?hs9 ?hh9; (case hh9 => assumption); (case hs9 => (intro p hp; (repeat (first | exact hp | assumption | refine List.mem_cons_of_mem _ ?_)))))); (case hz => first | assumption | omega); intro _ _ _ _ _ _ _ _ _)))); k_steps) | ((with_reducible refine Stop.into ?_); (with_reducible show wpAny _ _ _ _ _ _); (fail_if_success (with_reducible show wpAny _ _ (pyIter _) _ _ _)); (fail_if_success (with_reducible show wpAny _ _ (eval (Expr.ListComp _ _ _ _) _) _ _ _)); (fail_if_success (with_reducible show wpAny _ _ (exec (Stmt.Assign _ (Expr.ListComp _ _ _ _) _) _) _ _ _)); (fail_if_success (with_reducible show wpAny _ _ (compareOp CmpOp.NotEq (Value.ref _) (Value.ref _)) _ _ _)); (fail_if_success (with_reducible show wpAny _ _ (compareOp CmpOp.Eq (Value.ref _) (Value.ref _)) _ _ _)); have hNS : NoStop := noStop; walk1; all_goals clear hNS; k_steps) | fail))
          rename Rows _ _ kv2 => hy3
          refine Stop.into ?_
          refine' eq_rows ?N ?ma ?mb ?ra ?rb ?hu ?_
          case N => k_asm
          case ma => k_mem
          case mb => k_mem
          case ra => exact hy3.mono (by (iterate 16 (try (first | assumption | exact (fun _ h => h) | refine cons_sub ?_ | refine skip_sub ?_))))
          case rb => exact hJ4.mono (by (iterate 16 (try (first | assumption | exact (fun _ h => h) | refine cons_sub ?_ | refine skip_sub ?_))))
          case hu => first | first | exact unit_a (by assumption) (by decide) | exact unit_b (by assumption) (by decide) | exact unit_c (by assumption) (by decide) | omega | ktr_units | k_units | ke_room
          k_steps
          refine hret _ _ _ _ (by k_asm) (cb_drop (news := news) (by k_asm) ?_) ⟨rfl, rfl⟩
          exact sub_tr (sub_tr hse hse2) (by (iterate 16 (try (first | assumption | exact (fun _ h => h) | refine cons_sub ?_ | refine skip_sub ?_))))
end
end
section
def dueT (c : Nat) : Str := if c = 0 then Str.ofString "\t" else if c = 1 then Str.ofString "\t " else pad (c - 2)
theorem stripP_due (c r : Nat) : stripP (c + r) (r + 2) = dueT c := by
  unfold stripP dueT
  by_cases h0 : c = 0
  · rw [if_pos h0, if_neg (by omega), show min (r + 2 - (c + r)) 2 = 2 by omega]
    decide +kernel
  · rw [if_neg h0]
    by_cases h1 : c = 1
    · rw [if_pos h1, if_neg (by omega), show min (r + 2 - (c + r)) 2 = 1 by omega]
      decide +kernel
    · rw [if_neg h1, if_pos (by omega), show c + r - (r + 2) = c - 2 by omega]
theorem stripP_bare (n : Nat) : stripP n (n + 4) = Str.ofString "\t" := by
  unfold stripP
  rw [if_neg (by omega), show min (n + 4 - n) 2 = 2 by omega]
  decide +kernel
section
variable {prog : Program} {w : World} {A : Around} {E : Value → Shared → Prop} {s : Shared} {h₀ : Heap} {L D : Addr} {news : List (Addr × Obj)} {value slice : Expr} {k : Nat} {u t1 t2 t3 : Tok} {Q : Value → Shared → Prop}
theorem item_due {c : Nat} (N : News h₀ L s.heap news) (hm : (D, listOf #[.str (Str.ofString "\t") t1, .str (Str.ofString "\t ") t2, .str (pad ((c : Int) - 2).toNat) t3] k) ∈ news) (h : ∀ t, Q (.str (dueT c) t) s)
    (hs : subscripted slice false (.ref D) (.int (if (2 : Int) < (c : Int) then 2 else (c : Int)) u) = operate [.ref D, .int (if (2 : Int) < (c : Int) then 2 else (c : Int)) u] (getItem (.ref D) (.int (if (2 : Int) < (c : Int) then 2 else (c : Int)) u)) := by with_unfolding_all rfl) (hg : ∀ r, letTemporaryGo value (.ref D) r = pure () := by intro _; with_unfolding_all rfl) :
    wpAny (model prog w) A (subscriptTail value slice (.ref D) (.int (if (2 : Int) < (c : Int) then 2 else (c : Int)) u)) Q E s := by
  have key : ∃ t, [Value.str (Str.ofString "\t") t1, .str (Str.ofString "\t ") t2, .str (pad ((c : Int) - 2).toNat) t3][((if (2 : Int) < (c : Int) then 2 else (c : Int)) : Int).toNat]? = some (.str (dueT c) t) := by
    unfold dueT
    by_cases h0 : c = 0
    · subst h0; exact ⟨t1, rfl⟩
    · by_cases h1 : c = 1
      · subst h1; exact ⟨t2, rfl⟩
      · refine ⟨t3, ?_⟩
        rw [if_neg h0, if_neg h1, show ((if (2 : Int) < (c : Int) then 2 else (c : Int)) : Int).toNat = 2 by split <;> omega, show ((c : Int) - 2).toNat = c - 2 by omega]
        rfl
  obtain ⟨t, e⟩ := key
  exact kim_list N hm rfl rfl (by split <;> omega) (by split <;> omega) e (h t) hs hg
end
theorem strip_due {w : World} {mean : ExcName → Option Value} {mg mb : Str → Option Value} {news : List (Addr × Obj)} {c r : Nat} (hn : c + r ≤ 1000) {t t' : Tok} :
    CkClaim w mean mg mb 1 52 news [.str (pad (c + r)) t, .int ((r : Int) + 2) t'] [] (fun v news' => (∃ t, v = .str (dueT c) t) ∧ news = news') := by
  have h := strip_c (w := w) (mean := mean) (mg := mg) (mb := mb) (news := news) (k := r + 2) hn (by omega) (t := t) (t' := t')
  rw [stripP_due] at h
  exact h
theorem strip_bare {w : World} {mean : ExcName → Option Value} {mg mb : Str → Option Value} {news : List (Addr × Obj)} {n : Nat} (hn : n ≤ 1000) {t t' : Tok} :
    CkClaim w mean mg mb 1 52 news [.str (pad n) t, .int (((pad n).length : Nat) + 1 : Int) t'] [] (fun v news' => (∃ t, v = .str (Str.ofString "\t") t) ∧ news = news') := by
  have h := strip_c (w := w) (mean := mean) (mg := mg) (mb := mb) (news := news) (k := n + 4) hn (by omega) (t := t) (t' := t')
  rw [stripP_bare] at h
  rw [len_pad]
  exact h
end
section
section
variable {w : World} {mean : ExcName → Option Value} {mg mb : Str → Option Value} {news : List (Addr × Obj)} {x2 l2 Dl Dk Df : Addr} {kv2 : List KV}
theorem bared_c {left : List Nat} {last : List LV} {kept : List (Fin 5)} {r : Nat} {ys1 ys2 ys3 : List Value} {c1 c2 c3 : Nat} {t : Tok} (hH2 : HdrAt w news x2 l2 kv2)
    (hDf : (Df, listOf ys1.toArray c1) ∈ news) (hleft : Cnts ys1 left) (h5 : left.length = 5) (hDl : (Dl, listOf ys2.toArray c2) ∈ news) (hlast : Lasts news ys2 last) (hDk : (Dk, listOf ys3.toArray c3) ∈ news) (hkept : Kepts ys3 kept)
    (hz : last.length ≤ 10) (hb : ∀ x : Fin 5, cnt left x ≤ 100) (hr : r ≤ 100) (hk2 : ∀ x ∈ kept, getK x kv2 = some (cnt left x + r)) :
    CkClaim w mean mg mb 20 230 news [.ref x2, .ref Df, .int r t, .ref Dl, .ref Dk] [] (fun v news' => v = .bool true ∧ news = news') := by
  dsimp only [CkClaim]
  intros
  rename_i hret
  obtain ⟨dx2, th2, n2, k2, items2, hx2, hd2, hl2, hr2⟩ := hH2.at_
  (refine wpAny_call ?_; (k_dflt (first | (refine' code_def ?k1 ?k2 ?k3 ?k4 ?k5 ?kA ?kF ?kK ?k6 ?k7 ?k8 ?k9 ?kB ?_ ?c2 ?c3 ?c4 ?c5; (case kA => exact rfl); (case kF => exact rfl); (case kK => first | exact rfl | assumption); (case k1 => k_asm); (case k2 => k_asm); (case k3 => k_asm); (case k4 => k_asm); (case k5 => k_asm); (case k6 => k_is); (case k7 => k_is); (case k8 => first | exact room_a (by assumption) (by decide) | omega | ktr_room | k_room); (case k9 => first | exact BindsTo.of_eq rfl | exact binds_K (by k_in) rfl (by k_is) rfl rfl rfl); (case c5 => decide); (case kB => exact locs rfl); (case c2 => exact rfl); (case c3 => exact rfl); (case c4 => exact rfl); k_whole; intro gE LE hE FGE FE NE BE XE TE; (try dsimp only); (try k_lift BE); (try k_fold)) | (refine' code_defC ?k1 ?k2 ?k3 ?k4 ?k5 ?kA ?kF ?kK ?k6 ?k7 ?k8 ?k9 ?kB ?kD ?_ ?c2 ?c3 ?c4; (case kA => exact rfl); (case kF => exact rfl); (case kK => first | exact rfl | assumption); (case k1 => k_asm); (case k2 => k_asm); (case k3 => k_asm); (case k4 => k_asm); (case k5 => k_asm); (case k6 => k_is); (case k7 => k_is); (case k8 => first | exact room_a (by assumption) (by decide) | omega | ktr_room | k_room); (case k9 => first | exact BindsTo.of_eq rfl | exact binds_K (by k_in) rfl (by k_is) rfl rfl rfl); (case kB => exact rfl); (case kD => decide +kernel); (case c2 => exact rfl); (case c3 => exact rfl); (case c4 => exact rfl); k_whole; intro gE LE hE tkE cells' FGE FE NE YE BE XE TE lE; (try k_lt lE); k_cells YE; (try simp only [List.cons_append, List.nil_append] at NE); (try dsimp only); (try k_lift BE); (try k_fold)))))
  k_steps
  refine Stop.into (iter_listTurns (vs := ys2) rfl (by k_asm) (by k_asm) hDl rfl rfl fun I hI => ?_)
  refine items_ind (I := I) [Str.ofString "x", Str.ofString "flag", Str.ofString "line", Str.ofString "due"] (fun r n' => news = n' ∧ ∃ l', Lasts news r l' ∧ ∀ p ∈ l', p ∈ last) ?turn ?done ys2 _ news (fun _ _ => rfl) ⟨rfl, last, hlast, fun _ h => h⟩
  case turn =>
    rintro v r n' u h tk o ⟨rfl, l', hr', hs'⟩ hc F N
    cases hr'
    rename_i a' x' u' t1 t2 l' hm hr'
    have hbx := hb x'
    by_cases hk : x' ∈ kept
    · have hg := hk2 _ hk
      (k_steps; repeat' (first | ((with_reducible (refine Stop.into ?_; (with_reducible show wpAny _ _ (subscriptTail (Expr.Name _ _) (Expr.Name _ _) (Value.ref _) (Value.int _ _)) _ _ _); k_dflt (refine' item_cnt ?N ?hm ?hk ?h5 ?_; (case N => k_asm); (case hm => first | assumption | (repeat (first | assumption | refine List.mem_cons_of_mem _ ?_))); (case hk => assumption); (case h5 => assumption); intro _))); k_steps) | ((with_reducible (refine Stop.into ?_; (with_reducible show wpAny _ _ (binaryOp Operator.Add (Value.str _ _) (Value.str _ _)) _ _ _); refine add_tail (by omega) ?_; intro _ _)); k_steps) | ((with_reducible (refine Stop.into ?_; (with_reducible show wpAny _ _ (binaryOp Operator.Mult (Value.str _ _) (Value.int _ _)) _ _ _); refine mul_blank (by omega) (by omega) ?_; intro _ _)); k_steps) | ((with_reducible (refine Stop.into ?_; (with_reducible show wpAny _ _ (compareOp CmpOp.In (Value.int _ _) (Value.ref _)) _ _ _); k_dflt (refine' in_kept ?N ?hm ?hk ?_; (case N => k_asm); (case hm => first | assumption | (repeat (first | assumption | refine List.mem_cons_of_mem _ ?_))); (case hk => assumption)))); k_steps) | ((with_reducible (refine Stop.into ?_; (with_reducible show wpAny _ _ (call (Value.builtin "len") [Value.str _ _]) _ _ _); (refine P.len_str (by first | (rw [len_pad]; omega) | omega) ?_))); k_steps) | ((with_reducible (refine Stop.into ?_; (with_reducible show wpAny _ _ (call (Value.builtin "str.swapcase") _ _) _ _ _); refine KXw.swapcase (swap_fs _ _) (tl_swap _ _) ?_; intro _ _)); k_steps) | ((with_reducible (refine Stop.into ?_; (with_reducible show wpAny _ _ (call (Value.ref _) _ _) _ _ _); k_dflt (first | (refine' ck_useT (strip_due ?hn) ?kk ?_; (case kk => (refine' CkAt.mk ?k1 ?k2 ?k3 ?k4 ?k5 ?kK ?kd ?ku; ((case k1 => k_asm); (case k2 => k_asm); (case k3 => k_asm); (case k4 => k_asm); (case k5 => k_asm); (case kK => first | exact rfl | assumption); (case kd => first | exact room_a (by assumption) (by decide) | omega | ktr_room | k_room); (case ku => first | exact unit_a (by assumption) (by decide) | exact unit_b (by assumption) (by decide) | exact unit_c (by assumption) (by decide) | omega | ktr_units | k_units)))); (case hn => first | assumption | omega); intro _ _ _ _ _) | (refine' ck_useT (strip_bare ?hn) ?kk ?_; (case kk => (refine' CkAt.mk ?k1 ?k2 ?k3 ?k4 ?k5 ?kK ?kd ?ku; ((case k1 => k_asm); (case k2 => k_asm); (case k3 => k_asm); (case k4 => k_asm); (case k5 => k_asm); (case kK => first | exact rfl | assumption); (case kd => first | exact room_a (by assumption) (by decide) | omega | ktr_room | k_room); (case ku => first | exact unit_a (by assumption) (by decide) | exact unit_b (by assumption) (by decide) | exact unit_c (by assumption) (by decide) | omega | ktr_units | k_units)))); (case hn => first | assumption | omega); intro _ _ _ _ _)))); k_steps) | ((with_reducible (refine Stop.into ?_; (with_reducible show wpAny _ _ (call (Value.ref _) _ _) _ _ _); k_dflt (first | (refine' ck_useT (get_some ?hH ?hn) ?kk ?_; (case kk => (refine' CkAt.mk ?k1 ?k2 ?k3 ?k4 ?k5 ?kK ?kd ?ku; ((case k1 => k_asm); (case k2 => k_asm); (case k3 => k_asm); (case k4 => k_asm); (case k5 => k_asm); (case kK => first | exact rfl | assumption); (case kd => first | exact room_a (by assumption) (by decide) | omega | ktr_room | k_room); (case ku => first | exact unit_a (by assumption) (by decide) | exact unit_b (by assumption) (by decide) | exact unit_c (by assumption) (by decide) | omega | ktr_units | k_units)))); (case hH => first | assumption | (refine' HdrAt.mono ?hs9 ?hh9; (case hh9 => assumption); (case hs9 => (intro p hp; (repeat (first | exact hp | assumption | refine List.mem_cons_of_mem _ ?_)))))); (case hn => assumption); intro _ _ _ _ _) | (refine' ck_use0 (get_none ?hH ?hn) ?kk ?_; (case kk => (refine' CkAt.mk ?k1 ?k2 ?k3 ?k4 ?k5 ?kK ?kd ?ku; ((case k1 => k_asm); (case k2 => k_asm); (case k3 => k_asm); (case k4 => k_asm); (case k5 => k_asm); (case kK => first | exact rfl | assumption); (case kd => first | exact room_a (by assumption) (by decide) | omega | ktr_room | k_room); (case ku => first | exact unit_a (by assumption) (by decide) | exact unit_b (by assumption) (by decide) | exact unit_c (by assumption) (by decide) | omega | ktr_units | k_units)))); (case hH => first | assumption | (refine' HdrAt.mono ?hs9 ?hh9; (case hh9 => assumption); (case hs9 => (intro p hp; (repeat (first | exact hp | assumption | refine List.mem_cons_of_mem _ ?_)))))); (case hn => assumption); intro _ _ _ _)))); k_steps) | ((with_reducible (refine Stop.into ?_; (with_reducible show wpAny _ _ (subscriptTail _ _ _ _) _ _ _); k_dflt (refine' item_due ?N ?hm ?_; (case N => k_asm); (case hm => k_mem); intro _))); k_steps) | ((with_reducible refine Stop.into ?_); (with_reducible show wpAny _ _ _ _ _ _); (fail_if_success (with_reducible show wpAny _ _ (pyIter _) _ _ _)); have hNS : NoStop := noStop; walk1; all_goals clear hNS; k_steps) | fail))
      all_goals first
      | (exfalso; contradiction)
      | (exfalso; rename (_ != _) = true => hq; simp at hq; done)
      | (refine Stop.into ?_; refine turn_end (by k_asm) (by k_asm) (by (iterate 8 (try (first | exact List.Mem.head _ | refine List.Mem.tail _ ?_)))) (by (iterate 16 (try (first | assumption | exact (fun _ h => h) | refine cons_sub ?_ | refine skip_sub ?_)))) (fun p hp => Nat.ne_of_lt (hI p hp)) ⟨⟨hDl, trivial⟩, ?_, rfl, _, hr', fun p hp => hs' p (List.mem_cons_of_mem _ hp)⟩; (intro z hz; (try dsimp only); (repeat' (first | exact ovr_off hz | refine (off_if hz (by simp)).trans ?_))))
    · cases hg : getK x' kv2 with
      | none =>
        (k_steps; repeat' (first | ((with_reducible (refine Stop.into ?_; (with_reducible show wpAny _ _ (subscriptTail (Expr.Name _ _) (Expr.Name _ _) (Value.ref _) (Value.int _ _)) _ _ _); k_dflt (refine' item_cnt ?N ?hm ?hk ?h5 ?_; (case N => k_asm); (case hm => first | assumption | (repeat (first | assumption | refine List.mem_cons_of_mem _ ?_))); (case hk => assumption); (case h5 => assumption); intro _))); k_steps) | ((with_reducible (refine Stop.into ?_; (with_reducible show wpAny _ _ (binaryOp Operator.Add (Value.str _ _) (Value.str _ _)) _ _ _); refine add_tail (by omega) ?_; intro _ _)); k_steps) | ((with_reducible (refine Stop.into ?_; (with_reducible show wpAny _ _ (binaryOp Operator.Mult (Value.str _ _) (Value.int _ _)) _ _ _); refine mul_blank (by omega) (by omega) ?_; intro _ _)); k_steps) | ((with_reducible (refine Stop.into ?_; (with_reducible show wpAny _ _ (compareOp CmpOp.In (Value.int _ _) (Value.ref _)) _ _ _); k_dflt (refine' in_kept ?N ?hm ?hk ?_; (case N => k_asm); (case hm => first | assumption | (repeat (first | assumption | refine List.mem_cons_of_mem _ ?_))); (case hk => assumption)))); k_steps) | ((with_reducible (refine Stop.into ?_; (with_reducible show wpAny _ _ (call (Value.builtin "str.swapcase") _ _) _ _ _); refine KXw.swapcase (swap_fs _ _) (tl_swap _ _) ?_; intro _ _)); k_steps) | ((with_reducible (refine Stop.into ?_; (with_reducible show wpAny _ _ (call (Value.ref _) _ _) _ _ _); k_dflt (first | (refine' ck_useT (get_some ?hH ?hn) ?kk ?_; (case kk => (refine' CkAt.mk ?k1 ?k2 ?k3 ?k4 ?k5 ?kK ?kd ?ku; ((case k1 => k_asm); (case k2 => k_asm); (case k3 => k_asm); (case k4 => k_asm); (case k5 => k_asm); (case kK => first | exact rfl | assumption); (case kd => first | exact room_a (by assumption) (by decide) | omega | ktr_room | k_room); (case ku => first | exact unit_a (by assumption) (by decide) | exact unit_b (by assumption) (by decide) | exact unit_c (by assumption) (by decide) | omega | ktr_units | k_units)))); (case hH => first | assumption | (refine' HdrAt.mono ?hs9 ?hh9; (case hh9 => assumption); (case hs9 => (intro p hp; (repeat (first | exact hp | assumption | refine List.mem_cons_of_mem _ ?_)))))); (case hn => assumption); intro _ _ _ _ _) | (refine' ck_use0 (get_none ?hH ?hn) ?kk ?_; (case kk => (refine' CkAt.mk ?k1 ?k2 ?k3 ?k4 ?k5 ?kK ?kd ?ku; ((case k1 => k_asm); (case k2 => k_asm); (case k3 => k_asm); (case k4 => k_asm); (case k5 => k_asm); (case kK => first | exact rfl | assumption); (case kd => first | exact room_a (by assumption) (by decide) | omega | ktr_room | k_room); (case ku => first | exact unit_a (by assumption) (by decide) | exact unit_b (by assumption) (by decide) | exact unit_c (by assumption) (by decide) | omega | ktr_units | k_units)))); (case hH => first | assumption | (refine' HdrAt.mono ?hs9 ?hh9; (case hh9 => assumption); (case hs9 => (intro p hp; (repeat (first | exact hp | assumption | refine List.mem_cons_of_mem _ ?_)))))); (case hn => assumption); intro _ _ _ _)))); k_steps) | ((with_reducible (refine Stop.into ?_; (with_reducible show wpAny _ _ (subscriptTail _ _ _ _) _ _ _); k_dflt (refine' item_due ?N ?hm ?_; (case N => k_asm); (case hm => k_mem); intro _))); k_steps) | ((with_reducible refine Stop.into ?_); (with_reducible show wpAny _ _ _ _ _ _); (fail_if_success (with_reducible show wpAny _ _ (pyIter _) _ _ _)); have hNS : NoStop := noStop; walk1; all_goals clear hNS; k_steps) | fail))
        all_goals first
        | (exfalso; contradiction)
        | (exfalso; rename (_ != _) = true => hq; simp at hq; done)
        | (refine Stop.into ?_; refine turn_end (by k_asm) (by k_asm) (by (iterate 8 (try (first | exact List.Mem.head _ | refine List.Mem.tail _ ?_)))) (by (iterate 16 (try (first | assumption | exact (fun _ h => h) | refine cons_sub ?_ | refine skip_sub ?_)))) (fun p hp => Nat.ne_of_lt (hI p hp)) ⟨⟨hDl, trivial⟩, ?_, rfl, _, hr', fun p hp => hs' p (List.mem_cons_of_mem _ hp)⟩; (intro z hz; (try dsimp only); (repeat' (first | exact ovr_off hz | refine (off_if hz (by simp)).trans ?_))))
      | some n =>
        (k_steps; repeat' (first | ((with_reducible (refine Stop.into ?_; (with_reducible show wpAny _ _ (subscriptTail (Expr.Name _ _) (Expr.Name _ _) (Value.ref _) (Value.int _ _)) _ _ _); k_dflt (refine' item_cnt ?N ?hm ?hk ?h5 ?_; (case N => k_asm); (case hm => first | assumption | (repeat (first | assumption | refine List.mem_cons_of_mem _ ?_))); (case hk => assumption); (case h5 => assumption); intro _))); k_steps) | ((with_reducible (refine Stop.into ?_; (with_reducible show wpAny _ _ (binaryOp Operator.Add (Value.str _ _) (Value.str _ _)) _ _ _); refine add_tail (by omega) ?_; intro _ _)); k_steps) | ((with_reducible (refine Stop.into ?_; (with_reducible show wpAny _ _ (binaryOp Operator.Mult (Value.str _ _) (Value.int _ _)) _ _ _); refine mul_blank (by omega) (by omega) ?_; intro _ _)); k_steps) | ((with_reducible (refine Stop.into ?_; (with_reducible show wpAny _ _ (compareOp CmpOp.In (Value.int _ _) (Value.ref _)) _ _ _); k_dflt (refine' in_kept ?N ?hm ?hk ?_; (case N => k_asm); (case hm => first | assumption | (repeat (first | assumption | refine List.mem_cons_of_mem _ ?_))); (case hk => assumption)))); k_steps) | ((with_reducible (refine Stop.into ?_; (with_reducible show wpAny _ _ (call (Value.builtin "str.swapcase") _ _) _ _ _); refine KXw.swapcase (swap_fs _ _) (tl_swap _ _) ?_; intro _ _)); k_steps) | ((with_reducible (refine Stop.into ?_; (with_reducible show wpAny _ _ (call (Value.ref _) _ _) _ _ _); k_dflt (first | (refine' ck_useT (get_some ?hH ?hn) ?kk ?_; (case kk => (refine' CkAt.mk ?k1 ?k2 ?k3 ?k4 ?k5 ?kK ?kd ?ku; ((case k1 => k_asm); (case k2 => k_asm); (case k3 => k_asm); (case k4 => k_asm); (case k5 => k_asm); (case kK => first | exact rfl | assumption); (case kd => first | exact room_a (by assumption) (by decide) | omega | ktr_room | k_room); (case ku => first | exact unit_a (by assumption) (by decide) | exact unit_b (by assumption) (by decide) | exact unit_c (by assumption) (by decide) | omega | ktr_units | k_units)))); (case hH => first | assumption | (refine' HdrAt.mono ?hs9 ?hh9; (case hh9 => assumption); (case hs9 => (intro p hp; (repeat (first | exact hp | assumption | refine List.mem_cons_of_mem _ ?_)))))); (case hn => assumption); intro _ _ _ _ _) | (refine' ck_use0 (get_none ?hH ?hn) ?kk ?_; (case kk => (refine' CkAt.mk ?k1 ?k2 ?k3 ?k4 ?k5 ?kK ?kd ?ku; ((case k1 => k_asm); (case k2 => k_asm); (case k3 => k_asm); (case k4 => k_asm); (case k5 => k_asm); (case kK => first | exact rfl | assumption); (case kd => first | exact room_a (by assumption) (by decide) | omega | ktr_room | k_room); (case ku => first | exact unit_a (by assumption) (by decide) | exact unit_b (by assumption) (by decide) | exact unit_c (by assumption) (by decide) | omega | ktr_units | k_units)))); (case hH => first | assumption | (refine' HdrAt.mono ?hs9 ?hh9; (case hh9 => assumption); (case hs9 => (intro p hp; (repeat (first | exact hp | assumption | refine List.mem_cons_of_mem _ ?_)))))); (case hn => assumption); intro _ _ _ _)))); k_steps) | ((with_reducible (refine Stop.into ?_; (with_reducible show wpAny _ _ (subscriptTail _ _ _ _) _ _ _); k_dflt (refine' item_due ?N ?hm ?_; (case N => k_asm); (case hm => k_mem); intro _))); k_steps) | ((with_reducible refine Stop.into ?_); (with_reducible show wpAny _ _ _ _ _ _); (fail_if_success (with_reducible show wpAny _ _ (pyIter _) _ _ _)); have hNS : NoStop := noStop; walk1; all_goals clear hNS; k_steps) | fail))
        all_goals first
        | (exfalso; contradiction)
        | (exfalso; rename (_ != _) = true => hq; simp at hq; done)
        | (refine Stop.into ?_; refine turn_end (by k_asm) (by k_asm) (by (iterate 8 (try (first | exact List.Mem.head _ | refine List.Mem.tail _ ?_)))) (by (iterate 16 (try (first | assumption | exact (fun _ h => h) | refine cons_sub ?_ | refine skip_sub ?_)))) (fun p hp => Nat.ne_of_lt (hI p hp)) ⟨⟨hDl, trivial⟩, ?_, rfl, _, hr', fun p hp => hs' p (List.mem_cons_of_mem _ hp)⟩; (intro z hz; (try dsimp only); (repeat' (first | exact ovr_off hz | refine (off_if hz (by simp)).trans ?_))))
  case done =>
    rintro n' u h tk ⟨rfl, l', hr', hs'⟩ F N
    cases hr'
    k_steps
    exact hret _ _ _ _ (by k_asm) (by k_asm) ⟨rfl, rfl⟩
end
end
section
open PySem.Sre in
section
open PySem.Sre
/-- a state of the machine over the flags' pattern -/
structure St (t : Array Nat) (m : Sre.M) (pc pos : Nat) (fr : List Sre.Frame) (mk : Array (Option Nat)) (lm li : Int) (wt : Nat) (ans : Option Bool) : Prop where
  code : m.code = codeF
  text : m.text = t
  lim : m.lim = t.size
  out : m.outcome = none
  inner : m.inner = none
  whole : m.wholeText = false
  must : m.mustAdvance = false
  om : m.outermost = true
  hpc : m.pc = pc
  hpos : m.pos = pos
  hfr : m.frames = fr
  hmk : m.marks = mk
  hlm : m.lastmark = lm
  hli : m.lastindex = li
  hw : m.weight = wt
  hans : m.answer = ans
theorem step_exec {t : Array Nat} {m : Sre.M} {pc pos : Nat} {fr : List Sre.Frame} {mk : Array (Option Nat)} {lm li : Int} {wt : Nat} (h : St t m pc pos fr mk lm li wt none) (hp : pc < 39) : m.step = m.exec := by
  unfold Sre.M.step
  rw [h.out, h.hans]
  simp only [Option.isSome_none, Bool.false_eq_true, if_false]
  rw [if_pos (by rw [h.hpc, h.code]; exact hp)]
theorem lit_ok {t : Array Nat} {m : Sre.M} {pc pos c : Nat} {fr : List Sre.Frame} {mk : Array (Option Nat)} {lm li : Int} {wt : Nat} (h : St t m pc pos fr mk lm li wt none) (hp : pc < 39) (hop : codeF.getD pc 0 = 16) (hc : codeF.getD (pc + 1) 0 = c)
    (hl : pos < t.size) (ht : t.getD pos 0 = c) : St t m.step (pc + 2) (pos + 1) fr mk lm li wt none := by
  rw [step_exec h hp]
  have hw0 : m.word 0 = 16 := by unfold Sre.M.word; rw [h.code, h.hpc]; exact hop
  have ho : ops[(16 : Nat)]? = some .LITERAL := rfl
  unfold Sre.M.exec
  rw [hw0, ho]
  dsimp only
  rw [if_neg (by rw [h.hpos, h.lim]; omega)]
  have ha : ∀ seen, accepts m.code m.pc (m.text.getD m.pos 0) seen = .ok (true, seen) := by
    intro seen
    unfold accepts
    rw [h.code, h.hpc, h.text, h.hpos, hop, ho, hc, ht]
    simp
  rw [ha]
  dsimp only
  have hwd : itemWidth m.code m.pc = 2 := by unfold itemWidth; rw [h.code, h.hpc, hop, ho]
  exact ⟨h.code, h.text, h.lim, h.out, h.inner, h.whole, h.must, h.om, by show m.pc + itemWidth m.code m.pc = _; rw [hwd, h.hpc], by show m.pos + 1 = _; rw [h.hpos], h.hfr, h.hmk, h.hlm, h.hli, h.hw, h.hans⟩
theorem lit_no {t : Array Nat} {m : Sre.M} {pc pos c : Nat} {fr : List Sre.Frame} {mk : Array (Option Nat)} {lm li : Int} {wt : Nat} (h : St t m pc pos fr mk lm li wt none) (hp : pc < 39) (hop : codeF.getD pc 0 = 16) (hc : codeF.getD (pc + 1) 0 = c)
    (ht : t.size ≤ pos ∨ t.getD pos 0 ≠ c) : St t m.step pc pos fr mk lm li wt (some false) := by
  rw [step_exec h hp]
  have hw0 : m.word 0 = 16 := by unfold Sre.M.word; rw [h.code, h.hpc]; exact hop
  have ho : ops[(16 : Nat)]? = some .LITERAL := rfl
  unfold Sre.M.exec
  rw [hw0, ho]
  dsimp only
  by_cases hl : t.size ≤ pos
  · rw [if_pos (by rw [h.hpos, h.lim]; omega)]
    exact ⟨h.code, h.text, h.lim, h.out, h.inner, h.whole, h.must, h.om, h.hpc, h.hpos, h.hfr, h.hmk, h.hlm, h.hli, h.hw, rfl⟩
  · have ht' : t.getD pos 0 ≠ c := ht.resolve_left hl
    rw [if_neg (by rw [h.hpos, h.lim]; omega)]
    have ha : ∀ seen, accepts m.code m.pc (m.text.getD m.pos 0) seen = .ok (false, seen) := by
      intro seen
      unfold accepts
      rw [h.code, h.hpc, h.text, h.hpos, hop, ho, hc]
      show Except.ok (t.getD pos 0 == c, seen) = _
      rw [beq_false_of_ne ht']
    rw [ha]
    exact ⟨h.code, h.text, h.lim, h.out, h.inner, h.whole, h.must, h.om, h.hpc, h.hpos, h.hfr, h.hmk, h.hlm, h.hli, h.hw, rfl⟩
theorem mark_ok {t : Array Nat} {m : Sre.M} {pc pos i : Nat} {fr : List Sre.Frame} {mk : Array (Option Nat)} {lm li : Int} {wt : Nat} (h : St t m pc pos fr mk lm li wt none) (hp : pc < 39) (hop : codeF.getD pc 0 = 17) (hc : codeF.getD (pc + 1) 0 = i) (hi : (i : Int) ≤ lm + 1) :
    St t m.step (pc + 2) pos fr (mk.setIfInBounds i (some pos)) (max lm i) (if (i % 2 == 1) = true then ((i / 2 + 1 : Nat) : Int) else li) wt none := by
  rw [step_exec h hp]
  have hw0 : m.word 0 = 17 := by unfold Sre.M.word; rw [h.code, h.hpc]; exact hop
  have hw1 : m.word 1 = i := by unfold Sre.M.word; rw [h.code, h.hpc]; exact hc
  have ho : ops[(17 : Nat)]? = some .MARK := rfl
  unfold Sre.M.exec
  rw [hw0, ho]
  dsimp only
  have hw1' : Sre.M.word { m with seen := m.seen.add 17 } 1 = i := hw1
  rw [hw1']
  unfold Sre.M.mark
  dsimp only
  rw [if_pos (by rw [h.hlm]; exact hi), h.hmk, h.hpos, h.hlm, h.hli, h.hpc]
  exact ⟨h.code, h.text, h.lim, h.out, h.inner, h.whole, h.must, h.om, rfl, rfl, h.hfr, rfl, rfl, rfl, h.hw, h.hans⟩
theorem succ_ok {t : Array Nat} {m : Sre.M} {pos : Nat} {fr : List Sre.Frame} {mk : Array (Option Nat)} {lm li : Int} {wt : Nat} (h : St t m 38 pos fr mk lm li wt none) : St t m.step 38 pos fr mk lm li wt (some true) ∧ m.step.handed = pos := by
  rw [step_exec h (by decide)]
  have hw0 : m.word 0 = 1 := by unfold Sre.M.word; rw [h.code, h.hpc]; rfl
  have ho : ops[(1 : Nat)]? = some .SUCCESS := rfl
  unfold Sre.M.exec
  rw [hw0, ho]
  dsimp only
  rw [h.whole, h.must]
  simp only [Bool.false_and, Bool.or_self, Bool.and_false, Bool.false_eq_true, if_false]
  exact ⟨⟨h.code, h.text, h.lim, h.out, h.inner, rfl, rfl, h.om, h.hpc, h.hpos, h.hfr, h.hmk, h.hlm, h.hli, h.hw, rfl⟩, h.hpos⟩
theorem run_gen {t : Array Nat} {q c : Nat} (ha : ∀ x seen, accepts codeF q x seen = .ok (x != c, seen)) (n : Nat) : ∀ (p k found : Nat) (seen : Sre.Seen), k ≤ n → (∀ j, j < k → t.getD (p + j) 0 ≠ c) → (k = n ∨ t.getD (p + k) 0 = c) → Sre.run codeF t q n p found seen = .ok (found + k, seen) := by
  induction n with
  | zero =>
    intro p k found seen hk h1 h2
    obtain rfl : k = 0 := Nat.le_zero.mp hk
    rfl
  | succ n ih =>
    intro p k found seen hk h1 h2
    unfold Sre.run
    rw [ha]
    cases k with
    | zero =>
      have hc : t.getD p 0 = c := h2.resolve_left fun h => absurd h.symm (Nat.succ_ne_zero n)
      rw [hc, bne_self_eq_false]
      rfl
    | succ k =>
      have hne : t.getD p 0 ≠ c := h1 0 (Nat.succ_pos k)
      show (if (t.getD p 0 != c) = true then Sre.run codeF t q n (p + 1) (found + 1) seen else pure (found, seen)) = _
      rw [if_pos (bne_iff_ne.mpr hne), ih (p + 1) k (found + 1) seen (Nat.le_of_succ_le_succ hk) (fun j hj => by rw [Nat.add_right_comm]; exact h1 (j + 1) (Nat.succ_lt_succ hj)) (h2.imp Nat.succ.inj fun h => by rw [Nat.add_right_comm]; exact h), Nat.add_right_comm, Nat.add_assoc]
theorem run_any {t : Array Nat} (n p k found : Nat) (seen : Sre.Seen) (hk : k ≤ n) (h1 : ∀ j, j < k → t.getD (p + j) 0 ≠ 10) (h2 : k = n ∨ t.getD (p + k) 0 = 10) : Sre.run codeF t 9 n p found seen = .ok (found + k, seen) := run_gen (fun _ _ => rfl) n p k found seen hk h1 h2
theorem run_not {t : Array Nat} (n p k found : Nat) (seen : Sre.Seen) (hk : k ≤ n) (h1 : ∀ j, j < k → t.getD (p + j) 0 ≠ 41) (h2 : k = n ∨ t.getD (p + k) 0 = 41) : Sre.run codeF t 31 n p found seen = .ok (found + k, seen) := run_gen (fun _ _ => rfl) n p k found seen hk h1 h2
/-- the frame of a run that may give back -/
def gb (pc pos : Nat) (n : Int) (lm li : Int) : Sre.Frame := { wait := .giveBack, pc := pc, pos := pos, outermost := true, count := n, kept := { lastmark := lm, lastindex := li, whole := false, marks := #[] } }
theorem after_run {t : Array Nat} {m : Sre.M} {pc pos : Nat} {fr : List Sre.Frame} {mk : Array (Option Nat)} {lm li : Int} {wt : Nat} (h : St t m pc pos fr mk lm li wt none) (hw : wt + 1 ≤ 16777216) (c : Int) (lm' li' : Int) :
    St t (m.afterRun .giveBack c { lastmark := lm', lastindex := li', whole := false, marks := #[] }) (pc + 1 + codeF.getD (pc + 1) 0) pos (gb pc pos c lm' li' :: fr) mk lm li (wt + 1) none := by
  unfold Sre.M.afterRun Sre.M.attempt
  rw [if_neg (by show ¬ (m.weight + 1 + 0 > 16777216); rw [h.hw]; omega)]
  have e : Sre.M.word m 1 = codeF.getD (pc + 1) 0 := by unfold Sre.M.word; rw [h.code, h.hpc]
  refine ⟨h.code, h.text, h.lim, h.out, h.inner, h.whole, h.must, h.om, ?_, h.hpos, ?_, h.hmk, h.hlm, h.hli, ?_, h.hans⟩
  · show m.pc + 1 + m.word 1 = _
    rw [e, h.hpc]
  · show ({ wait := .giveBack, pc := m.pc, pos := m.pos, outermost := m.outermost, count := c, kept := { lastmark := lm', lastindex := li', whole := false, marks := #[] } } : Sre.Frame) :: m.frames = _
    rw [h.hpc, h.hpos, h.om, h.hfr]
    rfl
  · show m.weight + 1 + 0 = _
    rw [h.hw]
theorem rep_ok {t : Array Nat} {m : Sre.M} {pc pos n : Nat} {fr : List Sre.Frame} {mk : Array (Option Nat)} {lm li : Int} {wt : Nat} (h : St t m pc pos fr mk lm li wt none) (hp : pc < 39) (hop : codeF.getD pc 0 = 24) (h2 : codeF.getD (pc + 2) 0 = 0) (h3 : codeF.getD (pc + 3) 0 = 4294967295) (hpos : pos ≤ t.size)
    (hsz : t.size ≤ 16777216) (hw : wt + 1 ≤ 16777216) (hrun : ∀ seen, Sre.run codeF t (pc + 4) (t.size - pos) pos 0 seen = .ok (n, seen)) : St t m.step (pc + 1 + codeF.getD (pc + 1) 0) (pos + n) (gb pc (pos + n) n lm li :: fr) mk lm li (wt + 1) none := by
  rw [step_exec h hp]
  have hw0 : m.word 0 = 24 := by unfold Sre.M.word; rw [h.code, h.hpc]; exact hop
  have ho : ops[(24 : Nat)]? = some .REPEAT_ONE := rfl
  have w2 : ∀ s, Sre.M.word { m with seen := s } 2 = 0 := fun s => by unfold Sre.M.word; show m.code.getD (m.pc + 2) 0 = 0; rw [h.code, h.hpc]; exact h2
  have w3 : ∀ s, Sre.M.word { m with seen := s } 3 = 4294967295 := fun s => by unfold Sre.M.word; show m.code.getD (m.pc + 3) 0 = _; rw [h.code, h.hpc]; exact h3
  unfold Sre.M.exec
  rw [hw0, ho]
  dsimp only
  rw [w2, w3]
  have hroom : ((m.lim : Int) - (m.pos : Int)).toNat = t.size - pos := by rw [h.lim, h.hpos]; omega
  rw [if_neg (by rw [h.lim, h.hpos]; omega), hroom, h.code, h.hpc, h.text, h.hpos]
  simp only [Bool.false_eq_true, if_false]
  rw [show min 4294967295 (t.size - pos) = t.size - pos by omega, hrun]
  dsimp only
  rw [if_neg (by omega)]
  rw [h.inner, h.hlm, h.hli]
  refine after_run ?_ hw n lm li
  exact ⟨by first | rfl | exact h.code, by first | rfl | exact h.text, h.lim, by first | rfl | exact h.out, by first | rfl | exact h.inner, h.whole, h.must, h.om, by first | rfl | exact h.hpc, by first | rfl | exact h.hpos, h.hfr, h.hmk, by first | rfl | exact h.hlm, by first | rfl | exact h.hli, h.hw, h.hans⟩
/-- a frame is told -/
theorem told_yes {t : Array Nat} {m : Sre.M} {pc pos pc' pos' : Nat} {n : Int} {fr : List Sre.Frame} {mk : Array (Option Nat)} {lm li lm' li' : Int} {wt : Nat} (h : St t m pc pos (gb pc' pos' n lm' li' :: fr) mk lm li (wt + 1) (some true)) :
    St t m.step pc' pos' fr mk lm li wt (some true) := by
  unfold Sre.M.step
  rw [h.out, h.hans, h.hfr]
  simp only [Option.isSome_none, Bool.false_eq_true, if_false]
  unfold Sre.M.resume
  exact ⟨h.code, h.text, h.lim, rfl, h.inner, h.whole, h.must, rfl, rfl, rfl, rfl, h.hmk, h.hlm, h.hli, by show m.weight - (1 + 0) = wt; rw [h.hw]; omega, rfl⟩
theorem told_end {t : Array Nat} {m : Sre.M} {pc pos pc' pos' : Nat} {n : Int} {fr : List Sre.Frame} {mk : Array (Option Nat)} {lm li lm' li' : Int} {wt : Nat} (h : St t m pc pos (gb pc' pos' n lm' li' :: fr) mk lm li (wt + 1) (some false)) (hn : n < 1) (h2 : codeF.getD (pc' + 2) 0 = 0) :
    St t m.step pc' pos' fr mk lm' li' wt (some false) := by
  unfold Sre.M.step
  rw [h.out, h.hans, h.hfr]
  simp only [Option.isSome_none, Bool.false_eq_true, if_false]
  unfold Sre.M.resume gb
  dsimp only
  simp only [Bool.false_eq_true, if_false]
  rw [if_pos (by unfold Sre.M.word; show n - 1 < ((m.code.getD (pc' + 2) 0 : Nat) : Int); rw [h.code, h2]; omega)]
  exact ⟨h.code, h.text, h.lim, rfl, h.inner, h.whole, h.must, rfl, rfl, rfl, rfl, h.hmk, rfl, rfl, by show m.weight - (1 + 0) = wt; rw [h.hw]; omega, rfl⟩
theorem told_back {t : Array Nat} {m : Sre.M} {pc pos pc' pos' : Nat} {n : Int} {fr : List Sre.Frame} {mk : Array (Option Nat)} {lm li lm' li' : Int} {wt : Nat} (h : St t m pc pos (gb pc' pos' n lm' li' :: fr) mk lm li (wt + 1) (some false)) (hn : 1 ≤ n) (h2 : codeF.getD (pc' + 2) 0 = 0) (hw : wt + 1 ≤ 16777216) :
    St t m.step (pc' + 1 + codeF.getD (pc' + 1) 0) (pos' - 1) (gb pc' (pos' - 1) (n - 1) lm' li' :: fr) mk lm' li' (wt + 1) none := by
  unfold Sre.M.step
  rw [h.out, h.hans, h.hfr]
  simp only [Option.isSome_none, Bool.false_eq_true, if_false]
  unfold Sre.M.resume gb
  dsimp only
  simp only [Bool.false_eq_true, if_false]
  rw [if_neg (by unfold Sre.M.word; show ¬ n - 1 < ((m.code.getD (pc' + 2) 0 : Nat) : Int); rw [h.code, h2]; omega)]
  refine after_run ?_ hw (n - 1) lm' li'
  exact ⟨h.code, h.text, h.lim, rfl, h.inner, h.whole, h.must, rfl, rfl, rfl, rfl, h.hmk, rfl, rfl, by show m.weight - (1 + 0) = wt; rw [h.hw]; omega, rfl⟩
/-- so many steps lead from here to there -/
def Rch (n : Nat) (m m' : Sre.M) : Prop := m.runFor n = m'
theorem Rch.one {t : Array Nat} {m : Sre.M} {pc pos : Nat} {fr : List Sre.Frame} {mk : Array (Option Nat)} {lm li : Int} {wt : Nat} {ans : Option Bool} (h : St t m pc pos fr mk lm li wt ans) : Rch 1 m m.step := by
  unfold Rch Sre.M.runFor
  rw [h.out]
  rfl
theorem Rch.trans {a b : Nat} {m m' m'' : Sre.M} (h : Rch a m m') (h' : Rch b m' m'') : Rch (a + b) m m'' := by
  unfold Rch at *
  rw [runFor_add, h, h']
theorem back_loop {t : Array Nat} {fr : List Sre.Frame} {mk : Array (Option Nat)} {lm li : Int} {wt q : Nat} (hw : wt + 1 ≤ 16777216) : ∀ (d : Nat) (m : Sre.M) (lm' li' : Int), St t m 11 (q + d) (gb 5 (q + d) ((q + d : Nat) : Int) lm li :: fr) mk lm' li' (wt + 1) none →
    (∀ x, q < x → x ≤ q + d → t.size ≤ x ∨ t.getD x 0 ≠ 70) → ∃ m' lm'' li'', Rch (2 * d) m m' ∧ St t m' 11 q (gb 5 q (q : Int) lm li :: fr) mk lm'' li'' (wt + 1) none ∧ (d = 0 → lm'' = lm' ∧ li'' = li') ∧ (d ≠ 0 → lm'' = lm ∧ li'' = li) := by
  intro d
  induction d with
  | zero => intro m lm' li' h _; exact ⟨m, lm', li', rfl, h, fun _ => ⟨rfl, rfl⟩, fun h => absurd rfl h⟩
  | succ d ih =>
    intro m lm' li' h hx
    have h1 := lit_no h (by decide) (by rfl) (by rfl) (hx (q + (d + 1)) (Nat.lt_add_of_pos_right (Nat.succ_pos d)) (Nat.le_refl _))
    have h2 := told_back h1 (by clear h h1 hx ih; omega) (by rfl) hw
    rw [show ((q + (d + 1) : Nat) : Int) - 1 = ((q + d : Nat) : Int) from pred_cast (q + d)] at h2
    obtain ⟨m', lm'', li'', r, h3, h4, h5⟩ := ih _ lm li h2 fun x a b => hx x a (Nat.le_succ_of_le b)
    refine ⟨m', lm'', li'', ?_, h3, fun h => absurd h (Nat.succ_ne_zero d), fun _ => ?_⟩
    · have := ((Rch.one h).trans (Rch.one h1)).trans r
      rw [Nat.add_comm, show 2 * d + (1 + 1) = 2 * (d + 1) from rfl] at this
      exact this
    · by_cases hd : d = 0
      · exact h4 hd
      · exact h5 hd
theorem in_loop {t : Array Nat} {fr : List Sre.Frame} {lm li : Int} {wt q : Nat} (hw : wt + 1 ≤ 16777216) (h0 : 0 ≤ lm) : ∀ (d : Nat) (m : Sre.M) (mk : Array (Option Nat)) (lm' li' : Int), 0 ≤ lm' → mk.size = 2 → St t m 34 (q + d) (gb 27 (q + d) (d : Int) lm li :: fr) mk lm' li' (wt + 1) none →
    (∀ x, q ≤ x → x ≤ q + d → t.size ≤ x ∨ t.getD x 0 ≠ 41) → ∃ m' mk', Rch (3 * (d + 1)) m m' ∧ St t m' 27 q fr mk' lm li wt (some false) ∧ mk'.size = 2 := by
  have key : ∀ (d : Nat) (m : Sre.M) (mk : Array (Option Nat)) (lm' li' : Int), 0 ≤ lm' → St t m 34 (q + d) (gb 27 (q + d) (d : Int) lm li :: fr) mk lm' li' (wt + 1) none → (t.size ≤ q + d ∨ t.getD (q + d) 0 ≠ 41) →
      ∃ m2 l2 i2, Rch 2 m m2 ∧ St t m2 36 (q + d) (gb 27 (q + d) (d : Int) lm li :: fr) (mk.setIfInBounds 1 (some (q + d))) l2 i2 (wt + 1) (some false) := fun d m mk lm' li' hl h hx =>
    have h1 := mark_ok h (by decide) (by rfl) (by rfl) (i := 1) (Int.le_add_of_nonneg_left hl)
    ⟨_, _, _, (Rch.one h).trans (Rch.one h1), lit_no h1 (by decide) (by rfl) (by rfl) hx⟩
  intro d
  induction d with
  | zero =>
    intro m mk lm' li' hl hs h hx
    obtain ⟨m2, l2, i2, r, h2⟩ := key 0 m mk lm' li' hl h (hx q (Nat.le_refl _) (Nat.le_refl _))
    exact ⟨_, _, r.trans (Rch.one h2), told_end h2 (by decide) (by rfl), by simpa using hs⟩
  | succ d ih =>
    intro m mk lm' li' hl hs h hx
    obtain ⟨m2, l2, i2, r, h2⟩ := key (d + 1) m mk lm' li' hl h (hx _ (Nat.le_add_right _ _) (Nat.le_refl _))
    have h3 := told_back h2 (by clear h h2 hx ih key; omega) (by rfl) hw
    rw [show ((d + 1 : Nat) : Int) - 1 = (d : Int) from pred_cast d] at h3
    obtain ⟨m', mk', r', h4, h5⟩ := ih _ _ lm li h0 (by simpa using hs) h3 fun x a b => hx x a (Nat.le_succ_of_le b)
    have := (r.trans (Rch.one h2)).trans r'
    rw [Nat.add_comm, show 3 * (d + 1) + (2 + 1) = 3 * (d + 1 + 1) from rfl] at this
    exact ⟨m', mk', this, h4, h5⟩
/-- FLAGS and a blank and the open bracket stand here -/
def FlagsAt (t : Array Nat) (q : Nat) : Prop := q + 7 ≤ t.size ∧ t.getD q 0 = 70 ∧ t.getD (q + 1) 0 = 76 ∧ t.getD (q + 2) 0 = 65 ∧ t.getD (q + 3) 0 = 71 ∧ t.getD (q + 4) 0 = 83 ∧ t.getD (q + 5) 0 = 32 ∧ t.getD (q + 6) 0 = 40
theorem word_ok {t : Array Nat} {m : Sre.M} {q : Nat} {fr : List Sre.Frame} {mk : Array (Option Nat)} {lm li : Int} {wt : Nat} (h : St t m 11 q fr mk lm li wt none) (hf : FlagsAt t q) (hl : -1 ≤ lm) :
    ∃ m', Rch 8 m m' ∧ St t m' 27 (q + 7) fr (mk.setIfInBounds 0 (some (q + 7))) (max lm 0) li wt none := by
  obtain ⟨hz, f0, f1, f2, f3, f4, f5, f6⟩ := hf
  have a1 := lit_ok h (by decide) (by rfl) (by rfl) (by omega) f0
  have a2 := lit_ok a1 (by decide) (by rfl) (by rfl) (by omega) f1
  have a3 := lit_ok a2 (by decide) (by rfl) (by rfl) (by omega) f2
  have a4 := lit_ok a3 (by decide) (by rfl) (by rfl) (by omega) f3
  have a5 := lit_ok a4 (by decide) (by rfl) (by rfl) (by omega) f4
  have a6 := lit_ok a5 (by decide) (by rfl) (by rfl) (by omega) f5
  have a7 := lit_ok a6 (by decide) (by rfl) (by rfl) (by omega) f6
  have a8 := mark_ok a7 (by decide) (by rfl) (by rfl) (i := 0) (by omega)
  exact ⟨_, (((((((Rch.one h).trans (Rch.one a1)).trans (Rch.one a2)).trans (Rch.one a3)).trans (Rch.one a4)).trans (Rch.one a5)).trans (Rch.one a6)).trans (Rch.one a7), a8⟩
/-- what the machine has found at its end -/
structure Found (m : Sre.M) (b e : Nat) : Prop where
  out : m.outcome = some .matched
  last : m.lastmark = 1
  m0 : m.marks.getD 0 none = some b
  m1 : m.marks.getD 1 none = some e
theorem told_all {t : Array Nat} {m : Sre.M} {pc pos : Nat} {mk : Array (Option Nat)} {lm li : Int} {wt b e : Nat} (h : St t m pc pos [] mk lm li wt (some true)) (hl : lm = 1) (h0 : mk.getD 0 none = some b) (h1 : mk.getD 1 none = some e) : Found m.step b e := by
  unfold Sre.M.step
  rw [h.out, h.hans, h.hfr]
  simp only [Option.isSome_none, Bool.false_eq_true, if_false]
  exact ⟨rfl, h.hlm.trans hl, by show m.marks.getD 0 none = _; rw [h.hmk, h0], by show m.marks.getD 1 none = _; rw [h.hmk, h1]⟩
/-- the list is closed -/
theorem list_ok {t : Array Nat} {m : Sre.M} {p n pf b : Nat} {c : Int} {mk : Array (Option Nat)} {lm li lm2 li2 : Int} (h : St t m 27 p [gb 5 pf c lm2 li2] mk lm li 1 none) (hsz : t.size ≤ 16777216) (hn : p + n < t.size) (h1 : ∀ j, j < n → t.getD (p + j) 0 ≠ 41) (h2 : t.getD (p + n) 0 = 41) (hl : lm = 0) (hk : mk.size = 2) (h0 : mk.getD 0 none = some b) :
    ∃ m', Rch 7 m m' ∧ Found m' b (p + n) := by
  have a1 := rep_ok h (by decide) (by rfl) (by rfl) (by rfl) (n := n) (by omega) hsz (by omega) fun seen => by
    have := run_not (t := t) (t.size - p) p n 0 seen (by omega) h1 (.inr h2)
    rw [Nat.zero_add] at this
    exact this
  have a2 := mark_ok a1 (by decide) (by rfl) (by rfl) (i := 1) (by omega)
  have a3 := lit_ok a2 (by decide) (by rfl) (by rfl) (by omega) h2
  have a4 := (succ_ok a3).1
  have a5 := told_yes a4
  have a6 := told_yes a5
  have a7 := told_all a6 (b := b) (e := p + n) (by omega) (by
    simp only [Array.getD_eq_getD_getElem?, Array.getElem?_setIfInBounds] at h0 ⊢
    simpa using h0) (by
    simp only [Array.getD_eq_getD_getElem?, Array.getElem?_setIfInBounds]
    simp [hk])
  exact ⟨_, ((((((Rch.one h).trans (Rch.one a1)).trans (Rch.one a2)).trans (Rch.one a3)).trans (Rch.one a4)).trans (Rch.one a5)).trans (Rch.one a6), a7⟩
/-- the start -/
theorem start_ok {t : Array Nat} (hsz : 8 ≤ t.size) : St t (Sre.forMatch codeF t 1 0 t.size false false) 5 0 [] (Array.replicate 2 none) (-1) (-1) 0 none := by
  have e : (Sre.header codeF) = (8, 5) := by decide +kernel
  unfold Sre.forMatch
  rw [e]
  dsimp only
  rw [if_neg (by simp; omega)]
  exact ⟨rfl, rfl, rfl, rfl, rfl, rfl, rfl, rfl, by show (Sre.header codeF).2 = 5; rw [e], rfl, rfl, rfl, rfl, rfl, rfl, rfl⟩
theorem match_shut {t : Array Nat} {q n k d : Nat} (h8 : 8 ≤ t.size) (hsz : t.size ≤ 16777216) (hk : k ≤ t.size) (hk1 : ∀ j, j < k → t.getD j 0 ≠ 10) (hk2 : k = t.size ∨ t.getD k 0 = 10) (hd : k = q + d) (hF : FlagsAt t q)
    (hx : ∀ x, q < x → x ≤ q + d → t.size ≤ x ∨ t.getD x 0 ≠ 70) (hn : q + 7 + n < t.size) (h1 : ∀ j, j < n → t.getD (q + 7 + j) 0 ≠ 41) (h2 : t.getD (q + 7 + n) 0 = 41) :
    ∃ m', Rch (1 + 2 * d + 8 + 7) (Sre.forMatch codeF t 1 0 t.size false false) m' ∧ Found m' (q + 7) (q + 7 + n) := by
  have a0 := start_ok h8
  have a1 := rep_ok a0 (by decide) (by rfl) (by rfl) (by rfl) (n := k) (by omega) hsz (by omega) fun seen => by
    have := run_any (t := t) t.size 0 k 0 seen hk (fun j hj => by rw [Nat.zero_add]; exact hk1 j hj) (by rw [Nat.zero_add]; exact hk2)
    rw [Nat.zero_add] at this
    exact this
  rw [Nat.zero_add, hd] at a1
  obtain ⟨m2, lm2, li2, r2, s2, e2, e3⟩ := back_loop (q := q) (by omega) d _ _ _ a1 hx
  have hlm : lm2 = -1 := by
    by_cases h : d = 0
    · exact (e2 h).1
    · exact (e3 h).1
  obtain ⟨m3, r3, s3⟩ := word_ok s2 hF (by omega)
  obtain ⟨m4, r4, f4⟩ := list_ok (b := q + 7) s3 hsz hn h1 h2 (by omega) (by simp) (by simp)
  exact ⟨m4, (((Rch.one a0).trans r2).trans r3).trans r4, f4⟩
theorem match_open {t : Array Nat} {q q1 n k d d1 e : Nat} (h8 : 8 ≤ t.size) (hsz : t.size ≤ 16777216) (hk : k ≤ t.size) (hk1 : ∀ j, j < k → t.getD j 0 ≠ 10) (hk2 : k = t.size ∨ t.getD k 0 = 10) (hd : k = q + d) (hF : FlagsAt t q)
    (hx : ∀ x, q < x → x ≤ q + d → t.size ≤ x ∨ t.getD x 0 ≠ 70) (he : q + 7 + e = t.size) (h1 : ∀ j, j < e → t.getD (q + 7 + j) 0 ≠ 41)
    (hd1 : q = q1 + d1 + 1) (hF1 : FlagsAt t q1) (hx1 : ∀ x, q1 < x → x ≤ q1 + d1 → t.size ≤ x ∨ t.getD x 0 ≠ 70) (hn : q1 + 7 + n < t.size) (h3 : ∀ j, j < n → t.getD (q1 + 7 + j) 0 ≠ 41) (h4 : t.getD (q1 + 7 + n) 0 = 41) :
    ∃ m', Rch (1 + 2 * d + 8 + 1 + 3 * (e + 1) + 1 + 2 * d1 + 8 + 7) (Sre.forMatch codeF t 1 0 t.size false false) m' ∧ Found m' (q1 + 7) (q1 + 7 + n) := by
  have a0 := start_ok h8
  have a1 := rep_ok a0 (by decide) (by rfl) (by rfl) (by rfl) (n := k) (by omega) hsz (by omega) fun seen => by
    have := run_any (t := t) t.size 0 k 0 seen hk (fun j hj => by rw [Nat.zero_add]; exact hk1 j hj) (by rw [Nat.zero_add]; exact hk2)
    rw [Nat.zero_add] at this
    exact this
  rw [Nat.zero_add, hd] at a1
  obtain ⟨m2, lm2, li2, r2, s2, e2, e3⟩ := back_loop (q := q) (by omega) d _ _ _ a1 hx
  have hlm : lm2 = -1 := by
    by_cases h : d = 0
    · exact (e2 h).1
    · exact (e3 h).1
  obtain ⟨m3, r3, s3⟩ := word_ok s2 hF (by omega)
  have a4 := rep_ok s3 (by decide) (by rfl) (by rfl) (by rfl) (n := e) (by omega) hsz (by omega) fun seen => by
    have := run_not (t := t) (t.size - (q + 7)) (q + 7) e 0 seen (by omega) h1 (.inl (by omega))
    rw [Nat.zero_add] at this
    exact this
  obtain ⟨m5, mk5, r5, s5, k5⟩ := in_loop (q := q + 7) (by omega) (by omega) e _ _ _ _ (by omega) (by simp) a4 (fun x hx1 hx2 => by
    by_cases hxe : x = t.size
    · exact .inl (by omega)
    · refine .inr ?_
      have := h1 (x - (q + 7)) (by omega)
      rw [show q + 7 + (x - (q + 7)) = x by omega] at this
      exact this)
  have s6 := told_back s5 (by omega) (by rfl) (by omega)
  rw [show (q : Int) - 1 = ((q1 + d1 : Nat) : Int) by omega, show q - 1 = q1 + d1 by omega] at s6
  obtain ⟨m7, lm7, li7, r7, s7, e7, e8⟩ := back_loop (q := q1) (by omega) d1 _ _ _ s6 hx1
  have hlm7 : lm7 = -1 := by
    by_cases h : d1 = 0
    · exact (e7 h).1
    · exact (e8 h).1
  obtain ⟨m8, r8, s8⟩ := word_ok s7 hF1 (by omega)
  obtain ⟨m9, r9, f9⟩ := list_ok (b := q1 + 7) s8 hsz hn h3 h4 (by omega) (by simp [k5]) (by simp [Array.getD_eq_getD_getElem?, Array.getElem?_setIfInBounds, k5])
  exact ⟨m9, (((((((Rch.one a0).trans r2).trans r3).trans (Rch.one s3)).trans r5).trans (Rch.one s5)).trans r7).trans r8 |>.trans r9, f9⟩
end
end
section
section
open PySem.Builtin PySem.Builtin.Re
/-- what the flags' machine finds in these octets -/
structure Hit (b : Array UInt8) (lo hi : Nat) : Prop where
  size : b.size ≤ 16777216
  le : lo ≤ hi
  run : ∃ s M, s ≤ 4 * 2 ^ 60 ∧ Rch s (Sre.forMatch codeF (b.map (·.toNat)) 1 0 b.size false false) M ∧ Found M lo hi
structure FP (P : Params) (h : Heap) : Prop where
  pat : ∃ b0 t0 t1 v4, h.get? 57 = some { cls := .type "re.Pattern", data := .fields #[.bytes b0 t0, .int 0 t1, .int 1 0, .ref 54, v4, .ref 56, .int 1 0] }
  code : ∃ items n, h.get? 56 = some { cls := .type "tuple", data := .seq items n } ∧ (items.map reRawOf).map (·.toNat) = codeF
  names : ∃ t0 t1 n, h.get? 54 = some { cls := .type "dict", data := .dict #[⟨PyData.keyHash P (Str.ofString "flags"), .str (Str.ofString "flags") t0, .int 1 t1⟩] n }
theorem FP.of {P : Params} {h : Heap} (X : (Mine.hd.heap_39 P).In h) : FP P h :=
  ⟨⟨_, _, _, _, X _ _ (by with_unfolding_all rfl)⟩, ⟨_, _, X _ _ (by with_unfolding_all rfl), by kernel_rfl⟩, ⟨_, _, _, X _ _ (by with_unfolding_all rfl)⟩⟩
theorem FP.keep {P : Params} {h₀ h : Heap} {L : Addr} {m : Str → Option Value} (X : (Mine.hd.heap_39 P).In h₀) (F : Fr h₀ L h m) : FP P h := FP.of (X.keeps F.keep)
abbrev moO (b : Array UInt8) (t : Tok) (T : Addr) (li : Int) : Obj := { cls := .type "re.Match", data := .fields #[.bytes b t, .ref 57, rawInt 0, rawInt b.size, rawInt li, .ref T] }
abbrev spO (x y lo hi : Int) : Obj := { cls := .type "tuple", data := .seq #[rawInt x, rawInt y, rawInt lo, rawInt hi] }
variable {prog : Program} {w : World} {A : Around} {E : Value → Shared → Prop} {s : Shared}
theorem wp_reTarget_bytes {P : Params} {b : Array UInt8} {t : Tok} {id f : String} {Q : ReTarget → Shared → Prop} (X : FP P s.heap) (hy : b.size ≤ 16777216)
    (h : Q { pattern := .ref 57, string := .bytes b t, code := codeF, text := b.map (·.toNat), kind := 1, groups := 1, pos := 0, lim := b.size } s) :
    wpAny (model prog w) A (reTarget id f ⟨[.ref 57, .bytes b t], []⟩) Q E s := by
  obtain ⟨b0, t0, t1, v4, ha⟩ := X.pat
  obtain ⟨items, n, hc, hcode⟩ := X.code
  unfold reTarget
  refine wpAny_bind ?_
  rw [reNamed_one]
  refine wpAny_pure (wpAny_bind (wpAny_pure (wpAny_bind (wpAny_pure ?_))))
  refine wpAny_bind ?_
  show wpAny _ _ (do let o ← load 57; match o.data with | .fields vs => pure vs | _ => unsupported "internal:no-fields") _ _ _
  refine wpAny_bind (wpAny_load ha (wpAny_pure ?_))
  show wpAny _ _ (reTextOf (.bytes b t) >>= _) _ _ _
  refine wpAny_bind ?_
  unfold reTextOf
  show wpAny _ _ (Bytes.bufferQuiet? "_sre" (.bytes b t) >>= _) _ _ _
  refine wpAny_bind (wpAny_of_eq KBy.quiet_eq (wpAny_pure ?_))
  dsimp only
  show wpAny _ _ (do reNoCollectionInside (Value.bytes b t) 1; let x ← reRawItems (.ref 56); pure (ReTarget.mk (.ref 57) (.bytes b t) (Array.map (fun x => x.toNat) x) (b.map (·.toNat)) 1 1 (min (Int.toNat 0) (b.map (·.toNat)).size) (min (Int.toNat (2 ^ 63 - 1)) (b.map (·.toNat)).size))) _ _ _
  refine wpAny_bind ?_
  unfold reNoCollectionInside
  rw [if_pos (by rfl)]
  refine wpAny_bind (wpAny_of_eq KBy.isInstance_eq ?_)
  refine wpAny_pure ?_
  refine wpAny_bind ?_
  show wpAny _ _ (do let x ← (do let o ← load 56; match o.data with | .seq xs _ => pure (some xs) | _ => pure none); pure ((x.getD #[]).map reRawOf)) _ _ _
  refine wpAny_bind (wpAny_bind (wpAny_load hc (wpAny_pure (wpAny_pure (wpAny_pure ?_)))))
  have e0 : (b.map (·.toNat)).size = b.size := by simp
  have e1 : min (Int.toNat 0) b.size = 0 := by simp
  have e2 : min (Int.toNat (2 ^ 63 - 1)) b.size = b.size := by omega
  show Q (ReTarget.mk (.ref 57) (.bytes b t) (Array.map (fun x => x.toNat) (Array.map reRawOf items)) (b.map (·.toNat)) 1 1 (min (Int.toNat 0) (b.map (·.toNat)).size) (min (Int.toNat (2 ^ 63 - 1)) (b.map (·.toNat)).size)) s
  rw [e0, e1, e2, hcode]
  exact h
theorem news_push {h₀ h : Heap} {L : Addr} {m : Str → Option Value} {news : List (Addr × Obj)} {o : Obj} (F : Fr h₀ L h m) (N : News h₀ L h news) (ho : o.isFreed = false := by rfl) : News h₀ L (h.push o) ((h.objs.size, o) :: news) := by
  intro p hp
  rcases List.mem_cons.mp hp with rfl | hp
  · exact ⟨Heap.get?_push_size _ ho, fun e => absurd F.ns.lt (e ▸ Nat.lt_irrefl _), next_is_new F⟩
  · exact ⟨Heap.get?_push_of_some _ (N p hp).1, (N p hp).2⟩
theorem reNew_eq {M : Sre.M} {lo hi n : Nat} {p v : Value} (hf : Found M lo hi) (hl : lo ≤ hi) : reNewMatch p v 1 0 n M = (do newFields "re.Match" [v, p, rawInt 0, rawInt n, rawInt M.lastindex, ← newTuple [rawInt M.start, rawInt M.handed, rawInt lo, rawInt hi]]) := by
  unfold reNewMatch
  rw [show List.range 1 = [0] from rfl]
  simp only [List.flatMap_cons, List.flatMap_nil, List.any_cons, List.any_nil, Nat.mul_zero, Nat.zero_add, hf.m0, hf.m1, hf.last]
  rw [if_neg (by simp; omega)]
  rfl
theorem match_hit {P : Params} {h₀ : Heap} {L : Addr} {m : Str → Option Value} {news : List (Addr × Obj)} {b : Array UInt8} {t : Tok} {lo hi : Nat} {Q : Value → Shared → Prop} (F : Fr h₀ L s.heap m) (N : News h₀ L s.heap news) (X : (Mine.hd.heap_39 P).In h₀) (H : Hit b lo hi)
    (hQ : ∀ T D h' x y li, Fr h₀ L h' m → News h₀ L h' ((D, moO b t T li) :: (T, spO x y lo hi) :: news) → Q (.ref D) { s with heap := h' }) :
    wpAny (model prog w) A (call (.builtin "re.Pattern.match") [.ref 57, .bytes b t]) Q E s := by
  have XF := FP.keep X F
  have hT : s.TypeIs (.ref 57) "re.Pattern" := by
    obtain ⟨b0, t0, t1, v4, ha⟩ := XF.pat
    exact ⟨_, ha, rfl⟩
  obtain ⟨st, M, hs, hr, hf⟩ := H.run
  refine call_slot (T := "re.Pattern") (name := "match") (B := Builtin.«re.Pattern.match») slot_match hT ?_ ?_ ?_
  · exact entryFor_of_tree (by kernel_rfl)
  · unfold argsOk; kernel_rfl
  · unfold Builtin.«re.Pattern.match»
    refine wpAny_bind (wp_reTarget_bytes XF H.size ?_)
    unfold reAnswer
    have hM : (Sre.forMatch codeF (b.map (·.toNat)) 1 0 b.size false false).runFor (4 * (2 ^ 60 + 1)) = M := by
      rw [show 4 * (2 ^ 60 + 1) = st + (4 * (2 ^ 60 + 1) - st) by omega, runFor_add, hr]
      exact runFor_done _ _ (by rw [hf.out]; rfl)
    refine wpAny_bind (wp_reRunToEnd (2 ^ 60) _ (by decide) .matched (by rw [hM]; exact hf.out) (fun _ => ?_) (fun e => by cases e) (fun _ e => by cases e))
    rw [hM]
    show wpAny _ _ (reNewMatch (.ref 57) (.bytes b t) 1 0 b.size M >>= fun v => ret v) _ _ _
    refine wpAny_bind ?_
    rw [reNew_eq hf H.le]
    refine wpAny_bind (wpAny_newTuple ?_)
    unfold newFields
    refine wpAny_newObj_type ?_ (by size_fits)
    refine wpAny_pure ⟨_, rfl, ?_⟩
    have F1 := F.push { cls := .type "tuple", data := .seq #[rawInt M.start, rawInt M.handed, rawInt lo, rawInt hi] }
    have F2 := F1.push { cls := .type "re.Match", data := .fields #[.bytes b t, .ref 57, rawInt 0, rawInt b.size, rawInt M.lastindex, .ref s.heap.objs.size] }
    refine hQ s.heap.objs.size _ _ M.start M.handed M.lastindex F2 ?_
    exact news_push F1 (news_push F N)
theorem plain_mat : PlainAttrs "re.Match" :=
  ⟨⟨"object.__getattribute__", by rw [typeLookup_type, builtinLookup_eq_fast]; kernel_rfl, by decide +kernel⟩, by rw [typeLookup_type, builtinLookup_eq_fast]; kernel_rfl⟩
theorem slot_group : Slot "re.Match" "group" "re.Match.group" := .of (owner := "re.Match") (n := "group") (by rw [typeLookup_type, builtinLookup_eq_fast]; kernel_rfl) (by decide +kernel) (by decide +kernel) (by decide +kernel)
      (by first | exact .inl (by decide +kernel) | exact .inr (by decide +kernel)) (by rw [isSubtype_type]; kernel_rfl)
theorem type_group : typeOf (.builtin "re.Match.group") = pure (.type "method_descriptor") := by show builtinType _ = _; rw [builtinType_eq_fast]; kernel_rfl
theorem getM_group {h₀ : Heap} {L D T : Addr} {news : List (Addr × Obj)} {b : Array UInt8} {t : Tok} {li : Int} {pl : Sem Bool} {Q : Value × List Value → Shared → Prop} (N : News h₀ L s.heap news) (hD : (D, moO b t T li) ∈ news) (h : Q (.builtin "re.Match.group", [.ref D]) s) :
    wpAny (model prog w) A (getMethod (.ref D) (Str.ofString "group") pl) Q E s :=
  getMethod_builtin ⟨_, (N _ hD).1, rfl⟩ plain_mat slot_group type_group (fun b e => by cases e; exact ⟨_, (N _ hD).1, rfl⟩) h
theorem map_extract {b : Array UInt8} {lo hi : Nat} : ((b.map (·.toNat)).extract lo hi).map (·.toUInt8) = b.extract lo hi := by
  rw [← Array.map_extract, Array.map_map]
  have : ((fun x : Nat => x.toUInt8) ∘ fun x : UInt8 => x.toNat) = (fun x => x) := by funext x; simp
  rw [this, Array.map_id']
theorem str_index {x : Str} {u : Tok} : specialOf (.str x u) "__index__" = pure none := by
  have e : specialOf (.str x u) "__index__" = typeLookup (.type "str") "__index__" := rfl
  rw [e, typeLookup_type, builtinLookup_eq_fast]
  kernel_rfl
theorem group_hit {P : Params} {h₀ : Heap} {L D T : Addr} {m : Str → Option Value} {news : List (Addr × Obj)} {b : Array UInt8} {t u : Tok} {li x y : Int} {lo hi : Nat} {Q : Value → Shared → Prop} (F : Fr h₀ L s.heap m) (N : News h₀ L s.heap news) (X : (Mine.hd.heap_39 P).In h₀)
    (hD : (D, moO b t T li) ∈ news) (hT : (T, spO x y lo hi) ∈ news) (hb : b.size ≤ 16777216) (hQ : ∀ t' k, Q (.bytes (b.extract lo hi) t') { s with toks := k }) :
    wpAny (model prog w) A (call (.builtin "re.Match.group") [.ref D, .str (Str.ofString "flags") u]) Q E s := by
  have XF := FP.keep X F
  obtain ⟨b0, t0, t1, v4, ha⟩ := XF.pat
  obtain ⟨t2, t3, nn, hd⟩ := XF.names
  refine call_slot (T := "re.Match") (name := "group") (B := Builtin.«re.Match.group») slot_group ⟨_, (N _ hD).1, rfl⟩ ?_ ?_ ?_
  · exact entryFor_of_tree (by kernel_rfl)
  · unfold argsOk; kernel_rfl
  · unfold Builtin.«re.Match.group»
    refine wpAny_bind (wpAny_pure ?_)
    show wpAny _ _ (reFound (.ref D) >>= _) _ _ _
    refine wpAny_bind ?_
    unfold reFound
    show wpAny _ _ (do let fs ← (do let o ← load D; match o.data with | .fields vs => pure vs | _ => unsupported "internal:no-fields"); pure (ReFound.mk fs (← reRawItems (fs.getD 5 .none)))) _ _ _
    refine wpAny_bind (wpAny_bind (wpAny_load (N _ hD).1 (wpAny_pure ?_)))
    show wpAny _ _ (do let z ← (do let x ← (do let o ← load T; match o.data with | .seq xs _ => pure (some xs) | _ => pure none); pure ((x.getD #[]).map reRawOf)); pure (ReFound.mk _ z)) _ _ _
    refine wpAny_bind (wpAny_bind (wpAny_bind (wpAny_load (N _ hT).1 (wpAny_pure (wpAny_pure (wpAny_pure ?_))))))
    dsimp only
    refine wpAny_bind ?_
    unfold reGroupNumber
    refine wpAny_bind (wpAny_pure ?_)
    rw [if_neg (by simp)]
    refine wpAny_bind (wpAny_of_eq str_index ?_)
    rw [if_neg (by simp)]
    show wpAny _ _ (do let fs ← (do let o ← load 57; match o.data with | .fields vs => pure vs | _ => unsupported "internal:no-fields"); _) _ _ _
    refine wpAny_bind (wpAny_bind (wpAny_load ha (wpAny_pure ?_)))
    show wpAny _ _ (dictGet 54 (.str (Str.ofString "flags") u) >>= _) _ _ _
    refine wpAny_bind ?_
    unfold dictGet
    try with_reducible refine wpAny_holding ?_
    refine wpAny_bind (wpAny_pyHash_str (wpAny_bind (KTD.kt_dictFind_strs (s := { s with toks := s.toks + 1 }) hd rfl (by first | with_unfolding_all rfl | simp [isExactStrKey, Value.isStr]) ?_)))
    have e : (Array.findIdx? (fun e : DictEntry => e.key.isStr (Str.ofString "flags")) #[⟨PyData.keyHash P (Str.ofString "flags"), .str (Str.ofString "flags") t2, .int 1 t3⟩]) = some 0 := by first | with_unfolding_all rfl | simp [Value.isStr]
    rw [e]
    refine wpAny_bind (wpAny_dictEntries (s := { s with toks := s.toks + 1 }) hd rfl (wpAny_pure ?_))
    refine wpAny_bind (wpAny_pure (wpAny_bind (wpAny_pure ?_)))
    dsimp only [Option.getD_some]
    rw [if_neg (by simp)]
    refine wpAny_pure ?_
    refine wpAny_bind ?_
    unfold reGroupText
    rw [show Array.map reRawOf #[rawInt x, rawInt y, rawInt lo, rawInt hi] = #[x, y, (lo : Int), (hi : Int)] by simp [reRawOf, rawInt]]
    show wpAny _ _ (if (decide ((lo : Int) < 0) || decide ((hi : Int) < 0)) = true then pure Value.none else (do let (text, kind) ← reTextOf (.bytes b t); reSlice text kind (Int.toNat (lo : Int)) (Int.toNat (hi : Int)))) _ _ _
    rw [if_neg (by simp)]
    show wpAny _ _ (reTextOf (.bytes b t) >>= _) _ _ _
    refine wpAny_bind ?_
    unfold reTextOf
    show wpAny _ _ (Bytes.bufferQuiet? "_sre" (.bytes b t) >>= _) _ _ _
    refine wpAny_bind (wpAny_of_eq KBy.quiet_eq (wpAny_pure ?_))
    show wpAny _ _ (mkBytes (((b.map (·.toNat)).extract lo hi).map (·.toUInt8))) _ _ _
    rw [map_extract]
    exact wpAny_mkBytes (wpAny_pure ⟨_, rfl, hQ _ _⟩) (by rw [sizeLine_eq, Array.size_extract]; omega)
end
end
section
section
open PySem.Builtin
/-- octets of a list of numbers -/
def oct (l : List Nat) : Array UInt8 := (l.map (·.toUInt8)).toArray
theorem fold_oct : ∀ {l : List Nat} {acc : Array UInt8}, (∀ x ∈ l, x < 128) → l.foldl (fun acc y => acc ++ (_codecs.utf8Codec.bytesOf y).toArray) acc = acc ++ oct l
  | [], acc, _ => by simp [oct]
  | c :: l, acc, h => by
    rw [List.foldl_cons, fold_oct fun x hx => h x (by simp [hx])]
    have e : _codecs.utf8Codec.bytesOf c = [c.toUInt8] := by
      show Str.utf8Of c = _
      unfold Str.utf8Of
      rw [if_pos (h c (by simp))]
    rw [e]
    simp [oct]
theorem forIn_two {β : Type} {n : Nat} {s0 s1 : β} {f : Nat → β → Sem (ForInStep β)} (h0 : f 0 s0 = pure (.yield s1)) (h1 : ∀ i, f i s1 = pure (.done s1)) : forIn (m := Sem) [0 : n + 1] s0 f = pure s1 := by
  rw [Std.Legacy.Range.forIn_eq_forIn_range']
  simp only [Std.Legacy.Range.size, Nat.sub_zero, Nat.add_sub_cancel, Nat.div_one, List.range'_succ, List.forIn_cons, h0, pure_bind]
  cases n with
  | zero => rfl
  | succ n => simp only [List.range'_succ, List.forIn_cons, h1, pure_bind]
theorem encode_pure {id : String} {self : Value} {c : Nat} {l : List Nat} (h : ∀ x ∈ c :: l, x < 128) (hs : (c :: l).length ≤ 16777216) : _codecs.encodeNarrow id _codecs.utf8Codec none self ⟨(c :: l).toArray⟩ = pure (oct (c :: l)) := by
  have hb : ∀ x ∈ c :: l, _codecs.utf8Codec.bad x = false := by
    intro x hx
    have := h x hx
    show Str.isSurrogate x = false
    unfold Str.isSurrogate
    simp
    omega
  have hcl : ((c :: l).toArray.findIdx? _codecs.utf8Codec.bad) = none := by
    rw [Array.findIdx?_eq_none_iff]
    intro x hx
    exact hb x (by simpa using hx)
  have hlen : (⟨(c :: l).toArray⟩ : Str).length = l.length + 1 := by show (c :: l).toArray.size = _; simp
  have hget : (c :: l).toArray[0]? = some c := by simp
  have hcb := hb c (by simp)
  have hex : (c :: l).toArray.extract 0 (c :: l).toArray.size = (c :: l).toArray := by simp
  have hf : Array.foldl (fun acc y => acc ++ (_codecs.utf8Codec.bytesOf y).toArray) #[] (c :: l).toArray = oct (c :: l) := by
    rw [List.foldl_toArray, fold_oct h, Array.empty_append]
  have hz2 : ¬ ((oct (c :: l)).size > sizeLine) := by rw [sizeLine_eq]; simp [oct]; simp at hs; omega
  have hget2 : (c :: l).toArray[0 + (c :: l).toArray.size]? = none := by simp
  unfold _codecs.encodeNarrow
  dsimp only
  refine (congrArg (fun t => bind t _) ((congrArg (fun n => forIn (m := Sem) [0 : n] _ _) hlen).trans (forIn_two (s1 := (0 + (c :: l).toArray.size, oct (c :: l), {})) ?_ ?_))).trans rfl
  · refine (if_neg (by simp)).trans ?_
    dsimp only
    rw [hget]
    refine (if_pos (by rw [hcb]; rfl)).trans ?_
    rw [hex, hcl, Option.getD_none, hex, hf]
  · intro i
    refine (if_neg hz2).trans ?_
    dsimp only
    rw [hget2]
end
inductive Octs : List Value → List (List UInt8) → Prop
  | nil : Octs [] []
  | cons {b : List UInt8} {t : Tok} {items : List Value} {l : List (List UInt8)} (r : Octs items l) : Octs (.bytes b.toArray t :: items) (b :: l)
theorem Octs.len {items : List Value} {l : List (List UInt8)} (h : Octs items l) : items.length = l.length := by
  induction h with
  | nil => rfl
  | cons _ ih => simp [ih]
theorem Octs.append {b : List Value} {lb : List (List UInt8)} (hb : Octs b lb) {a : List Value} {la : List (List UInt8)} (h : Octs a la) : Octs (a ++ b) (la ++ lb) := by
  induction h with
  | nil => exact hb
  | cons _ ih => exact .cons ih
section
open PySem.Builtin
variable {prog : Program} {w : World} {A : Around} {E : Value → Shared → Prop} {s : Shared}
theorem getM_encode {M : Model} {x : Str} {t : Tok} {pl : Sem Bool} {Q : Value × List Value → Shared → Prop} (h : Q (.builtin "str.encode", [.str x t]) s) : wpAny M A (getMethod (.str x t) (Str.ofString "encode") pl) Q E s := by
  with_reducible exact GM.of (.str x t) (typeIs_str _ _ _) F.slot_str_encode F.type_str_encode GM.noRef h
theorem gives_encode {c : Nat} {l : List Nat} {t : Tok} (h : ∀ x ∈ c :: l, x < 128) (hs : (c :: l).length ≤ 16777216) : Gives («str.encode» ⟨[.str ⟨(c :: l).toArray⟩ t], []⟩) (.bytes (oct (c :: l))) := by
  rw [encode_tree, encodeRoad_utf8, encode_pure h hs]
  exact .of_eq rfl
theorem encode_ok {c : Nat} {l : List Nat} {t : Tok} {Q : Value → Shared → Prop} (h : ∀ x ∈ c :: l, x < 128) (hs : (c :: l).length ≤ 16777216) (hQ : ∀ t' k, Q (.bytes (oct (c :: l)) t') { s with toks := k }) :
    wpAny (model prog w) A (call (.builtin "str.encode") [.str ⟨(c :: l).toArray⟩ t]) Q E s :=
  call_gives F.slot_str_encode (typeIs_str _ _ _) F.entry_str_encode (F.args_str_encode_1 _) (gives_encode h hs) ⟨by rw [sizeLine_eq]; simp [oct]; simp at hs; omega, hQ _ _⟩
theorem slot_split : Slot "bytes" "split" "bytes.split" := .of (owner := "bytes") (n := "split") (by rw [typeLookup_type, builtinLookup_eq_fast]; kernel_rfl) (by decide +kernel) (by decide +kernel) (by decide +kernel)
      (by first | exact .inl (by decide +kernel) | exact .inr (by decide +kernel)) (by rw [isSubtype_type]; kernel_rfl)
theorem type_split : typeOf (.builtin "bytes.split") = pure (.type "method_descriptor") := by show builtinType _ = _; rw [builtinType_eq_fast]; kernel_rfl
theorem getM_split {M : Model} {b : Array UInt8} {t : Tok} {pl : Sem Bool} {Q : Value × List Value → Shared → Prop} (h : Q (.builtin "bytes.split", [.bytes b t]) s) : wpAny M A (getMethod (.bytes b t) (Str.ofString "split") pl) Q E s := by
  with_reducible exact KBd.method_of (.bytes b t) (typeIs_bytes _ _ _) slot_split type_split KBd.noRef h
theorem wp_mapNew {A : Around} {Q : List Value → Shared → Prop} : ∀ (ws : List (List UInt8)) (s : Shared), (∀ w ∈ ws, w.length ≤ 16777216) → (∀ items k, Octs items ws → Q items { s with toks := k }) → wpAny (model prog w) A (ws.mapM fun w => Bytes.Kind.new .bytes w.toArray) Q E s
  | [], s, _, h => by
    rw [List.mapM_nil]
    exact wpAny_pure (h [] s.toks .nil)
  | x :: ws, s, hs, h => by
    rw [List.mapM_cons]
    refine wpAny_bind ?_
    refine wpAny_mkBytes ?_ (by rw [sizeLine_eq]; simpa using hs x (by simp))
    refine wpAny_bind (wp_mapNew ws _ (fun y hy => hs y (by simp [hy])) fun items k hi => ?_)
    exact wpAny_pure (h _ _ (.cons hi))
theorem split_ok {h₀ : Heap} {L : Addr} {m : Str → Option Value} {news : List (Addr × Obj)} {b : Array UInt8} {t : Tok} {ws : List (List UInt8)} {Q : Value → Shared → Prop} (F : Fr h₀ L s.heap m) (N : News h₀ L s.heap news) (hsp : b.any Bytes.isSpace = true)
    (hw : Bytes.words (b.size + 1) (b.size + 1) b.toList = ws) (hz : ∀ w ∈ ws, w.length ≤ 16777216) (hl : ws.length ≤ 1000)
    (hQ : ∀ D h' k items, Fr h₀ L h' m → News h₀ L h' ((D, listOf items.toArray 0) :: news) → Octs items ws → (∀ p ∈ news, p.1 < D) → Q (.ref D) { s with heap := h', toks := k }) :
    wpAny (model prog w) A (call (.builtin "bytes.split") [.bytes b t]) Q E s := by
  refine call_slot (T := "bytes") (name := "split") (B := Builtin.«bytes.split») slot_split (typeIs_bytes _ _ _) ?_ ?_ ?_
  · exact entryFor_of_tree (by kernel_rfl)
  · unfold argsOk; kernel_rfl
  · unfold Builtin.«bytes.split» Bytes.splitM
    dsimp only
    refine wpAny_bind (wpAny_pure ?_)
    dsimp only
    refine wpAny_bind (wpAny_pure (wpAny_bind ?_))
    unfold Bytes.payload
    refine wpAny_bind (wpAny_pure (wpAny_pure ?_))
    rw [show (if (-1 : Int) < 0 then b.size + 1 else Int.toNat (-1)) = b.size + 1 from if_pos (by decide)]
    refine wpAny_bind (wpAny_rule ?_)
    rw [hsp]
    simp only [Bool.not_true, Bool.and_false, Bool.false_eq_true, if_false, hw]
    refine wpAny_bind (wp_mapNew ws s hz fun items k hi => ?_)
    refine wpAny_bind (wpAny_newList ?_ (by rw [hi.len, sizeLine_eq]; omega))
    exact wpAny_pure ⟨_, rfl, hQ _ _ k items (F.push _) (news_push F N) hi fun p hp => Heap.lt_size (N p hp).1⟩
end
end
section
section
open PySem.Builtin
variable {prog : Program} {w : World} {A : Around} {E : Value → Shared → Prop} {s : Shared}
abbrev tupV (vs : List Value) (k : Nat) : Obj := { cls := .type "tuple", data := .seq vs.toArray k }
theorem octs_pairs {xs : List Value} {ws : List (List UInt8)} (h : Octs xs ws) : ∀ {ys : List Value}, Octs ys ws → ∀ p ∈ xs.zip ys, ∃ b t u, p = (.bytes b t, .bytes b u) := by
  induction h with
  | nil => intro ys hy p hp; cases hp
  | cons _ ih =>
    intro ys hy p hp
    cases hy with
    | cons b =>
      rw [List.zip_cons_cons] at hp
      rcases List.mem_cons.mp hp with rfl | hp
      · exact ⟨_, _, _, rfl⟩
      · exact ih b p hp
theorem tup_ne_tree {p q : Addr} {xs ys : List Value} {k k' : Nat} {ws : List (List UInt8)} {P : PySem.Fin → Shared → Prop} (hp : s.heap.get? p = some (tupV xs k)) (hq : s.heap.get? q = some (tupV ys k')) (rx : Octs xs ws) (ry : Octs ys ws)
    (h : P (.done (.ret (.bool false))) s) :
    wpAny (model prog w) A (Builtin.«tuple.__ne__» ⟨[.ref p, .ref q], []⟩) P E s := by
  have hT : s.TypeIs (.ref q) "tuple" := ⟨_, hq, rfl⟩
  show wpAny _ _ (isInstance (.ref q) (.type "tuple") >>= _) _ _ s
  refine wpAny_bind (wpAny_isInstance hT isSubtype_tuple_tuple ?_)
  simp only [Bool.not_true, Bool.false_eq_true, if_false]
  refine wpAny_bind (wpAny_tupleItemsOf hp rfl ?_)
  refine wpAny_bind (wpAny_tupleItemsOf hq rfl ?_)
  have hall := octs_pairs rx ry
  have hl : xs.length = ys.length := rx.len.trans ry.len.symm
  generalize hz : xs.zip ys = zs at hall
  clear hz
  refine wpAny_bind (wpAny_forIn_list _ (fun rest b s' => s' = s ∧ b = (none, ()) ∧ ∀ p ∈ rest, ∃ b t u, p = (.bytes b t, .bytes b u)) _ (fun x rest b s' e => ?_) (fun b s' e => ?_) _ _ ⟨rfl, rfl, hall⟩)
  · obtain ⟨e1, e2, e3⟩ := e
    obtain ⟨b', t, u, e4⟩ := e3 x (by simp)
    subst e1 e2 e4
    refine wpAny_bind (eqBool_bytes ?_)
    simp only [decide_true, Bool.not_true, Bool.false_eq_true, if_false]
    exact wpAny_pure ⟨rfl, rfl, fun p hp => e3 p (by simp [hp])⟩
  · obtain ⟨e1, e2, _⟩ := e
    subst e1 e2
    dsimp only
    have e : Tuple.tupleCompareSizes CmpOp.NotEq xs.toArray.size ys.toArray.size = .bool false := by
      rw [List.size_toArray, List.size_toArray, hl]
      unfold Tuple.tupleCompareSizes
      simp
    rw [e]
    exact wpAny_pure h
theorem ne_octs {h₀ : Heap} {L p q : Addr} {news : List (Addr × Obj)} {xs ys : List Value} {k k' : Nat} {ws : List (List UInt8)} {Q : Value → Shared → Prop} (N : News h₀ L s.heap news) (hp : (p, tupV xs k) ∈ news) (hq : (q, tupV ys k') ∈ news)
    (rx : Octs xs ws) (ry : Octs ys ws) (hu : A.units < cLine) (h : Q (.bool false) s) : wpAny (model prog w) A (compareOp .NotEq (.ref p) (.ref q)) Q E s := by
  have hTp : s.TypeIs (.ref p) "tuple" := ⟨_, (N _ hp).1, rfl⟩
  have hTq : s.TypeIs (.ref q) "tuple" := ⟨_, (N _ hq).1, rfl⟩
  show wpAny _ _ (richCompare .NotEq (.ref p) (.ref q)) Q E s
  exact wpAny_richCompare_same_room (op := .NotEq) hTp hTq F.slot_tuple_ne (wpAny_call_entry F.slot_tuple_ne hTp F.entry_tuple_ne (tup_ne_tree (N _ hp).1 (N _ hq).1 rx ry ⟨_, rfl, by simp, h⟩) (F.args_tuple_ne_2 _ _)) hu
end
end
section
/-- the texts of a reply -/
def headL : List Nat := [42, 32, 51, 32, 70, 69, 84, 67, 72, 32, 40, 80, 69, 82, 77, 65, 78, 69, 78, 84, 70, 76, 65, 71, 83, 32, 40, 66, 32, 92, 42, 41, 32, 70, 76, 65, 71, 83, 32, 40]
def tailL : List Nat := [41, 41, 13, 10, 42, 32, 52, 32, 70, 69, 84, 67, 72, 32, 40, 70, 76, 65, 71, 83, 32, 40, 97, 98, 41, 41]
def txt (l : List Nat) : Str := ⟨l.toArray⟩
theorem head_txt : Str.ofString "* 3 FETCH (PERMANENTFLAGS (B \\*) FLAGS (" = txt headL := by decide +kernel
theorem tail_txt : Str.ofString "))\r\n* 4 FETCH (FLAGS (ab))" = txt tailL := by decide +kernel
def sepN (q : Int) : List Nat := if q % 3 = 0 then [32] else if q % 3 = 1 then [9] else [13, 10]
def fl (p : LV) : List Nat := (fs p.1 p.2).cps.toList
def bodyL : List LV → Int → List Nat
  | [], _ => []
  | p :: r, q => fl p ++ sepN q ++ bodyL r (q + 1)
theorem body_append : ∀ (l : List LV) (p : LV) (q : Int), bodyL (l ++ [p]) q = bodyL l q ++ (fl p ++ sepN (q + l.length))
  | [], p, q => by simp [bodyL]
  | a :: l, p, q => by
    rw [List.cons_append, bodyL, bodyL, body_append l p (q + 1), List.length_cons]
    rw [show q + 1 + (l.length : Int) = q + ((l.length + 1 : Nat) : Int) by omega]
    simp
theorem sep_ok (q : Int) : ∀ c ∈ sepN q, c < 128 ∧ c ≠ 41 ∧ c ≠ 70 := by
  unfold sepN
  split
  · decide
  · split <;> decide
theorem fl_ok (p : LV) : ∀ c ∈ fl p, c < 128 ∧ c ≠ 41 ∧ c ≠ 70 := by
  obtain ⟨x, u⟩ := p
  revert x u
  decide +kernel
theorem body_ok : ∀ (l : List LV) (q : Int), ∀ c ∈ bodyL l q, c < 128 ∧ c ≠ 41 ∧ c ≠ 70
  | [], q => by simp [bodyL]
  | a :: l, q => by
    intro c hc
    simp only [bodyL, List.mem_append] at hc
    rcases hc with (h | h) | h
    · exact fl_ok _ c h
    · exact sep_ok _ c h
    · exact body_ok l _ c h
theorem fl_len (p : LV) : 1 ≤ (fl p).length ∧ (fl p).length ≤ 2 := by
  obtain ⟨x, u⟩ := p
  revert x u
  decide +kernel
theorem sep_len (q : Int) : 1 ≤ (sepN q).length ∧ (sepN q).length ≤ 2 := by
  unfold sepN
  split
  · decide
  · split <;> decide
theorem body_len : ∀ (l : List LV) (q : Int), (bodyL l q).length ≤ 4 * l.length ∧ l.length ≤ (bodyL l q).length
  | [], q => by simp [bodyL]
  | a :: l, q => by
    have h1 := fl_len a
    have h2 := sep_len q
    have h3 := body_len l (q + 1)
    simp only [bodyL, List.length_append, List.length_cons]
    omega
theorem oct_nat {l : List Nat} (h : ∀ c ∈ l, c < 256) : (oct l).map (·.toNat) = l.toArray := by
  unfold oct
  rw [List.map_toArray, List.map_map]
  congr 1
  conv => rhs; rw [← List.map_id l]
  refine List.map_congr_left fun x hx => ?_
  show x.toUInt8.toNat = x
  rw [Nat.toUInt8, UInt8.toNat_ofNat']
  exact Nat.mod_eq_of_lt (h x hx)
theorem oct_size (l : List Nat) : (oct l).size = l.length := by simp [oct]
theorem getD_arr (l : List Nat) (i : Nat) : l.toArray.getD i 0 = l.getD i 0 := by
  simp [Array.getD_eq_getD_getElem?]
theorem getD_l {a b : List Nat} {i : Nat} (h : i < a.length) : (a ++ b).getD i 0 = a.getD i 0 := by
  simp [List.getD_eq_getElem?_getD, List.getElem?_append_left h]
theorem getD_r {a b : List Nat} (i : Nat) : (a ++ b).getD (a.length + i) 0 = b.getD i 0 := by
  simp [List.getD_eq_getElem?_getD, List.getElem?_append_right]
theorem getD_mem {l : List Nat} {i : Nat} (h : i < l.length) : l.getD i 0 ∈ l := by
  rw [List.getD_eq_getElem?_getD, List.getElem?_eq_getElem h]
  exact List.getElem_mem h
/-- the first line's end -/
theorem first10 (l : List Nat) : ∃ k, k ≤ l.length ∧ (∀ j, j < k → l.getD j 0 ≠ 10) ∧ (k = l.length ∨ l.getD k 0 = 10) := by
  induction l with
  | nil => exact ⟨0, by simp, by simp, by simp⟩
  | cons c l ih =>
    obtain ⟨k, h1, h2, h3⟩ := ih
    by_cases hc : c = 10
    · exact ⟨0, by simp, by simp, .inr (by simp [hc])⟩
    · refine ⟨k + 1, by simpa using h1, fun j hj => ?_, ?_⟩
      · cases j with
        | zero => simpa using hc
        | succ j => simpa using h2 j (by omega)
      · rcases h3 with h3 | h3
        · exact .inl (by simp [h3])
        · exact .inr (by simpa using h3)
theorem head_lt : ∀ c ∈ headL, c < 128 := by decide
theorem tail_lt : ∀ c ∈ tailL, c < 128 := by decide
theorem head10 : ∀ j, j < 40 → headL.getD j 0 ≠ 10 := by decide
theorem head70 : ∀ j, j < 40 → 33 < j → headL.getD j 0 ≠ 70 := by decide
theorem head70' : ∀ j, j < 33 → 20 < j → headL.getD j 0 ≠ 70 := by decide
theorem head41 : ∀ j, j < 4 → headL.getD (27 + j) 0 ≠ 41 := by decide
theorem tail70 : ∀ j, j < 4 → tailL.getD j 0 ≠ 70 := by decide
theorem flagsAt {l r : List Nat} (h : l = headL ++ r) (q : Nat) (hq : q = 33 ∨ q = 20) : FlagsAt l.toArray q := by
  have hl : headL.length = 40 := rfl
  have e : ∀ i, i < 40 → l.toArray.getD i 0 = headL.getD i 0 := fun i hi => by rw [getD_arr, h, getD_l (by rw [hl]; exact hi)]
  have hs : 40 ≤ l.toArray.size := by rw [h]; simp [hl]
  unfold FlagsAt
  rcases hq with rfl | rfl
  · refine ⟨by omega, ?_, ?_, ?_, ?_, ?_, ?_, ?_⟩ <;> rw [e _ (by omega)] <;> rfl
  · refine ⟨by omega, ?_, ?_, ?_, ?_, ?_, ?_, ?_⟩ <;> rw [e _ (by omega)] <;> rfl
theorem hit_shut {T : List Nat} (hT : ∀ c ∈ T, c < 128 ∧ c ≠ 41 ∧ c ≠ 70) (hz : T.length ≤ 1000) : Hit (oct (headL ++ (T ++ tailL))) 40 (40 + T.length) := by
  have hl : headL.length = 40 := rfl
  have ht : tailL.length = 26 := rfl
  have hlen : (headL ++ (T ++ tailL)).length = 66 + T.length := by simp [hl, ht]; omega
  have h256 : ∀ c ∈ headL ++ (T ++ tailL), c < 256 := by
    intro c hc
    rcases List.mem_append.mp hc with h | h
    · exact Nat.lt_trans (head_lt c h) (by omega)
    · rcases List.mem_append.mp h with h | h
      · have := hT c h; omega
      · exact Nat.lt_trans (tail_lt c h) (by omega)
  refine ⟨by rw [oct_size]; omega, by omega, ?_⟩
  rw [oct_nat h256, oct_size]
  generalize hL : headL ++ (T ++ tailL) = L at *
  have g1 : ∀ i, i < 40 → L.getD i 0 = headL.getD i 0 := fun i hi => by rw [← hL, getD_l (by rw [hl]; exact hi)]
  have g2 : ∀ i, i < T.length → L.getD (40 + i) 0 = T.getD i 0 := fun i hi => by rw [← hL, ← hl, getD_r, getD_l hi]
  have g3 : ∀ i, L.getD (40 + T.length + i) 0 = tailL.getD i 0 := fun i => by rw [← hL, ← hl, Nat.add_assoc, getD_r, getD_r]
  obtain ⟨k, k1, k2, k3⟩ := first10 L
  have hk4 : k ≤ 43 + T.length := by
    refine Nat.le_of_not_lt fun h => k2 (40 + T.length + 3) (by omega) ?_
    rw [g3]; rfl
  have hk5 : 40 ≤ k := by
    refine Nat.le_of_not_lt fun h => ?_
    rcases k3 with e | e
    · omega
    · exact head10 k h (by rw [← g1 k h]; exact e)
  obtain ⟨M, r, f⟩ := match_shut (t := L.toArray) (q := 33) (n := T.length) (k := k) (d := k - 33) (by simp; omega) (by simp; omega) (by simpa using k1) (fun j hj => by rw [getD_arr]; exact k2 j hj) (by rw [getD_arr]; simpa using k3) (by omega) (flagsAt hL.symm 33 (.inl rfl))
    (fun x h1 h2 => .inr (by
      rw [getD_arr]
      by_cases hx : x < 40
      · rw [g1 x hx]; exact head70 x hx h1
      · by_cases hx2 : x < 40 + T.length
        · rw [show x = 40 + (x - 40) by omega, g2 _ (by omega)]
          exact (hT _ (getD_mem (by omega))).2.2
        · rw [show x = 40 + T.length + (x - (40 + T.length)) by omega, g3]
          exact tail70 _ (by omega)))
    (by simp; omega) (fun j hj => by rw [getD_arr, g2 j hj]; exact (hT _ (getD_mem hj)).2.1) (by rw [getD_arr]; exact g3 0)
  refine ⟨_, M, ?_, by simpa using r, f⟩
  omega
theorem hit_open {T : List Nat} (hT : ∀ c ∈ T, c < 128 ∧ c ≠ 41 ∧ c ≠ 70) (hz : T.length ≤ 1000) : Hit (oct (headL ++ T)) 27 31 := by
  have hl : headL.length = 40 := rfl
  have hlen : (headL ++ T).length = 40 + T.length := by simp [hl]
  have h256 : ∀ c ∈ headL ++ T, c < 256 := by
    intro c hc
    rcases List.mem_append.mp hc with h | h
    · exact Nat.lt_trans (head_lt c h) (by omega)
    · have := hT c h; omega
  refine ⟨by rw [oct_size]; omega, by omega, ?_⟩
  rw [oct_nat h256, oct_size]
  generalize hL : headL ++ T = L at *
  have g1 : ∀ i, i < 40 → L.getD i 0 = headL.getD i 0 := fun i hi => by rw [← hL, getD_l (by rw [hl]; exact hi)]
  have g2 : ∀ i, L.getD (40 + i) 0 = T.getD i 0 := fun i => by rw [← hL, ← hl, getD_r]
  obtain ⟨k, k1, k2, k3⟩ := first10 L
  have hk5 : 40 ≤ k := by
    refine Nat.le_of_not_lt fun h => ?_
    rcases k3 with e | e
    · omega
    · exact head10 k h (by rw [← g1 k h]; exact e)
  obtain ⟨M, r, f⟩ := match_open (t := L.toArray) (q := 33) (q1 := 20) (n := 4) (k := k) (d := k - 33) (d1 := 12) (e := T.length) (by simp; omega) (by simp; omega) (by simpa using k1) (fun j hj => by rw [getD_arr]; exact k2 j hj) (by rw [getD_arr]; simpa using k3) (by omega) (flagsAt hL.symm 33 (.inl rfl))
    (fun x h1 h2 => by
      rw [getD_arr]
      by_cases hx : x < 40
      · rw [g1 x hx]; exact .inr (head70 x hx h1)
      · by_cases hx2 : x < 40 + T.length
        · rw [show x = 40 + (x - 40) by omega, g2]
          exact .inr (hT _ (getD_mem (by omega))).2.2
        · exact .inl (by simp; omega))
    (by simp; omega) (fun j hj => by rw [getD_arr, g2 j]; exact (hT _ (getD_mem hj)).2.1) (by omega) (flagsAt hL.symm 20 (.inr rfl))
    (fun x h1 h2 => .inr (by rw [getD_arr, g1 x (by omega)]; exact head70' x (by omega) h1))
    (by simp; omega) (fun j hj => by rw [getD_arr, g1 _ (by omega)]; exact head41 j hj) (by rw [getD_arr, g1 _ (by omega)]; rfl)
  refine ⟨_, M, ?_, by simpa using r, f⟩
  omega
theorem oct_append (a b : List Nat) : oct (a ++ b) = oct a ++ oct b := by simp [oct]
theorem oct_part (a b c : List Nat) : (oct (a ++ (b ++ c))).extract a.length (a.length + b.length) = oct b := by
  unfold oct
  rw [List.extract_toArray, List.extract_eq_take_drop]
  simp
theorem part_shut (T : List Nat) : (oct (headL ++ (T ++ tailL))).extract 40 (40 + T.length) = oct T := oct_part headL T tailL
theorem part_open (T : List Nat) : (oct (headL ++ T)).extract 27 31 = oct [66, 32, 92, 42] := by
  have e : headL ++ T = headL.take 27 ++ ([66, 32, 92, 42] ++ (headL.drop 31 ++ T)) := by
    rw [← List.append_assoc, ← List.append_assoc]
    rfl
  rw [e]
  exact oct_part (headL.take 27) [66, 32, 92, 42] _
/-- the flags' octets -/
def flB (p : LV) : List UInt8 := (fl p).map (·.toUInt8)
theorem flB_not (p : LV) : flB p ≠ [] ∧ ∀ c ∈ flB p, PySem.Builtin.Bytes.isSpace c = false := by
  obtain ⟨x, u⟩ := p
  revert x u
  decide +kernel
theorem sepB (q : Int) : (sepN q).map (·.toUInt8) ≠ [] ∧ ∀ c ∈ (sepN q).map (·.toUInt8), PySem.Builtin.Bytes.isSpace c = true := by
  unfold sepN
  split
  · decide +kernel
  · split <;> decide +kernel
theorem dropW {p : UInt8 → Bool} : ∀ {a b : List UInt8}, (∀ c ∈ a, p c = true) → (a ++ b).dropWhile p = b.dropWhile p
  | [], b, _ => rfl
  | c :: a, b, h => by
    rw [List.cons_append, List.dropWhile_cons, if_pos (h c (by simp))]
    exact dropW fun x hx => h x (by simp [hx])
theorem takeW {p : UInt8 → Bool} {d : UInt8} {b : List UInt8} (hd : p d = false) : ∀ {a : List UInt8}, (∀ c ∈ a, p c = true) → (a ++ d :: b).takeWhile p = a
  | [], _ => by simp [hd]
  | c :: a, h => by
    rw [List.cons_append, List.takeWhile_cons, if_pos (h c (by simp)), takeW hd fun x hx => h x (by simp [hx])]
theorem words_body (l : List LV) : ∀ (q : Int) (sp : List UInt8) (f n : Nat), (∀ c ∈ sp, PySem.Builtin.Bytes.isSpace c = true) → l.length < f → l.length < n →
    PySem.Builtin.Bytes.words f n (sp ++ (bodyL l q).map (·.toUInt8)) = l.map flB := by
  induction l with
  | nil =>
    intro q sp f n hs hf hn
    obtain ⟨f, rfl⟩ : ∃ g, f = g + 1 := ⟨f - 1, (Nat.sub_add_cancel (Nat.lt_of_le_of_lt (Nat.zero_le _) hf)).symm⟩
    unfold PySem.Builtin.Bytes.words
    rw [dropW hs]
    rfl
  | cons p l ih =>
    intro q sp f n hs hf hn
    obtain ⟨f, rfl⟩ : ∃ g, f = g + 1 := ⟨f - 1, (Nat.sub_add_cancel (Nat.lt_of_le_of_lt (Nat.zero_le _) hf)).symm⟩
    have h1 := flB_not p
    have h2 := sepB q
    unfold PySem.Builtin.Bytes.words
    rw [dropW hs]
    have e : (bodyL (p :: l) q).map (·.toUInt8) = flB p ++ ((sepN q).map (·.toUInt8) ++ (bodyL l (q + 1)).map (·.toUInt8)) := by simp [bodyL, flB]
    rw [e]
    obtain ⟨c, r, hc⟩ : ∃ c r, flB p = c :: r := by
      cases h : flB p with
      | nil => exact absurd h h1.1
      | cons c r => exact ⟨c, r, rfl⟩
    obtain ⟨d, r', hd⟩ : ∃ d r', (sepN q).map (·.toUInt8) = d :: r' := by
      cases h : (sepN q).map (·.toUInt8) with
      | nil => exact absurd h h2.1
      | cons c r => exact ⟨c, r, rfl⟩
    have hdr : (flB p ++ ((sepN q).map (·.toUInt8) ++ (bodyL l (q + 1)).map (·.toUInt8))).dropWhile PySem.Builtin.Bytes.isSpace = flB p ++ ((sepN q).map (·.toUInt8) ++ (bodyL l (q + 1)).map (·.toUInt8)) := by
      rw [hc, List.cons_append, List.dropWhile_cons, if_neg (by rw [h1.2 c (by rw [hc]; simp)]; simp)]
    rw [hdr]
    have hnn : (n == 0) = false := by
      simp
      omega
    have htk : (flB p ++ ((sepN q).map (·.toUInt8) ++ (bodyL l (q + 1)).map (·.toUInt8))).takeWhile (fun c => !PySem.Builtin.Bytes.isSpace c) = flB p := by
      rw [hd, List.cons_append]
      exact takeW (by rw [h2.2 d (by rw [hd]; simp)]; rfl) fun c hc => by rw [h1.2 c hc]; rfl
    have hdd : (flB p ++ ((sepN q).map (·.toUInt8) ++ (bodyL l (q + 1)).map (·.toUInt8))).dropWhile (fun c => !PySem.Builtin.Bytes.isSpace c) = (sepN q).map (·.toUInt8) ++ (bodyL l (q + 1)).map (·.toUInt8) := by
      rw [dropW fun c hc => by rw [h1.2 c hc]; rfl, hd, List.cons_append, List.dropWhile_cons, if_neg (by rw [h2.2 d (by rw [hd]; simp)]; simp)]
    rw [hc, List.cons_append] at htk hdd ⊢
    dsimp only
    rw [hnn, htk, hdd]
    simp only [Bool.false_eq_true, if_false]
    rw [ih (q + 1) _ f (n - 1) h2.2 (by simp at hf; omega) (by simp at hn; omega), List.map_cons, hc]
theorem words_shut (l : List LV) (q : Int) : PySem.Builtin.Bytes.words ((oct (bodyL l q)).size + 1) ((oct (bodyL l q)).size + 1) (oct (bodyL l q)).toList = l.map flB := by
  have h := (body_len l q).2
  have := words_body l q [] ((oct (bodyL l q)).size + 1) ((oct (bodyL l q)).size + 1) (by simp) (by rw [oct_size]; omega) (by rw [oct_size]; omega)
  simpa [oct] using this
theorem space_shut {l : List LV} (q : Int) (h : l ≠ []) : (oct (bodyL l q)).any PySem.Builtin.Bytes.isSpace = true := by
  cases l with
  | nil => exact absurd rfl h
  | cons p l =>
    have h2 := sepB q
    cases hs : (sepN q).map (·.toUInt8) with
    | nil => exact absurd hs h2.1
    | cons d r =>
      rw [Array.any_eq_true']
      refine ⟨d, ?_, h2.2 d (by rw [hs]; simp)⟩
      have : d ∈ (sepN q).map (·.toUInt8) := by rw [hs]; simp
      simp only [oct, bodyL, List.map_append, List.mem_toArray, List.mem_append]
      exact .inl (.inr this)
theorem words_open : PySem.Builtin.Bytes.words ((oct [66, 32, 92, 42]).size + 1) ((oct [66, 32, 92, 42]).size + 1) (oct [66, 32, 92, 42]).toList = [[66], [92, 42]] := by decide +kernel
theorem space_open : (oct [66, 32, 92, 42]).any PySem.Builtin.Bytes.isSpace = true := by decide +kernel
end
section
theorem getM_match57 {M : Model} {A : Around} {E : Value → Shared → Prop} {s : Shared} {P : Params} {h₀ : Heap} {L : Addr} {m : Str → Option Value} {pl : Sem Bool} {Q : Value × List Value → Shared → Prop} (F : Fr h₀ L s.heap m) (X : (Mine.hd.heap_39 P).In h₀) (h : Q (.builtin "re.Pattern.match", [.ref 57]) s) :
    wpAny M A (getMethod (.ref 57) (Str.ofString "match") pl) Q E s := by
  obtain ⟨b0, t0, t1, v4, ha⟩ := (FP.keep X F).pat
  exact getMethod_builtin ⟨_, ha, rfl⟩ plain_pat slot_match type_match (fun b e => by cases e; exact ⟨_, ha, rfl⟩) h
theorem mat_no_bool : typeLookup (.type "re.Match") "__bool__" = pure none := by rw [typeLookup_type, builtinLookup_eq_fast]; kernel_rfl
theorem mat_no_len : typeLookup (.type "re.Match") "__len__" = pure none := by rw [typeLookup_type, builtinLookup_eq_fast]; kernel_rfl
theorem truthy_mo {prog : Program} {w : World} {A : Around} {E : Value → Shared → Prop} {s : Shared} {h₀ : Heap} {L D T : Addr} {news : List (Addr × Obj)} {b : Array UInt8} {t : Tok} {li : Int} {Q : Bool → Shared → Prop} (N : News h₀ L s.heap news) (hD : (D, moO b t T li) ∈ news) (h : Q true s) :
    wpAny (model prog w) A (truthy (.ref D)) Q E s := by
  have hT : s.TypeIs (.ref D) "re.Match" := ⟨_, (N _ hD).1, rfl⟩
  unfold truthy
  refine wpAny_bind (wpAny_callSpecial?_none (name := Str.ofString "__bool__") hT mat_no_bool ?_)
  refine wpAny_bind (wpAny_specialOf (name := Str.ofString "__len__") hT mat_no_len ?_)
  exact wpAny_pure h
theorem tuple_octs {prog : Program} {w : World} {A : Around} {E : Value → Shared → Prop} {s : Shared} {h₀ : Heap} {L l : Addr} {m : Str → Option Value} {news : List (Addr × Obj)} {items : List Value} {k : Nat} {ws : List (List UInt8)} {Q : Value → Shared → Prop} (F : Fr h₀ L s.heap m) (N : News h₀ L s.heap news)
    (hm : (l, listOf items.toArray k) ∈ news) (ho : Octs items ws) (hl : ws.length ≤ 1000)
    (h : ∀ D h', Fr h₀ L h' m → News h₀ L h' ((D, tupV items 0) :: news) → (∀ p ∈ news, p.1 < D) → Q (.ref D) { s with heap := h' }) : wpAny (model prog w) A (call (.type "tuple") [.ref l]) Q E s :=
  kde_tupleOf F N ⟨_, (N _ hm).1, rfl, k, rfl⟩ (by rw [List.size_toArray, ho.len]; omega) (by simp) h
theorem news_top {g h : Heap} {L : Addr} {p : Addr × Obj} {N news : List (Addr × Obj)} (H : News g L h (p :: N)) (hs : ∀ q ∈ news, q ∈ N) : News g L h (p :: news) := by
  intro q hq
  rcases List.mem_cons.mp hq with rfl | hq
  · exact H _ (List.mem_cons_self ..)
  · exact H _ (List.mem_cons_of_mem _ (hs _ hq))
section
variable {w : World} {mean : ExcName → Option Value} {mg mb : Str → Option Value} {news : List (Addr × Obj)}
theorem parse_c {b : Array UInt8} {t : Tok} {lo hi : Nat} {ws : List (List UInt8)} (H : Hit b lo hi) (hsp : (b.extract lo hi).any PySem.Builtin.Bytes.isSpace = true)
    (hw : PySem.Builtin.Bytes.words ((b.extract lo hi).size + 1) ((b.extract lo hi).size + 1) (b.extract lo hi).toList = ws) (hz : ∀ w ∈ ws, w.length ≤ 16777216) (hl : ws.length ≤ 1000) :
    CkClaim w mean mg mb 3 64 news [.bytes b t] [] (fun v news' => ∃ a xs k, v = .ref a ∧ Octs xs ws ∧ news' = (a, tupV xs k) :: news) := by
  have hb := H.size
  dsimp only [CkClaim]
  intros
  rename_i hret
  (refine wpAny_call ?_; (k_dflt (first | (refine' code_def ?k1 ?k2 ?k3 ?k4 ?k5 ?kA ?kF ?kK ?k6 ?k7 ?k8 ?k9 ?kB ?_ ?c2 ?c3 ?c4 ?c5; (case kA => exact rfl); (case kF => exact rfl); (case kK => first | exact rfl | assumption); (case k1 => k_asm); (case k2 => k_asm); (case k3 => k_asm); (case k4 => k_asm); (case k5 => k_asm); (case k6 => k_is); (case k7 => k_is); (case k8 => first | exact room_a (by assumption) (by decide) | omega | ktr_room | k_room); (case k9 => first | exact BindsTo.of_eq rfl | exact binds_K (by k_in) rfl (by k_is) rfl rfl rfl); (case c5 => decide); (case kB => exact locs rfl); (case c2 => exact rfl); (case c3 => exact rfl); (case c4 => exact rfl); k_whole; intro gE LE hE FGE FE NE BE XE TE; (try dsimp only); (try k_lift BE); (try k_fold)) | (refine' code_defC ?k1 ?k2 ?k3 ?k4 ?k5 ?kA ?kF ?kK ?k6 ?k7 ?k8 ?k9 ?kB ?kD ?_ ?c2 ?c3 ?c4; (case kA => exact rfl); (case kF => exact rfl); (case kK => first | exact rfl | assumption); (case k1 => k_asm); (case k2 => k_asm); (case k3 => k_asm); (case k4 => k_asm); (case k5 => k_asm); (case k6 => k_is); (case k7 => k_is); (case k8 => first | exact room_a (by assumption) (by decide) | omega | ktr_room | k_room); (case k9 => first | exact BindsTo.of_eq rfl | exact binds_K (by k_in) rfl (by k_is) rfl rfl rfl); (case kB => exact rfl); (case kD => decide +kernel); (case c2 => exact rfl); (case c3 => exact rfl); (case c4 => exact rfl); k_whole; intro gE LE hE tkE cells' FGE FE NE YE BE XE TE lE; (try k_lt lE); k_cells YE; (try simp only [List.cons_append, List.nil_append] at NE); (try dsimp only); (try k_lift BE); (try k_fold)))))
  (k_steps; repeat' (first | ((with_reducible (refine Stop.into ?_; (with_reducible show wpAny _ _ (call (Value.builtin "bytes.split") _ _) _ _ _); k_dflt (refine' split_ok ?F ?N ?hsp ?hw ?hz ?hl ?_; (case F => k_asm); (case N => k_asm); (case hsp => assumption); (case hw => assumption); (case hz => assumption); (case hl => assumption); intro _ _ _ _ _ _ _ _))); k_steps) | ((with_reducible (refine Stop.into ?_; (with_reducible show wpAny _ _ (call (Value.builtin "re.Match.group") _ _) _ _ _); k_dflt (refine' group_hit ?F ?N ?X ?hD ?hT ?hb ?_; (case F => k_asm); (case N => k_asm); (case X => k_asm); (case hD => k_mem); (case hT => k_mem); (case hb => assumption); intro _ _))); k_steps) | ((with_reducible (refine Stop.into ?_; (with_reducible show wpAny _ _ (call (Value.builtin "re.Pattern.match") _ _) _ _ _); k_dflt (refine' match_hit ?F ?N ?X ?H ?_; (case F => k_asm); (case N => k_asm); (case X => k_asm); (case H => assumption); intro _ _ _ _ _ _ _ _))); k_steps) | ((with_reducible (refine Stop.into ?_; (with_reducible show wpAny _ _ (call (Value.type "tuple") _ _) _ _ _); k_dflt (refine' tuple_octs ?F ?N ?hm ?ho ?hl ?_; (case F => k_asm); (case N => k_asm); (case hm => k_mem); (case ho => assumption); (case hl => first | assumption | (simp only [List.length_map]; omega)); intro _ _ _ _ _))); k_steps) | ((with_reducible (refine Stop.into ?_; (with_reducible show wpAny _ _ (getMethod (Value.bytes _ _) (Str.ofString "split") _) _ _ _); (refine getM_split ?_))); k_steps) | ((with_reducible (refine Stop.into ?_; (with_reducible show wpAny _ _ (getMethod (Value.ref _) (Str.ofString "group") _) _ _ _); k_dflt (refine' getM_group ?N ?hD ?_; (case N => k_asm); (case hD => k_mem)))); k_steps) | ((with_reducible (refine Stop.into ?_; (with_reducible show wpAny _ _ (getMethod (Value.ref _) (Str.ofString "match") _) _ _ _); k_dflt (refine' getM_match57 ?F ?X ?_; (case F => k_asm); (case X => k_asm)))); k_steps) | ((with_reducible (refine Stop.into ?_; (with_reducible show wpAny _ _ (truthy (Value.ref _)) _ _ _); k_dflt (refine' truthy_mo ?N ?hD ?_; (case N => k_asm); (case hD => k_mem)))); k_steps) | fail))
  rename Octs _ ws => ho
  rename News _ _ _ _ => lN
  exact hret _ _ _ _ (by k_asm) (news_top lN (by (intro p hp; (repeat (first | exact hp | assumption | refine List.mem_cons_of_mem _ ?_))))) ⟨_, _, _, rfl, ho, rfl⟩
theorem parse_shut {l : List LV} {q : Int} {t : Tok} (h0 : l ≠ []) (hz : l.length ≤ 10) :
    CkClaim w mean mg mb 3 64 news [.bytes (oct (headL ++ (bodyL l q ++ tailL))) t] [] (fun v news' => ∃ a xs k, v = .ref a ∧ Octs xs (l.map flB) ∧ news' = (a, tupV xs k) :: news) := by
  have hb := (body_len l q).1
  refine parse_c (hit_shut (body_ok l q) (by omega)) ?_ ?_ ?_ ?_
  · rw [part_shut]; exact space_shut q h0
  · rw [part_shut]; exact words_shut l q
  · intro w hw
    obtain ⟨p, _, rfl⟩ := List.mem_map.mp hw
    have := (fl_len p).2
    simp [flB]; omega
  · rw [List.length_map]; omega
theorem parse_open {l : List LV} {q : Int} {t : Tok} (hz : l.length ≤ 10) :
    CkClaim w mean mg mb 3 64 news [.bytes (oct (headL ++ bodyL l q)) t] [] (fun v news' => ∃ a xs k, v = .ref a ∧ Octs xs [[66], [92, 42]] ∧ news' = (a, tupV xs k) :: news) := by
  have hb := (body_len l q).1
  refine parse_c (hit_open (body_ok l q) (by omega)) ?_ ?_ ?_ ?_
  · rw [part_open]; exact space_open
  · rw [part_open]; exact words_open
  · decide
  · decide
end
end
section
section
variable {prog : Program} {w : World} {A : Around} {E : Value → Shared → Prop} {s : Shared} {env : Env} {h₀ : Heap} {body : List Stmt} {Q : Flow → Shared → Prop}
theorem range_indM {target : Expr} {I : Addr} {cl : String} {m₀ : Str → Option Value} {n : Nat} {a : Int} (names : List Str) (J : Nat → List (Addr × Obj) → (Str → Option Value) → Prop)
    (turn : ∀ i news u h tk o tt, i < n → J i news u → o.cls = .type cl → Fr h₀ env.locals h (ovr u m₀ names) → News h₀ env.locals h ((I, o) :: news) →
      wpAny (model prog w) A (assign target env (.int (a + (i : Nat)) tt)) (fun _ s₂ => wpAny (model prog w) A (execs body env) (UnrPostW h₀ env.locals { s with heap := h, toks := tk } [(I, o)] (fun m' n' => SubL [] n' ∧ (∀ z, z ∉ names → m' z = m₀ z) ∧ J (i + 1) n' m') Q) E s₂) E { s with heap := h, toks := tk })
    (done : ∀ news u h tk, J n news u → Fr h₀ env.locals h (ovr u m₀ names) → News h₀ env.locals h news → Q .next { s with heap := h, toks := tk }) :
    ∀ k i m₁ news, i + k = n → (∀ z, z ∉ names → m₁ z = m₀ z) → J i news m₁ → ItemsRest prog w A E h₀ env target body Q s [(I, cl)] [] (rngItems a i k) m₁ news := by
  intro k
  induction k with
  | zero =>
    intro i m₁ news hi hm hJ
    refine ItemsRest.zero fun h tk F N => ?_
    rw [ovr_eq hm] at F
    exact done news m₁ h tk (by rw [show n = i from hi.symm]; exact hJ) F N
  | succ k ih =>
    intro i m₁ news hi hm hJ
    have hi2 : i + 1 + k = n := by rw [Nat.add_right_comm]; exact hi
    refine ItemsRest.tok fun tt h tk F => AllObj.cons fun o hc => AllObj.nil fun N => ?_
    rw [ovr_eq hm] at F
    exact wpAny_mono (turn i news m₁ h tk o tt (hi ▸ Nat.lt_add_of_pos_right (Nat.succ_pos k)) hJ hc F N) (fun _ s₂ h₂ => wpAny_mono h₂ (fun f s₃ h₃ => unr_mono h₃ fun m n' ⟨a, b, c⟩ => ⟨a, ih (i + 1) m n' hi2 b c⟩) fun _ _ e => e) fun _ _ e => e
theorem ovr_at {u m₀ : Str → Option Value} {a : Str} : ∀ {names : List Str}, a ∈ names → ovr u m₀ names a = u a
  | [], h => by cases h
  | b :: r, h => by
    unfold ovr
    split
    · rfl
    · rename_i n
      exact ovr_at ((List.mem_cons.mp h).resolve_left n)
theorem ovr_known {u m₀ : Str → Option Value} {a : Str} {v : Option Value} {names : List Str} (hu : u a = v) (ha : a ∈ names) : ovr u m₀ names = fun z => if z = a then v else ovr u m₀ names z := by
  funext z
  split
  · rename_i e
    rw [e, ovr_at ha, hu]
  · rfl
end
section
open PySem.Builtin
variable {prog : Program} {w : World} {A : Around} {E : Value → Shared → Prop} {s : Shared} {h₀ : Heap} {L D : Addr} {m : Str → Option Value} {news : List (Addr × Obj)} {t u : Tok} {Q : Value → Shared → Prop}
/-- the kind that a figure tells -/
def kd (g : Int) : Fin 5 := ⟨(g.fmod 5).toNat % 5, Nat.mod_lt _ (by omega)⟩
theorem kd_val {g : Int} : g.fmod 5 = ((kd g).val : Nat) := by
  have h0 := Int.fmod_nonneg_of_pos g (b := 5) (by omega)
  have h1 := Int.fmod_lt_of_pos g (b := 5) (by omega)
  show _ = (((g.fmod 5).toNat % 5 : Nat) : Int)
  omega
theorem pow_ten {i : Nat} (hi : i < 4) (h : ∀ p : Int, 0 < p → p ≤ 1000 → ∀ t k, Q (.int p t) { s with toks := k }) : wpAny (model prog w) A (binaryOp .Pow (.int 10 t) (.int (0 + (i : Nat)) u)) Q E s := by
  refine pow_int_small (by omega) (by omega) (by decide) (h _ ?_ ?_ _ _)
  · rw [show (0 + (i : Int)).toNat = i by omega]
    exact Int.pow_pos (by decide)
  · rw [show (0 + (i : Int)).toNat = i by omega]
    have : i = 0 ∨ i = 1 ∨ i = 2 ∨ i = 3 := by omega
    rcases this with rfl | rfl | rfl | rfl <;> decide
theorem div_small {a p : Int} (h0 : 0 < p) (h1 : p ≤ 1000) (h : ∀ g t k, Q (.int g t) { s with toks := k }) : wpAny (model prog w) A (binaryOp .FloorDiv (.int a t) (.int p u)) Q E s :=
  floordiv_int (by omega) (h _ _ _) (Or.inl (PyProof.noPylong_of_log2 (by
    by_cases hz : p.natAbs = 0
    · rw [hz]; decide
    · exact (Nat.log2_lt hz).mpr (Nat.lt_of_lt_of_le (show p.natAbs < 2 ^ 10 by omega) (Nat.pow_le_pow_right (by omega) (by omega))))))
theorem div_q {a q : Int} (hq : q = a.fdiv 10000) (h : ∀ t k, Q (.int q t) { s with toks := k }) : wpAny (model prog w) A (binaryOp .FloorDiv (.int a t) (.int 10000 u)) Q E s :=
  floordiv_int (by decide) (by rw [← hq]; exact h _ _)
theorem mod_ten {a : Int} (h : ∀ g t k, 0 ≤ g → g < 10 → Q (.int g t) { s with toks := k }) : wpAny (model prog w) A (binaryOp .Mod (.int a t) (.int 10 u)) Q E s :=
  mod_int' (by decide) (h _ _ _ (Int.fmod_nonneg_of_pos _ (by decide)) (Int.fmod_lt_of_pos _ (by decide)))
theorem mod_five {g : Int} (h : ∀ t k, Q (.int ((kd g).val : Nat) t) { s with toks := k }) : wpAny (model prog w) A (binaryOp .Mod (.int g t) (.int 5 u)) Q E s :=
  mod_int' (by decide) (by rw [kd_val]; exact h _ _)
abbrev wordsO (t0 t1 t2 t3 t4 : Tok) (n : Nat) : Obj := listOf #[.str (Str.ofString "a") t0, .str (Str.ofString "ab") t1, .str (Str.ofString "\\a") t2, .str (Str.ofString "b") t3, .str (Str.ofString "ba") t4] n
theorem word_of : ∀ x : Fin 5, ([Str.ofString "a", Str.ofString "ab", Str.ofString "\\a", Str.ofString "b", Str.ofString "ba"] : List Str)[x.val]? = some (fs x false) := by decide +kernel
theorem item_words {value slice : Expr} {x : Fin 5} {n : Nat} {t0 t1 t2 t3 t4 : Tok} (N : News h₀ L s.heap news) (hm : (D, wordsO t0 t1 t2 t3 t4 n) ∈ news) (h : ∀ t, Q (.str (fs x false) t) s)
    (hs : subscripted slice false (.ref D) (.int (x.val : Nat) u) = operate [.ref D, .int (x.val : Nat) u] (getItem (.ref D) (.int (x.val : Nat) u)) := by with_unfolding_all rfl) (hg : ∀ r, letTemporaryGo value (.ref D) r = pure () := by intro _; with_unfolding_all rfl) :
    wpAny (model prog w) A (subscriptTail value slice (.ref D) (.int (x.val : Nat) u)) Q E s := by
  have key : ∃ t, [Value.str (Str.ofString "a") t0, .str (Str.ofString "ab") t1, .str (Str.ofString "\\a") t2, .str (Str.ofString "b") t3, .str (Str.ofString "ba") t4][((x.val : Nat) : Int).toNat]? = some (.str (fs x false) t) := by
    rw [Int.toNat_natCast]
    have h := word_of x
    obtain ⟨i, hi⟩ := x
    have : i = 0 ∨ i = 1 ∨ i = 2 ∨ i = 3 ∨ i = 4 := by omega
    rcases this with rfl | rfl | rfl | rfl | rfl <;> (injection h with h; rw [← h]; exact ⟨_, rfl⟩)
  obtain ⟨t, e⟩ := key
  exact kim_list N hm rfl rfl (Int.natCast_nonneg _) (by have := x.isLt; omega) e (h t) hs hg
theorem sep_of (q : Int) : ([Str.ofString " ", Str.ofString "\t", Str.ofString "\r\n"] : List Str)[(q.fmod 3).toNat]? = some (txt (sepN q)) := by
  have h0 : q.fmod 3 = q % 3 := Int.fmod_eq_emod_of_nonneg q (by decide)
  rw [h0]
  have : q % 3 = 0 ∨ q % 3 = 1 ∨ q % 3 = 2 := by omega
  unfold sepN
  rcases this with h | h | h <;> rw [h] <;> decide +kernel
theorem mod_three {a : Int} (h : ∀ g t k, g = a.fmod 3 → Q (.int g t) { s with toks := k }) : wpAny (model prog w) A (binaryOp .Mod (.int a t) (.int 3 u)) Q E s :=
  mod_int' (by decide) (h _ _ _ rfl)
theorem item_sep {value slice : Expr} {q g : Int} {n : Nat} {t0 t1 t2 : Tok} (he : g = q.fmod 3) (N : News h₀ L s.heap news) (hm : (D, listOf #[.str (Str.ofString " ") t0, .str (Str.ofString "\t") t1, .str (Str.ofString "\r\n") t2] n) ∈ news) (h : ∀ t, Q (.str (txt (sepN q)) t) s)
    (hs : subscripted slice false (.ref D) (.int g u) = operate [.ref D, .int (q.fmod 3) u] (getItem (.ref D) (.int g u)) := by with_unfolding_all rfl) :
    wpAny (model prog w) A (subscriptTail value slice (.ref D) (.int g u)) Q E s := by
  have h0 := Int.fmod_nonneg_of_pos q (b := 3) (by omega)
  have h1 := Int.fmod_lt_of_pos q (b := 3) (by omega)
  have key : ∃ t, [Value.str (Str.ofString " ") t0, .str (Str.ofString "\t") t1, .str (Str.ofString "\r\n") t2][(q.fmod 3).toNat]? = some (.str (txt (sepN q)) t) := by
    have h := sep_of q
    have : (q.fmod 3).toNat = 0 ∨ (q.fmod 3).toNat = 1 ∨ (q.fmod 3).toNat = 2 := by omega
    rcases this with e | e | e <;> (rw [e] at h ⊢; injection h with h; rw [← h]; exact ⟨_, rfl⟩)
  obtain ⟨t, e⟩ := key
  rw [← he] at e h0 h1
  exact kba_turn (value' := PySem.Expr.Name (PySem.Str.ofString "_") ⟨0, 0, 0, 0⟩) (fun _ => rfl) (kim_list N hm rfl rfl h0 (by simp; omega) e (h t) hs (fun _ => rfl))
theorem fs_txt (x : Fin 5) (b : Bool) : fs x b = txt (fl (x, b)) := by
  show fs x b = ⟨(fs x b).cps.toList.toArray⟩
  rw [Array.toArray_toList]
theorem txt_add (a b : List Nat) : txt a ++ txt b = txt (a ++ b) := by
  show (⟨a.toArray ++ b.toArray⟩ : Str) = ⟨(a ++ b).toArray⟩
  simp
theorem txt_len (a : List Nat) : (txt a).length = a.length := by show a.toArray.size = _; simp
theorem fsep_len (x : Fin 5) (b : Bool) (q : Int) : (fl (x, b) ++ sepN q).length ≤ 1000 := by
  have := (fl_len (x, b)).2
  have := (sep_len q).2
  rw [List.length_append]
  omega
theorem add_fsep {x : Fin 5} {b : Bool} {q : Int} (h : ∀ t' k, Q (.str (txt (fl (x, b) ++ sepN q)) t') { s with toks := k }) : wpAny (model prog w) A (binaryOp .Add (.str (fs x b) t) (.str (txt (sepN q)) u)) Q E s :=
  add_str (fun t' k => by rw [fs_txt, txt_add]; exact h t' k) (by have := short_fs x b; have := sep_len q; rw [txt_len, sizeLine_eq]; omega)
theorem iadd_txt {a b : List Nat} (ha : a.length ≤ 1000) (hb : b.length ≤ 1000) (h : ∀ t' k, Q (.str (txt (a ++ b)) t') { s with toks := k }) : wpAny (model prog w) A (inplaceOp .Add (.str (txt a) t) (.str (txt b) u)) Q E s :=
  iadd_str (fun t' k => by rw [txt_add]; exact h t' k) (by rw [txt_len, txt_len, sizeLine_eq]; omega)
theorem add_head {a : List Nat} (ha : a.length ≤ 1000) (h : ∀ t' k, Q (.str (txt (headL ++ a)) t') { s with toks := k }) : wpAny (model prog w) A (binaryOp .Add (.str (Str.ofString "* 3 FETCH (PERMANENTFLAGS (B \\*) FLAGS (") t) (.str (txt a) u)) Q E s := by
  rw [head_txt]
  exact add_str (fun t' k => by rw [txt_add]; exact h t' k) (by rw [txt_len, txt_len, sizeLine_eq, show headL.length = 40 from rfl]; omega)
theorem add_end {a : List Nat} (ha : a.length ≤ 1000) (h : ∀ t' k, Q (.str (txt (headL ++ (a ++ tailL))) t') { s with toks := k }) : wpAny (model prog w) A (binaryOp .Add (.str (txt (headL ++ a)) t) (.str (Str.ofString "))\r\n* 4 FETCH (FLAGS (ab))") u)) Q E s := by
  rw [tail_txt]
  exact add_str (fun t' k => by rw [txt_add, List.append_assoc]; exact h t' k) (by rw [txt_len, txt_len, sizeLine_eq, List.length_append, show headL.length = 40 from rfl, show tailL.length = 26 from rfl]; omega)
theorem upper_call {x : Fin 5} (h : ∀ t' k, Q (.str (fs x true) t') { s with toks := k }) : wpAny (model prog w) A (call (.builtin "str.upper") [.str (fs x false) t]) Q E s :=
  KXw.upper (upper_fs x) (by rw [upper_fs]; have := short_fs x true; unfold Builtin.Str.tooLong; rw [sizeLine_eq]; exact decide_eq_false (by omega)) h
theorem encode_txt {a : List Nat} (ha : a ≠ []) (hz : a.length ≤ 2000) (hl : ∀ c ∈ a, c < 128) (h : ∀ t' k, Q (.bytes (oct a) t') { s with toks := k }) : wpAny (model prog w) A (call (.builtin "str.encode") [.str (txt a) t]) Q E s := by
  cases a with
  | nil => exact absurd rfl ha
  | cons c l => exact encode_ok hl (by omega) h
theorem encode_fs {x : Fin 5} {b : Bool} (h : ∀ t' k, Q (.bytes (flB (x, b)).toArray t') { s with toks := k }) : wpAny (model prog w) A (call (.builtin "str.encode") [.str (fs x b) t]) Q E s := by
  rw [fs_txt]
  refine encode_txt ?_ ?_ ?_ h
  · have := (fl_len (x, b)).1
    intro e; rw [e] at this; simp at this
  · have := (fl_len (x, b)).2; omega
  · exact fun c hc => (fl_ok (x, b) c hc).1
end
end
section
def FlagJ (q : Int) (news : List (Addr × Obj)) (Dr Dw : Addr) (wO : Obj) (i : Nat) (n' : List (Addr × Obj)) (m : Str → Option Value) : Prop :=
  ∃ l ys k t, l.length = i ∧ m (Str.ofString "text") = some (.str (txt (bodyL l q)) t) ∧ (Dr, listOf (List.toArray ys) k) ∈ n' ∧ (Dw, wO) ∈ n' ∧ Lasts n' ys l ∧ (∀ p ∈ news, p ∈ n') ∧ ∀ p ∈ (Dw, wO) :: news, p.1 ≠ Dr
theorem FlagJ.nil {q : Int} {news n' : List (Addr × Obj)} {Dr Dw : Addr} {wO : Obj} {m : Str → Option Value} {t : Tok} (h1 : m (Str.ofString "text") = some (.str (Str.ofString "") t)) (h2 : (Dr, listOf (List.toArray []) 0) ∈ n') (h3 : (Dw, wO) ∈ n') (h4 : ∀ p ∈ news, p ∈ n')
    (h5 : ∀ p ∈ (Dw, wO) :: news, p.1 ≠ Dr) : FlagJ q news Dr Dw wO 0 n' m :=
  ⟨[], [], 0, t, rfl, by rw [h1]; rfl, h2, h3, .nil, h4, h5⟩
theorem Lasts.keepL {h₀ h : Heap} {L l : Addr} {news news' : List (Addr × Obj)} {its : Array Value} {k : Nat} (N : News h₀ L h news) (hl : (l, listOf its k) ∈ news) (hk : ∀ p ∈ news, p.1 ≠ l → p ∈ news') {items : List Value} {ls : List LV} (hR : Lasts news items ls) : Lasts news' items ls := by
  induction hR with
  | nil => exact .nil
  | cons h _ ih => exact .cons (hk _ h (ne_objs N h hl (by intro e; injection e with e; exact absurd e (by decide)))) ih
theorem Lasts.offR {h₀ h : Heap} {L I : Addr} {o : Obj} {news news' : List (Addr × Obj)} (N : News h₀ L h news) (hI : (I, o) ∈ news) (hc : o.cls = .type "range_iterator") (hk : ∀ p ∈ news, p.1 ≠ I → p ∈ news') {items : List Value} {ls : List LV} (hR : Lasts news items ls) : Lasts news' items ls := by
  induction hR with
  | nil => exact .nil
  | cons h _ ih => exact .cons (hk _ h (ne_objs N h hI (by rw [hc]; intro e; injection e with e; exact absurd e (by decide)))) ih
theorem flag_fin {q : Int} {news n' n2 : List (Addr × Obj)} {g h1 h2 : Heap} {L I Dr Dw D Ds : Addr} {o wO sO : Obj} {l : List LV} {ys : List Value} {k i : Nat} {x : Fin 5} {b : Bool} {t t1 t2 : Tok} {m' : Str → Option Value}
    (_F2 : Fr g L h2 m') (N1 : News g L h1 ((I, o) :: n')) (N2 : News g L h2 ((Ds, sO) :: n2)) (hc : o.cls = .type "range_iterator") (hlt : ∀ p ∈ n', p.1 < D) (hI : ∀ p ∈ (Dw, wO) :: news, p.1 < I)
    (hDr : (Dr, listOf (List.toArray ys) k) ∈ n') (hDw : (Dw, wO) ∈ n') (hys : Lasts n' ys l) (hse : ∀ p ∈ news, p ∈ n') (hne : ∀ p ∈ (Dw, wO) :: news, p.1 ≠ Dr)
    (hk : ∀ p ∈ (D, tupL x b t1 t2) :: (I, o) :: n', p.1 ≠ Dr → p ∈ n2) (hp : (Dr, listOf ((List.toArray ys).push (.ref D)) (k + 1)) ∈ n2)
    (hl : l.length = i) (hm : m' (Str.ofString "text") = some (.str (txt (bodyL l q ++ (fl (x, b) ++ sepN (q + (0 + (i : Nat)))))) t)) : FlagJ q news Dr Dw wO (i + 1) (cut I n2) m' ∧ (I, o) ∈ (Ds, sO) :: n2 := by
  have hIr : I ≠ Dr := ne_objs N1 (List.mem_cons_self ..) (List.mem_cons_of_mem _ hDr) (by rw [hc]; intro e; injection e with e; exact absurd e (by decide))
  have hDne : D ≠ Dr := fun e => Nat.lt_irrefl _ (e ▸ hlt _ hDr)
  have hI2 : (I, o) ∈ n2 := hk _ (List.mem_cons_of_mem _ (List.mem_cons_self ..)) hIr
  have hD2 : (D, tupL x b t1 t2) ∈ n2 := hk _ (List.mem_cons_self ..) hDne
  have N3 : News g L h2 n2 := fun p hp => N2 p (List.mem_cons_of_mem _ hp)
  have hDI : D ≠ I := ne_objs N3 hD2 hI2 (by rw [hc]; intro e; injection e with e; exact absurd e (by decide))
  have hk2 : ∀ p ∈ n', p.1 ≠ Dr → p ∈ n2 := fun p hp hq => hk p (List.mem_cons_of_mem _ (List.mem_cons_of_mem _ hp)) hq
  have hys2 : Lasts n2 ys l := hys.keepL (fun p hp => N1 p (List.mem_cons_of_mem _ hp)) hDr hk2
  refine ⟨⟨l ++ [(x, b)], ys ++ [.ref D], k + 1, t, ?_, ?_, ?_, ?_, ?_, ?_, hne⟩, List.mem_cons_of_mem _ hI2⟩
  · rw [List.length_append, hl]; rfl
  · rw [hm, body_append, hl, Int.zero_add]
  · refine cut_mem _ ?_ (fun e => hIr e.symm)
    simpa using hp
  · exact cut_mem _ (hk2 _ hDw (hne _ (List.mem_cons_self ..))) (Nat.ne_of_lt (hI _ (List.mem_cons_self ..)))
  · exact Lasts.append (.cons (cut_mem _ hD2 hDI) .nil) (hys2.offR N3 hI2 hc cut_mem)
  · exact fun p hp => cut_mem _ (hk2 _ (hse _ hp) (hne _ (List.mem_cons_of_mem _ hp))) (Nat.ne_of_lt (hI _ (List.mem_cons_of_mem _ hp)))
section
variable {w : World} {mean : ExcName → Option Value} {mg mb : Str → Option Value} {news : List (Addr × Obj)}
theorem flags_c {cell : Int} {t : Tok} : CkClaim w mean mg mb 6 206 news [.int cell t] [] (fun v news' => ∃ a ys k l, v = .ref a ∧ (a, listOf (List.toArray ys) k) ∈ news' ∧ Lasts news' ys l ∧ l.length = 4 ∧ (∀ p ∈ news, p ∈ news') ∧ ∀ p ∈ news, p.1 ≠ a) := by
  dsimp only [CkClaim]
  intros
  rename_i hret
  (refine wpAny_call ?_; (k_dflt (first | (refine' code_def ?k1 ?k2 ?k3 ?k4 ?k5 ?kA ?kF ?kK ?k6 ?k7 ?k8 ?k9 ?kB ?_ ?c2 ?c3 ?c4 ?c5; (case kA => exact rfl); (case kF => exact rfl); (case kK => first | exact rfl | assumption); (case k1 => k_asm); (case k2 => k_asm); (case k3 => k_asm); (case k4 => k_asm); (case k5 => k_asm); (case k6 => k_is); (case k7 => k_is); (case k8 => first | exact room_a (by assumption) (by decide) | omega | ktr_room | k_room); (case k9 => first | exact BindsTo.of_eq rfl | exact binds_K (by k_in) rfl (by k_is) rfl rfl rfl); (case c5 => decide); (case kB => exact locs rfl); (case c2 => exact rfl); (case c3 => exact rfl); (case c4 => exact rfl); k_whole; intro gE LE hE FGE FE NE BE XE TE; (try dsimp only); (try k_lift BE); (try k_fold)) | (refine' code_defC ?k1 ?k2 ?k3 ?k4 ?k5 ?kA ?kF ?kK ?k6 ?k7 ?k8 ?k9 ?kB ?kD ?_ ?c2 ?c3 ?c4; (case kA => exact rfl); (case kF => exact rfl); (case kK => first | exact rfl | assumption); (case k1 => k_asm); (case k2 => k_asm); (case k3 => k_asm); (case k4 => k_asm); (case k5 => k_asm); (case k6 => k_is); (case k7 => k_is); (case k8 => first | exact room_a (by assumption) (by decide) | omega | ktr_room | k_room); (case k9 => first | exact BindsTo.of_eq rfl | exact binds_K (by k_in) rfl (by k_is) rfl rfl rfl); (case kB => exact rfl); (case kD => decide +kernel); (case c2 => exact rfl); (case c3 => exact rfl); (case c4 => exact rfl); k_whole; intro gE LE hE tkE cells' FGE FE NE YE BE XE TE lE; (try k_lt lE); k_cells YE; (try simp only [List.cons_append, List.nil_append] at NE); (try dsimp only); (try k_lift BE); (try k_fold)))))
  k_steps
  rename _ < _ ∧ AllLt _ news => hwr
  obtain ⟨q, hq⟩ : ∃ q, q = cell.fdiv 10000 := ⟨_, rfl⟩
  refine Stop.into (iter_rangeT (n := 4) rfl (by k_asm) (by k_asm) (by assumption) (by decide) (by rfl) fun I hI => ?_)
  refine range_indM (I := I) [Str.ofString "j", Str.ofString "figure", Str.ofString "flag", Str.ofString "text"] (FlagJ q news _ _ _) ?turn ?done 4 0 _ _ (Nat.zero_add _) (fun _ _ => rfl) (FlagJ.nil (by rfl) (List.Mem.tail _ (List.Mem.head _)) (List.Mem.tail _ (List.Mem.tail _ (List.Mem.head _))) (by (intro p hp; (repeat (first | exact hp | assumption | refine List.mem_cons_of_mem _ ?_)))) (fun p hp => Nat.ne_of_lt (allLt_mem (l := (_, _) :: news) hwr p hp)))
  case turn =>
    rintro i n' u h' tk' o tt hi ⟨l, ys, k, t', hl, ht, hDr, hDw, hys, hse, hne⟩ hc' F' N'
    have hbl : (bodyL l q).length ≤ 1000 := by have := (body_len l q).1; omega
    have hyl := hys.len
    rw [ovr_known ht (by simp)] at F'
    have hIw : ∀ p ∈ (_, wordsO _ _ _ _ _ _) :: news, p.1 < I := fun p hp => hI p (List.mem_cons_of_mem _ (List.mem_cons_of_mem _ hp))
    have N0 := N'
    (k_steps; repeat' (first | ((with_reducible (refine Stop.into ?_; (with_reducible show wpAny _ _ (subscriptTail (Expr.Name _ _) (Expr.BinOp _ _ _ _) (Value.ref _) (Value.int _ _)) _ _ _); k_dflt (refine' item_words ?N ?hm ?_; (case N => k_asm); (case hm => first | assumption | (repeat (first | assumption | refine List.mem_cons_of_mem _ ?_))); intro _); (try dsimp only))); k_steps) | ((with_reducible (refine Stop.into ?_; (with_reducible show wpAny _ _ (binaryOp Operator.Add (Value.str _ _) (Value.str _ _)) _ _ _); refine add_fsep ?_; intro _ _; (try dsimp only))); k_steps) | ((with_reducible (refine Stop.into ?_; (with_reducible show wpAny _ _ (binaryOp Operator.FloorDiv (Value.int _ _) (Value.int _ _)) _ _ _); refine div_q (by assumption) ?_; intro _ _; (try dsimp only))); k_steps) | ((with_reducible (refine Stop.into ?_; (with_reducible show wpAny _ _ (binaryOp Operator.FloorDiv (Value.int _ _) (Value.int _ _)) _ _ _); refine div_small (by assumption) (by assumption) ?_; intro _ _ _; (try dsimp only))); k_steps) | ((with_reducible (refine Stop.into ?_; (with_reducible show wpAny _ _ (binaryOp Operator.Mod (Value.int _ _) (Value.int _ _)) _ _ _); refine mod_three ?_; intro _ _ _ _; (try dsimp only))); k_steps) | ((with_reducible (refine Stop.into ?_; (with_reducible show wpAny _ _ (binaryOp Operator.Mod (Value.int _ _) (Value.int _ _)) _ _ _); refine mod_five ?_; intro _ _; (try dsimp only))); k_steps) | ((with_reducible (refine Stop.into ?_; (with_reducible show wpAny _ _ (binaryOp Operator.Mod (Value.int _ _) (Value.int _ _)) _ _ _); refine mod_ten ?_; intro _ _ _ _ _; (try dsimp only))); k_steps) | ((with_reducible (refine Stop.into ?_; (with_reducible show wpAny _ _ (binaryOp Operator.Pow (Value.int _ _) (Value.int _ _)) _ _ _); refine pow_ten (by assumption) ?_; intro _ _ _ _ _; (try dsimp only))); k_steps) | ((with_reducible (refine Stop.into ?_; (with_reducible show wpAny _ _ (inplaceOp Operator.Add (Value.str _ _) (Value.str _ _)) _ _ _); refine iadd_txt (by assumption) (fsep_len _ _ _) ?_; intro _ _; (try dsimp only))); k_steps) | ((with_reducible (refine Stop.into ?_; (with_reducible show wpAny _ _ (call (Value.builtin _) [Value.ref _, _]) _ _ _); k_dflt (first | (refine' append_K ?k1 ?k2 ?k3 ?_ ?z; (case k1 => k_asm); (case k2 => k_asm); (case k3 => k_upd); (case z => first | size_fits | (simp only [sizeLine_eq, List.size_toArray]; omega)); k_whole; intro _ _ _; (try k_sweep)) | (refine' append_M ?k1 ?k2 ?k3 ?z ?_; (case k1 => k_asm); (case k2 => k_asm); (case k3 => k_mem); (case z => first | (simp only [List.size_toArray]; omega)); k_whole; intro _ _ _ _ _ _)))); k_steps) | ((with_reducible (refine Stop.into ?_; (with_reducible show wpAny _ _ (call (Value.builtin "str.upper") _ _) _ _ _); (refine upper_call ?_); intro _ _; (try dsimp only))); k_steps) | ((with_reducible (refine Stop.into ?_; (with_reducible show wpAny _ _ (subscriptTail _ _ _ _) _ _ _); k_dflt (refine' item_sep ?he ?N ?hm ?_; (case he => assumption); (case N => k_asm); (case hm => exact List.Mem.head _); intro _); (try dsimp only))); k_steps) | ((with_reducible refine Stop.into ?_); (with_reducible show wpAny _ _ _ _ _ _); (fail_if_success (with_reducible show wpAny _ _ (pyIter _) _ _ _)); (fail_if_success (with_reducible show wpAny _ _ (eval (Expr.ListComp _ _ _ _) _) _ _ _)); (fail_if_success (with_reducible show wpAny _ _ (compareOp CmpOp.NotEq (Value.ref _) (Value.ref _)) _ _ _)); have hNS : NoStop := noStop; walk1; all_goals clear hNS; k_steps) | fail))
    all_goals refine Stop.into ?_
    all_goals rename ∀ p ∈ (_, _) :: (I, o) :: n', _ => hkk
    all_goals rename Fr _ _ _ _ => lF
    all_goals rename _ < _ ∧ AllLt _ n' => hll
    all_goals obtain ⟨f1, f2⟩ := flag_fin (q := q) lF N0 (by k_asm) hc' (allLt_mem hll.2) hIw hDr hDw hys hse hne hkk (by assumption) hl (by rfl)
    all_goals refine turn_end (by k_asm) (by k_asm) f2 (fun p hp => List.mem_cons_of_mem _ (cut_sub p hp)) cut_ne ⟨trivial, ?_, f1⟩
    all_goals (intro z hz; (try dsimp only); (repeat' (first | exact ovr_off hz | refine (off_if hz (by simp)).trans ?_)))
  case done =>
    rintro n' u h' tk' ⟨l, ys, k, t', hl, ht, hDr, hDw, hys, hse, hne⟩ F' N'
    have hb4 := body_len l q
    have hbl : (bodyL l q).length ≤ 1000 := by omega
    have hyl := hys.len
    have hl0 : l ≠ [] := fun e => by rw [e] at hl; exact absurd hl (by decide)
    have hA1 : headL ++ (bodyL l q ++ tailL) ≠ [] := by simp [headL]
    have hA2 : (headL ++ (bodyL l q ++ tailL)).length ≤ 2000 := by
      rw [List.length_append, List.length_append, show headL.length = 40 from rfl, show tailL.length = 26 from rfl]; omega
    have hA3 : ∀ c ∈ headL ++ (bodyL l q ++ tailL), c < 128 := by
      intro c hc
      rcases List.mem_append.mp hc with h | h
      · exact head_lt c h
      · rcases List.mem_append.mp h with h | h
        · exact (body_ok l q c h).1
        · exact tail_lt c h
    have hB1 : headL ++ bodyL l q ≠ [] := by simp [headL]
    have hB2 : (headL ++ bodyL l q).length ≤ 2000 := by
      rw [List.length_append, show headL.length = 40 from rfl]; omega
    have hB3 : ∀ c ∈ headL ++ bodyL l q, c < 128 := by
      intro c hc
      rcases List.mem_append.mp hc with h | h
      · exact head_lt c h
      · exact (body_ok l q c h).1
    rw [ovr_known ht (by simp)] at F'
    (k_steps; repeat' (first | ((with_reducible (refine Stop.into ?_; (with_reducible show wpAny _ _ (binaryOp Operator.Add (Value.str _ _) (Value.str _ _)) _ _ _); refine add_end (by with_reducible assumption) ?_; intro _ _; (try dsimp only))); k_steps) | ((with_reducible (refine Stop.into ?_; (with_reducible show wpAny _ _ (binaryOp Operator.Add (Value.str _ _) (Value.str _ _)) _ _ _); refine add_head (by with_reducible assumption) ?_; intro _ _; (try dsimp only))); k_steps) | ((with_reducible (refine Stop.into ?_; (with_reducible show wpAny _ _ (call (Value.builtin "str.encode") _ _) _ _ _); (refine encode_txt (by with_reducible assumption) (by with_reducible assumption) (by with_reducible assumption) ?_); intro _ _; (try dsimp only))); k_steps) | ((with_reducible (refine Stop.into ?_; (with_reducible show wpAny _ _ (call (Value.ref _) _ _) _ _ _); k_dflt (first | ((with_reducible show wpAny _ _ (call _ [Value.bytes (oct (headL ++ (bodyL _ _ ++ tailL))) _] _) _ _ _); refine' ck_useP (parse_shut ?h0 ?hz) ?kk ?_; (case kk => (refine' CkAt.mk ?k1 ?k2 ?k3 ?k4 ?k5 ?kK ?kd ?ku; ((case k1 => k_asm); (case k2 => k_asm); (case k3 => k_asm); (case k4 => k_asm); (case k5 => k_asm); (case kK => first | exact rfl | assumption); (case kd => first | exact room_a (by assumption) (by decide) | omega | ktr_room | k_room); (case ku => first | exact unit_a (by assumption) (by decide) | exact unit_b (by assumption) (by decide) | exact unit_c (by assumption) (by decide) | omega | ktr_units | k_units)))); (case h0 => assumption); (case hz => omega); intro _ _ _ _ _ _ _ _) | (refine' ck_useP (parse_open ?hz) ?kk ?_; (case kk => (refine' CkAt.mk ?k1 ?k2 ?k3 ?k4 ?k5 ?kK ?kd ?ku; ((case k1 => k_asm); (case k2 => k_asm); (case k3 => k_asm); (case k4 => k_asm); (case k5 => k_asm); (case kK => first | exact rfl | assumption); (case kd => first | exact room_a (by assumption) (by decide) | omega | ktr_room | k_room); (case ku => first | exact unit_a (by assumption) (by decide) | exact unit_b (by assumption) (by decide) | exact unit_c (by assumption) (by decide) | omega | ktr_units | k_units)))); (case hz => omega); intro _ _ _ _ _ _ _ _)))); k_steps) | ((with_reducible (refine Stop.into ?_; (with_reducible show wpAny _ _ (getMethod (Value.str _ _) _ _) _ _ _); (with_reducible refine getM_encode ?_))); k_steps) | fail))
    have hsz : ys.toArray.size ≤ sizeLine := by rw [sizeLine_eq, List.size_toArray]; omega
    have hszl : ys.toArray.size = l.length := by rw [List.size_toArray, hyl]
    have hl10 : l.length ≤ 1000 := by omega
    refine Stop.into (LCp.ListComp_P (F₀ := by k_asm) (by with_unfolding_all rfl) (by decide) (by rfl) (by decide) (by rfl) (by rfl) (by decide) ?_)
    k_steps
    refine Stop.into (LCp.SrcLP.ledger (its := ys.toArray) (by rfl) (by k_asm) (by k_asm) (by k_mem) hsz fun g => ?_)
    refine compP_indC (n := ys.toArray.size) (J := fun i zs => Octs zs ((l.take i).map flB)) ?turn ?fin _ _ _ (Nat.zero_add _) .nil
    case turn =>
      intro i v zs hi hP hJ
      obtain ⟨a, x', u', t1, t2, rfl, hlx, hm⟩ := hys.get (by simpa using hP)
      refine ⟨a, _, _, _, _, rfl, by k_mem, rfl, rfl, fun I oI C oC D m₂ h tk E' hC hx1 hx2 F N off ne => ?_⟩
      (k_steps; repeat' (first | ((with_reducible (refine Stop.into ?_; (with_reducible show wpAny _ _ (call (Value.builtin "str.encode") _ _) _ _ _); (refine encode_fs ?_); intro _ _; (try dsimp only))); k_steps) | ((with_reducible (refine Stop.into ?_; (with_reducible show wpAny _ _ (getMethod (Value.str _ _) _ _) _ _ _); (with_reducible refine getM_encode ?_))); k_steps) | fail))
      refine LCg.CompEnd.intro (by k_asm) (by k_asm) _ (fun p hp => hp) off (.inr ⟨_, by k_mem, rfl, _, rfl⟩) ⟨rfl, ?_⟩
      rw [List.take_add_one, hlx, List.map_append]
      exact (Octs.cons .nil).append hJ
    case fin =>
      intro zs hJ
      intro D h tk F N o1
      rw [hszl, List.take_length] at hJ
      have hl11 : (l.map flB).length ≤ 1000 := by rw [List.length_map]; exact hl10
      (k_steps; repeat' (first | ((with_reducible (refine Stop.into ?_; (with_reducible show wpAny _ _ (call (Value.type "tuple") _ _) _ _ _); k_dflt (refine' tuple_octs ?F ?N ?hm ?ho ?hl ?_; (case F => k_asm); (case N => k_asm); (case hm => k_mem); (case ho => assumption); (case hl => first | assumption | (simp only [List.length_map]; omega)); intro _ _ _ _ _))); k_steps) | fail))
      refine Stop.into ?_
      refine' ne_octs ?N ?hp ?hq ?rx ?ry ?hu ?_
      case N => k_asm
      case hp => k_mem
      case hq => k_mem
      case rx => assumption
      case ry => exact hJ
      case hu => first | first | exact unit_a (by assumption) (by decide) | exact unit_b (by assumption) (by decide) | exact unit_c (by assumption) (by decide) | omega | ktr_units | k_units | ke_room
      try dsimp only
      (k_steps; repeat' (first | ((with_reducible (refine Stop.into ?_; (with_reducible show wpAny _ _ (call (Value.builtin "str.encode") _ _) _ _ _); (refine encode_txt (by with_reducible assumption) (by with_reducible assumption) (by with_reducible assumption) ?_); intro _ _; (try dsimp only))); k_steps) | ((with_reducible (refine Stop.into ?_; (with_reducible show wpAny _ _ (call (Value.ref _) _ _) _ _ _); k_dflt (first | ((with_reducible show wpAny _ _ (call _ [Value.bytes (oct (headL ++ (bodyL _ _ ++ tailL))) _] _) _ _ _); refine' ck_useP (parse_shut ?h0 ?hz) ?kk ?_; (case kk => (refine' CkAt.mk ?k1 ?k2 ?k3 ?k4 ?k5 ?kK ?kd ?ku; ((case k1 => k_asm); (case k2 => k_asm); (case k3 => k_asm); (case k4 => k_asm); (case k5 => k_asm); (case kK => first | exact rfl | assumption); (case kd => first | exact room_a (by assumption) (by decide) | omega | ktr_room | k_room); (case ku => first | exact unit_a (by assumption) (by decide) | exact unit_b (by assumption) (by decide) | exact unit_c (by assumption) (by decide) | omega | ktr_units | k_units)))); (case h0 => assumption); (case hz => omega); intro _ _ _ _ _ _ _ _) | (refine' ck_useP (parse_open ?hz) ?kk ?_; (case kk => (refine' CkAt.mk ?k1 ?k2 ?k3 ?k4 ?k5 ?kK ?kd ?ku; ((case k1 => k_asm); (case k2 => k_asm); (case k3 => k_asm); (case k4 => k_asm); (case k5 => k_asm); (case kK => first | exact rfl | assumption); (case kd => first | exact room_a (by assumption) (by decide) | omega | ktr_room | k_room); (case ku => first | exact unit_a (by assumption) (by decide) | exact unit_b (by assumption) (by decide) | exact unit_c (by assumption) (by decide) | omega | ktr_units | k_units)))); (case hz => omega); intro _ _ _ _ _ _ _ _)))); k_steps) | ((with_reducible (refine Stop.into ?_; (with_reducible show wpAny _ _ (getMethod (Value.str _ _) _ _) _ _ _); (with_reducible refine getM_encode ?_))); k_steps) | fail))
      refine Stop.into ?_
      refine' ne_octs ?N ?hp ?hq ?rx ?ry ?hu ?_
      case N => k_asm
      case hp => exact List.Mem.tail _ (List.Mem.head _)
      case hq => exact List.Mem.head _
      case rx => assumption
      case ry => exact .cons (b := [66]) (.cons (b := [92, 42]) .nil)
      case hu => first | first | exact unit_a (by assumption) (by decide) | exact unit_b (by assumption) (by decide) | exact unit_c (by assumption) (by decide) | omega | ktr_units | k_units | ke_room
      try dsimp only
      k_steps
      exact hret _ _ _ _ (by k_asm) (by k_asm) ⟨_, ys, k, l, rfl, by k_mem, hys.mono (by (intro p hp; (repeat (first | exact hp | assumption | refine List.mem_cons_of_mem _ ?_)))), hl, sub_tr hse (by (intro p hp; (repeat (first | exact hp | assumption | refine List.mem_cons_of_mem _ ?_)))), fun p hp => hne p (List.mem_cons_of_mem _ hp)⟩
end
end
end
section
/-- rows of the flags that P holds, by last -/
def rowsOf (P : Fin 5 → Bool) (f : Fin 5 → Nat) (last : List LV) : List KV := (last.filter fun p => P p.1).map fun p => (p.1, p.2, f p.1)
theorem fewDue_rows (left : List Nat) (last : List LV) : fewDue left last = rowsOf (fun y => decide (0 < cnt left y)) (cnt left) last := rfl
theorem fullDue_rows (left : List Nat) (r : Nat) (last : List LV) (kept : List (Fin 5)) : fullDue left r last kept = rowsOf (fun y => decide (y ∈ kept)) (fun y => cnt left y + r) last := rfl
theorem rows_congr {P P' : Fin 5 → Bool} {f f' : Fin 5 → Nat} {last : List LV} (h : ∀ y ∈ last.map Prod.fst, P y = P' y ∧ (P y = true → f y = f' y)) : rowsOf P f last = rowsOf P' f' last := by
  induction last with
  | nil => rfl
  | cons p l ih =>
    obtain ⟨y, u⟩ := p
    have ih := ih fun z hz => h z (List.mem_cons_of_mem _ hz)
    obtain ⟨h1, h2⟩ := h y (List.mem_cons_self ..)
    unfold rowsOf at ih ⊢
    rw [List.filter_cons, List.filter_cons]
    dsimp only
    rw [← h1]
    cases hP : P y with
    | false => simpa using ih
    | true => simp only [if_true, List.map_cons]; rw [ih, h2 hP]
theorem rows_del {P : Fin 5 → Bool} {f : Fin 5 → Nat} {last : List LV} {x : Fin 5} : delK x (rowsOf P f last) = rowsOf (fun y => P y && !(y == x)) f last := by
  unfold delK rowsOf
  rw [List.filter_map, List.filter_filter]
  congr 1
  refine List.filter_congr fun p _ => ?_
  simp [Bool.and_comm]
theorem rows_turnL {P : Fin 5 → Bool} {f : Fin 5 → Nat} {last : List LV} {x : Fin 5} {u : Bool} :
    rowsOf P f (last.filter (fun p => !(p.1 == x)) ++ [(x, u)]) = rowsOf (fun y => P y && !(y == x)) f last ++ (if P x = true then [(x, u, f x)] else []) := by
  unfold rowsOf
  rw [List.filter_append, List.map_append, List.filter_filter]
  congr 1
  by_cases h : P x = true <;> simp [h]
theorem rows_fst {P : Fin 5 → Bool} {f : Fin 5 → Nat} {last : List LV} : (rowsOf P f last).map (fun r => r.1) = (last.map Prod.fst).filter P := by
  unfold rowsOf
  rw [List.map_map, List.filter_map]
  rfl
theorem rows_len {P : Fin 5 → Bool} {f : Fin 5 → Nat} {last : List LV} : (rowsOf P f last).length = ((last.map Prod.fst).filter P).length := by
  rw [← rows_fst (f := f), List.length_map]
theorem rows_get {P : Fin 5 → Bool} {f : Fin 5 → Nat} {x : Fin 5} {last : List LV} : getK x (rowsOf P f last) = if P x = true ∧ x ∈ last.map Prod.fst then some (f x) else none := by
  induction last with
  | nil => simp [rowsOf, getK]
  | cons p l ih =>
    obtain ⟨y, u⟩ := p
    unfold rowsOf at ih ⊢
    rw [List.filter_cons]
    dsimp only
    cases hP : P y with
    | false =>
      simp only [Bool.false_eq_true, if_false]
      rw [ih]
      by_cases hx : P x = true
      · have : x ≠ y := fun e => by rw [e, hP] at hx; exact Bool.false_ne_true hx
        simp [this]
      · simp [hx]
    | true =>
      simp only [if_true, List.map_cons, getK]
      by_cases hxy : y = x
      · subst hxy; simp [hP]
      · rw [if_neg hxy, ih]
        have hyx : ¬ x = y := fun e => hxy e.symm
        simp [hyx]
theorem rows_mem {P : Fin 5 → Bool} {f : Fin 5 → Nat} {last : List LV} {r : KV} (h : r ∈ rowsOf P f last) : P r.1 = true ∧ r.2.2 = f r.1 ∧ (r.1, r.2.1) ∈ last := by
  unfold rowsOf at h
  obtain ⟨p, hp, rfl⟩ := List.mem_map.mp h
  obtain ⟨h1, h2⟩ := List.mem_filter.mp hp
  exact ⟨h2, rfl, h1⟩
/-- one blank is taken off each line -/
def lessOf (kvs : List KV) : List KV := (kvs.filter fun r => decide (1 < r.2.2)).map fun r => (r.1, r.2.1, r.2.2 - 1)
theorem del_notin {x : Fin 5} {kvs : List KV} (h : x ∉ kvs.map (fun r => r.1)) : delK x kvs = kvs := by
  unfold delK
  rw [List.filter_eq_self]
  intro r hr
  have : r.1 ≠ x := fun e => h (e ▸ List.mem_map_of_mem hr)
  simp [this]
theorem low_eq (cur : List KV) (r : KV) : lowRow cur r = if r.2.2 ≤ 1 then delK r.1 cur else delK r.1 cur ++ [(r.1, r.2.1, r.2.2 - 1)] := rfl
theorem nodup_turn {x : Fin 5} {a b : List (Fin 5)} (h1 : x ∉ a ++ b) (h2 : (a ++ b).Nodup) : (a ++ (b ++ [x])).Nodup := by
  rw [← List.append_assoc, List.nodup_append]
  refine ⟨h2, by simp, ?_⟩
  intro y hy z hz e
  rw [List.mem_singleton] at hz
  exact h1 (by rw [← hz, ← e]; exact hy)
theorem fold_low (rest : List KV) : ∀ done : List KV, ((rest ++ done).map (fun r => r.1)).Nodup → rest.foldl lowRow (rest ++ done) = done ++ lessOf rest := by
  induction rest with
  | nil => intro done _; simp [lessOf]
  | cons r rest ih =>
    intro done h
    rw [List.cons_append, List.map_cons, List.nodup_cons] at h
    obtain ⟨h1, h2⟩ := h
    have hd : delK r.1 (r :: rest ++ done) = rest ++ done := by
      rw [List.cons_append]
      unfold delK
      rw [List.filter_cons, if_neg (by simp)]
      exact del_notin h1
    rw [List.foldl_cons, low_eq, hd]
    by_cases hn : r.2.2 ≤ 1
    · rw [if_pos hn, ih done h2]
      congr 1
      unfold lessOf
      rw [List.filter_cons, if_neg (fun e => absurd (of_decide_eq_true e) (Nat.not_lt.mpr hn))]
    · rw [List.map_append] at h1 h2
      rw [if_neg hn, List.append_assoc, ih (done ++ [(r.1, r.2.1, r.2.2 - 1)]) (by rw [List.map_append, List.map_append]; exact nodup_turn h1 h2), List.append_assoc]
      congr 1
      unfold lessOf
      rw [List.filter_cons, if_pos (decide_eq_true (Nat.lt_of_not_le hn)), List.map_cons]
      rfl
theorem rows_less {P : Fin 5 → Bool} {f : Fin 5 → Nat} {last : List LV} : lessOf (rowsOf P f last) = rowsOf (fun y => P y && decide (1 < f y)) (fun y => f y - 1) last := by
  unfold lessOf rowsOf
  rw [List.filter_map, List.filter_filter, List.map_map]
  congr 1
  refine List.filter_congr fun p _ => ?_
  simp [Bool.and_comm]
/-- the least line counts least -/
theorem cmp_le {n m : Nat} {x y : Fin 5} : (cmpI n x m y = -1 → n ≤ m) ∧ (¬ cmpI n x m y = -1 → m ≤ n) := by
  unfold cmpI
  generalize rk x = a
  generalize rk y = b
  by_cases hp : ((m : Int) + 3) < ((n : Int) + 3) ∨ (((n : Int) + 3) = ((m : Int) + 3) ∧ (b : Int) < a)
  · rw [decide_eq_true hp]
    by_cases hq : ((n : Int) + 3) < ((m : Int) + 3) ∨ (((n : Int) + 3) = ((m : Int) + 3) ∧ (a : Int) < b)
    · omega
    · rw [decide_eq_false hq]
      refine ⟨fun h => absurd h (by decide), fun _ => by omega⟩
  · rw [decide_eq_false hp]
    by_cases hq : ((n : Int) + 3) < ((m : Int) + 3) ∨ (((n : Int) + 3) = ((m : Int) + 3) ∧ (a : Int) < b)
    · rw [decide_eq_true hq]
      refine ⟨fun _ => by omega, fun h => absurd (by decide) h⟩
    · rw [decide_eq_false hq]
      refine ⟨fun h => absurd h (by decide), fun _ => by omega⟩
theorem low_le {kvs : List KV} : ∀ j, j ≤ kvs.length → ∀ i, i < j → (rowAt kvs (lowOf kvs j : Int)).2.2 ≤ (rowAt kvs (i : Int)).2.2 := by
  intro j
  induction j with
  | zero => intro _ i hi; exact absurd hi (Nat.not_lt_zero _)
  | succ j ih =>
    intro hj i hi
    have ih := ih (Nat.le_of_succ_le hj)
    rw [lowOf]
    have hc := cmp_le (n := (rowAt kvs (0 + (j : Int))).2.2) (m := (rowAt kvs (lowOf kvs j : Int)).2.2) (x := (rowAt kvs (0 + (j : Int))).1) (y := (rowAt kvs (lowOf kvs j : Int)).1)
    rw [Int.zero_add] at hc ⊢
    have hij := Nat.lt_or_eq_of_le (Nat.le_of_lt_succ hi)
    split
    · rename_i h
      have := hc.1 h
      rcases hij with e | rfl
      · exact Nat.le_trans this (ih i e)
      · exact Nat.le_refl _
    · rename_i h
      have := hc.2 h
      rcases hij with e | rfl
      · exact ih i e
      · exact this
theorem lowN_le {kvs : List KV} {r : KV} (h : r ∈ kvs) : lowN kvs ≤ r.2.2 := by
  obtain ⟨i, hi, e⟩ := List.getElem_of_mem h
  have := low_le (kvs := kvs) kvs.length (Nat.le_refl _) i hi
  have er : rowAt kvs (i : Int) = r := by
    unfold rowAt
    rw [Int.toNat_natCast, List.getD_eq_getElem?_getD, List.getElem?_eq_getElem hi, e]
    rfl
  rw [er] at this
  exact this
theorem lowN_in {kvs : List KV} (h : 0 < kvs.length) : ∃ r ∈ kvs, lowN kvs = r.2.2 := ⟨_, rowAt_mem (lowOf_lt h kvs.length (Nat.le_refl _)), rfl⟩
/-- the state of the law between two turns -/
def poss (left : List Nat) : Nat := left.countP fun c => decide (0 < c)
def inc (left : List Nat) (x : Fin 5) : List Nat := left.set x.val (cnt left x + 1)
def leftT (S : Nat) (left : List Nat) (x : Fin 5) : List Nat := if S < poss (inc left x) then (inc left x).map (fun c => c - 1) else inc left x
def rT (S : Nat) (left : List Nat) (r : Nat) (x : Fin 5) : Nat := if S < poss (inc left x) then r + 1 else r
def lastT (last : List LV) (x : Fin 5) (u : Bool) : List LV := last.filter (fun p => !(p.1 == x)) ++ [(x, u)]
def freeOf (left : List Nat) (kept : List (Fin 5)) : List (Fin 5) := kept.filter fun y => cnt left y == 0
def victim (left : List Nat) (kept : List (Fin 5)) (pick : Int) : Fin 5 := (freeOf left kept).getD (pick.fmod (freeOf left kept).length).toNat 0
def kept1 (S : Nat) (left : List Nat) (kept : List (Fin 5)) (x : Fin 5) (pick : Int) : List (Fin 5) := if x ∉ kept ∧ S < kept.length then kept.filter (fun y => !(y == victim left kept pick)) else kept
def keptT (S : Nat) (left : List Nat) (kept : List (Fin 5)) (x : Fin 5) (pick : Int) : List (Fin 5) := (kept1 S left kept x pick).filter (fun y => !(y == x)) ++ [x]
structure Inv (S : Nat) (left : List Nat) (r : Nat) (last : List LV) (kept : List (Fin 5)) : Prop where
  len : left.length = 5
  nd : (last.map Prod.fst).Nodup
  ord : kept = (last.map Prod.fst).filter fun y => decide (y ∈ kept)
  pos : ∀ y, 0 < cnt left y → y ∈ kept
  few : poss left ≤ S
  all : kept.length ≤ S + 1
  rnd : r = 0 ∨ kept.length = S + 1
theorem cnt_inc {left : List Nat} {x y : Fin 5} (h : left.length = 5) : cnt (inc left x) y = if y = x then cnt left x + 1 else cnt left y := by
  unfold inc cnt
  rw [List.getD_eq_getElem?_getD, List.getElem?_set]
  by_cases e : y = x
  · subst e
    rw [if_pos rfl, if_pos rfl, if_pos (by have := y.isLt; omega)]
    rfl
  · rw [if_neg (fun q => e (Fin.ext q.symm)), if_neg e, List.getD_eq_getElem?_getD]
theorem cnt_map {left : List Nat} {y : Fin 5} : cnt (left.map fun c => c - 1) y = cnt left y - 1 := by
  unfold cnt
  rw [List.getD_eq_getElem?_getD, List.getD_eq_getElem?_getD, List.getElem?_map]
  cases left[y.val]? <;> rfl
theorem len_inc {left : List Nat} {x : Fin 5} : (inc left x).length = left.length := by simp [inc]
theorem left_map {left : List Nat} (h : left.length = 5) : left = (List.finRange 5).map (cnt left) := by
  match left, h with
  | [a, b, c, d, e], _ => rfl
theorem poss_fin {left : List Nat} (h : left.length = 5) : poss left = (List.finRange 5).countP fun y => decide (0 < cnt left y) := by
  conv => lhs; rw [left_map h]
  unfold poss
  rw [List.countP_map]
  rfl
theorem poss_list {left : List Nat} (h : left.length = 5) {ks : List (Fin 5)} (hn : ks.Nodup) (hp : ∀ y, 0 < cnt left y → y ∈ ks) : (ks.filter fun y => decide (0 < cnt left y)).length = poss left := by
  rw [poss_fin h, List.countP_eq_length_filter]
  refine List.Perm.length_eq ((List.perm_ext_iff_of_nodup (hn.filter _) ((List.nodup_finRange 5).filter _)).mpr fun y => ?_)
  simp only [List.mem_filter, List.mem_finRange, true_and]
  refine ⟨fun h => h.2, fun h => ⟨hp y (by simpa using h), h⟩⟩
theorem poss_inc {left : List Nat} (h : left.length = 5) (x : Fin 5) : poss (inc left x) = poss left + if cnt left x = 0 then 1 else 0 := by
  have hx : x.val < left.length := by have := x.isLt; omega
  have hc : left[x.val] = cnt left x := by
    unfold cnt
    rw [List.getD_eq_getElem?_getD, List.getElem?_eq_getElem hx]
    rfl
  unfold poss inc
  rw [List.countP_set hx, hc]
  by_cases e : cnt left x = 0
  · simp [e]
  · have hp : 0 < left.countP fun c => decide (0 < c) := List.countP_pos_iff.mpr ⟨left[x.val], List.getElem_mem hx, by rw [hc]; simp; omega⟩
    have e2 : 0 < cnt left x := by omega
    simp [e, e2]
    omega
theorem len_del {ks : List (Fin 5)} {x : Fin 5} (hn : ks.Nodup) (hx : x ∈ ks) : (ks.filter fun y => !(y == x)).length + 1 = ks.length := by
  have h1 := hn.erase_eq_filter x
  have h2 := List.length_erase_of_mem hx
  have h3 := List.length_pos_of_mem hx
  rw [h1] at h2
  have e : (ks.filter fun y => !(y == x)) = ks.filter fun y => y != x := rfl
  rw [e, h2]
  omega
theorem del_self {ks : List (Fin 5)} {x : Fin 5} (hx : x ∉ ks) : (ks.filter fun y => !(y == x)) = ks := by
  rw [List.filter_eq_self]
  intro y hy
  have : y ≠ x := fun e => hx (e ▸ hy)
  simp [this]
end
section
section
variable {S : Nat} {left : List Nat} {r : Nat} {last : List LV} {kept : List (Fin 5)}
theorem Inv.kept_nd (I : Inv S left r last kept) : kept.Nodup := by
  rw [I.ord]; exact I.nd.filter _
theorem Inv.kept_sub (I : Inv S left r last kept) : ∀ y ∈ kept, y ∈ last.map Prod.fst := by
  intro y hy
  rw [I.ord] at hy
  exact (List.mem_filter.mp hy).1
theorem Inv.zero_of (I : Inv S left r last kept) {x : Fin 5} (h : x ∉ kept) : cnt left x = 0 := by
  by_cases e : 0 < cnt left x
  · exact absurd (I.pos x e) h
  · omega
theorem Inv.posk (I : Inv S left r last kept) : (kept.filter fun y => decide (0 < cnt left y)).length = poss left := poss_list I.len I.kept_nd I.pos
/-- someone is free when there are more than the size -/
theorem Inv.free (I : Inv S left r last kept) (h : S < kept.length) : 0 < (freeOf left kept).length := by
  have h1 := I.posk
  have h2 := I.few
  refine Nat.pos_of_ne_zero fun e => ?_
  have h0 : freeOf left kept = [] := List.length_eq_zero_iff.mp e
  have h3 : (kept.filter fun y => decide (0 < cnt left y)) = kept := by
    rw [List.filter_eq_self]
    intro y hy
    have : y ∉ freeOf left kept := by rw [h0]; simp
    unfold freeOf at this
    rw [List.mem_filter] at this
    have h5 : ¬ (cnt left y == 0) = true := fun q => this ⟨hy, q⟩
    simp at h5
    simp; omega
  rw [h3] at h1
  omega
theorem Inv.vic (I : Inv S left r last kept) (pick : Int) (h : S < kept.length) : victim left kept pick ∈ kept ∧ cnt left (victim left kept pick) = 0 := by
  have hf := I.free h
  obtain ⟨h0, h1⟩ := fmod_pos (a := pick) hf
  have hm : victim left kept pick ∈ freeOf left kept := by
    unfold victim
    rw [List.getD_eq_getElem?_getD, List.getElem?_eq_getElem (by omega)]
    exact List.getElem_mem _
  obtain ⟨a, b⟩ := List.mem_filter.mp hm
  exact ⟨a, by simpa using b⟩
theorem Inv.k1 (I : Inv S left r last kept) (x : Fin 5) (pick : Int) : ∃ Q : Fin 5 → Bool, kept1 S left kept x pick = kept.filter Q ∧ (∀ y, 0 < cnt left y → Q y = true) ∧ (∀ y, Q y = false → x ∉ kept) := by
  unfold kept1
  split
  · rename_i h
    refine ⟨fun y => !(y == victim left kept pick), rfl, fun y hy => ?_, fun _ _ => h.1⟩
    have := (I.vic pick h.2).2
    have hne : y ≠ victim left kept pick := fun e => by rw [← e] at this; omega
    simp [hne]
  · exact ⟨fun _ => true, (List.filter_eq_self.mpr fun _ _ => rfl).symm, fun _ _ => rfl, fun _ h => absurd h (by simp)⟩
/-- whoever stays beside the one that came -/
def stay (S : Nat) (left : List Nat) (kept : List (Fin 5)) (x : Fin 5) (pick : Int) : List (Fin 5) := (kept1 S left kept x pick).filter fun y => !(y == x)
theorem Inv.stay_len (I : Inv S left r last kept) (x : Fin 5) (pick : Int) : (stay S left kept x pick).length ≤ S ∧ (kept.length = S + 1 → (stay S left kept x pick).length = S) := by
  have hn := I.kept_nd
  unfold stay kept1
  by_cases hx : x ∈ kept
  · rw [if_neg (fun h => h.1 hx)]
    have := len_del hn hx
    have := I.all
    omega
  · by_cases hl : S < kept.length
    · rw [if_pos ⟨hx, hl⟩]
      have h1 := len_del hn (I.vic pick hl).1
      have h2 := I.all
      rw [del_self (fun h => hx (List.mem_filter.mp h).1)]
      omega
    · rw [if_neg (fun h => hl h.2), del_self hx]
      omega
theorem Inv.stay_nd (I : Inv S left r last kept) (x : Fin 5) (pick : Int) : (stay S left kept x pick).Nodup := by
  obtain ⟨Q, h, _⟩ := I.k1 x pick
  unfold stay
  rw [h]
  exact (I.kept_nd.filter _).filter _
theorem Inv.stay_pos (I : Inv S left r last kept) (x : Fin 5) (pick : Int) {y : Fin 5} (hy : 0 < cnt left y) (hx : y ≠ x) : y ∈ stay S left kept x pick := by
  obtain ⟨Q, h, hq, _⟩ := I.k1 x pick
  unfold stay
  rw [h]
  exact List.mem_filter.mpr ⟨List.mem_filter.mpr ⟨I.pos y hy, hq y hy⟩, by simp [hx]⟩
/-- a round: the one that came counted nothing, as many as the size counted something, and all others count something -/
theorem Inv.round (I : Inv S left r last kept) (x : Fin 5) (pick : Int) (h : S < poss (inc left x)) : cnt left x = 0 ∧ poss left = S ∧ (stay S left kept x pick).length = S ∧ ∀ y ∈ stay S left kept x pick, 0 < cnt left y := by
  have h1 := poss_inc I.len x
  have h2 := I.few
  have hx : cnt left x = 0 := by
    by_cases e : cnt left x = 0
    · exact e
    · rw [if_neg e] at h1; omega
  rw [if_pos hx] at h1
  have h3 := poss_list I.len (I.stay_nd x pick) fun y hy => I.stay_pos x pick hy (fun e => by rw [e] at hy; omega)
  have h4 := (I.stay_len x pick).1
  have h5 := List.length_filter_le (fun y => decide (0 < cnt left y)) (stay S left kept x pick)
  refine ⟨hx, by omega, by omega, ?_⟩
  have h6 := List.length_filter_eq_length_iff.mp (show ((stay S left kept x pick).filter fun y => decide (0 < cnt left y)).length = (stay S left kept x pick).length by omega)
  intro y hy
  simpa using h6 y hy
theorem Inv.noround (I : Inv S left r last kept) {x : Fin 5} (h : ¬ S < poss (inc left x)) : 0 < cnt left x ∨ poss left < S := by
  have h1 := poss_inc I.len x
  by_cases e : cnt left x = 0
  · rw [if_pos e] at h1; omega
  · omega
theorem cnt_left (I : Inv S left r last kept) (x y : Fin 5) : cnt (leftT S left x) y = if S < poss (inc left x) then (if y = x then 0 else cnt left y - 1) else (if y = x then cnt left x + 1 else cnt left y) := by
  unfold leftT
  by_cases h : S < poss (inc left x)
  · rw [if_pos h, if_pos h, cnt_map, cnt_inc I.len]
    have := (I.round x 0 h).1
    by_cases e : y = x <;> simp [e, this]
  · rw [if_neg h, if_neg h, cnt_inc I.len]
theorem Inv.turn (I : Inv S left r last kept) (x : Fin 5) (u : Bool) (pick : Int) : Inv S (leftT S left x) (rT S left r x) (lastT last x u) (keptT S left kept x pick) := by
  have hfst : (lastT last x u).map Prod.fst = (last.map Prod.fst).filter (fun y => !(y == x)) ++ [x] := by
    unfold lastT
    rw [List.map_append, List.filter_map]
    rfl
  refine ⟨?_, ?_, ?_, ?_, ?_, ?_, ?_⟩
  · unfold leftT
    split <;> simp [len_inc, I.len]
  · rw [hfst, List.nodup_append]
    refine ⟨I.nd.filter _, by simp, ?_⟩
    intro y hy z hz e
    rw [List.mem_singleton] at hz
    have := (List.mem_filter.mp hy).2
    rw [e, hz] at this
    simp at this
  · obtain ⟨Q, h, _⟩ := I.k1 x pick
    have e1 : keptT S left kept x pick = ((last.map Prod.fst).filter fun y => decide (y ∈ kept) && Q y && !(y == x)) ++ [x] := by
      unfold keptT
      rw [h]
      conv => lhs; rw [I.ord]
      rw [List.filter_filter, List.filter_filter]
      congr 1
      refine List.filter_congr fun y _ => ?_
      cases Q y <;> cases (y == x) <;> simp
    have hmem : ∀ y, y ≠ x → (y ∈ keptT S left kept x pick ↔ (y ∈ kept ∧ Q y = true)) := by
      intro y hy
      unfold keptT
      rw [h]
      simp [hy]
    have hxm : x ∈ keptT S left kept x pick := by unfold keptT; simp
    rw [hfst, List.filter_append, List.filter_filter]
    conv => lhs; rw [e1]
    congr 1
    · refine List.filter_congr fun y _ => ?_
      by_cases hy : y = x
      · simp [hy]
      · have := hmem y hy
        by_cases hk : y ∈ kept <;> cases hq : Q y <;> simp_all
    · simp [hxm]
  · intro y hy
    by_cases e : y = x
    · unfold keptT; simp [e]
    · refine List.mem_append_left _ (I.stay_pos x pick ?_ e)
      rw [cnt_left I] at hy
      split at hy
      · first | (rw [if_neg e] at hy; omega) | omega
      · first | (rw [if_neg e] at hy; exact hy) | exact hy
  · by_cases h : S < poss (inc left x)
    · have hl : (leftT S left x).length = 5 := by unfold leftT; split <;> simp [len_inc, I.len]
      rw [poss_fin hl]
      refine Nat.le_trans (List.countP_mono_left (q := fun y => decide (0 < cnt left y)) fun y _ hy => ?_) (by rw [← poss_fin I.len]; exact I.few)
      rw [cnt_left I, if_pos h] at hy
      by_cases e : y = x
      · rw [if_pos e] at hy; simp at hy
      · rw [if_neg e] at hy; simp at hy ⊢; omega
    · unfold leftT
      rw [if_neg h]
      omega
  · have := (I.stay_len x pick).1
    show (stay S left kept x pick ++ [x]).length ≤ S + 1
    rw [List.length_append, List.length_singleton]
    omega
  · show _ ∨ (stay S left kept x pick ++ [x]).length = S + 1
    rw [List.length_append, List.length_singleton]
    by_cases h : S < poss (inc left x)
    · right
      have := (I.round x pick h).2.2.1
      omega
    · unfold rT
      rw [if_neg h]
      rcases I.rnd with h0 | h0
      · exact .inl h0
      · right
        have := (I.stay_len x pick).2 h0
        omega
theorem Inv.few_turn (I : Inv S left r last kept) (x : Fin 5) (u : Bool) : fewStep (fewDue left last) x u S = fewDue (leftT S left x) (lastT last x u) := by
  rw [fewDue_rows, fewDue_rows]
  unfold fewStep lastT
  rw [rows_get, rows_turnL]
  have hsub : ∀ y, 0 < cnt left y → y ∈ last.map Prod.fst := fun y hy => I.kept_sub y (I.pos y hy)
  by_cases hx : 0 < cnt left x
  · have hr : ¬ S < poss (inc left x) := fun h => by have := (I.round x 0 h).1; omega
    rw [if_pos ⟨decide_eq_true hx, hsub x hx⟩]
    dsimp only
    rw [rows_del, cnt_left I, if_neg hr, if_pos rfl, if_pos (by simp)]
    congr 1
    refine rows_congr fun y _ => ?_
    rw [cnt_left I, if_neg hr]
    by_cases e : y = x
    · simp [e]
    · simp [e]
  · have h0 : cnt left x = 0 := by omega
    rw [if_neg (fun h => hx (of_decide_eq_true h.1))]
    dsimp only
    rw [rows_len, poss_list I.len I.nd hsub]
    by_cases hS : poss left < S
    · have hr : ¬ S < poss (inc left x) := fun h => by have := (I.round x 0 h).2.1; omega
      rw [if_pos (by omega), rows_del, cnt_left I, if_neg hr, if_pos rfl, if_pos (by simp), h0]
      congr 1
      refine rows_congr fun y _ => ?_
      rw [cnt_left I, if_neg hr]
      by_cases e : y = x
      · simp [e]
      · simp [e]
    · have hr : S < poss (inc left x) := by
        have := poss_inc I.len x
        rw [if_pos h0] at this
        have := I.few
        omega
      rw [if_neg (by omega)]
      have hfold := fold_low (rowsOf (fun y => decide (0 < cnt left y)) (cnt left) last) [] (by rw [List.append_nil, rows_fst]; exact I.nd.filter _)
      rw [List.append_nil, List.nil_append, rows_less] at hfold
      rw [hfold, cnt_left I, if_pos hr, if_pos rfl, if_neg (by simp), List.append_nil]
      refine rows_congr fun y _ => ?_
      rw [cnt_left I, if_pos hr]
      by_cases e : y = x
      · simp [e, h0]
      · simp only [if_neg e]
        have : (!(y == x)) = true := by simp [e]
        rw [this, Bool.and_true]
        refine ⟨?_, fun _ => by first | rfl | trivial⟩
        rw [← Bool.decide_and]
        exact decide_eq_decide.mpr (by omega)
theorem full_mem {p : KV} (h : p ∈ fullDue left r last kept) : p.2.2 = cnt left p.1 + r := by
  rw [fullDue_rows] at h
  exact (rows_mem h).2.1
theorem few_mem {p : KV} (h : p ∈ fewDue left last) : 0 < cnt left p.1 ∧ p.2.2 = cnt left p.1 := by
  rw [fewDue_rows] at h
  exact ⟨of_decide_eq_true (rows_mem h).1, (rows_mem h).2.1⟩
theorem Inv.full_len (I : Inv S left r last kept) : (fullDue left r last kept).length = kept.length := by
  rw [fullDue_rows, rows_len, ← I.ord]
theorem Inv.out_fst (I : Inv S left r last kept) (h : lowN (fullDue left r last kept) = r) : (outOf (fullDue left r last kept)).map (fun p => p.1) = freeOf left kept := by
  unfold outOf freeOf
  rw [h]
  have e : ((fullDue left r last kept).filter fun p => p.2.2 == r) = (fullDue left r last kept).filter ((fun y : Fin 5 => cnt left y == 0) ∘ fun p => p.1) := by
    refine List.filter_congr fun p hp => ?_
    have := full_mem hp
    show (p.2.2 == r) = (cnt left p.1 == 0)
    rw [this, Bool.eq_iff_iff]
    simp
  rw [e, ← List.filter_map, fullDue_rows, rows_fst, ← I.ord]
theorem Inv.low (I : Inv S left r last kept) (h : S < kept.length) : lowN (fullDue left r last kept) = r := by
  have hl := I.full_len
  obtain ⟨p, hp, e⟩ := lowN_in (kvs := fullDue left r last kept) (by omega)
  have h1 := full_mem hp
  have h2 := I.vic 0 h
  have hv : victim left kept 0 ∈ (fullDue left r last kept).map (fun p => p.1) := by
    rw [fullDue_rows, rows_fst, ← I.ord]
    exact h2.1
  obtain ⟨q, hq, eq⟩ := List.mem_map.mp hv
  have h3 := lowN_le hq
  have h4 := full_mem hq
  rw [eq, h2.2] at h4
  omega
theorem Inv.out_vic (I : Inv S left r last kept) (pick : Int) (h : S < kept.length) : (rowAt (outOf (fullDue left r last kept)) (pick.fmod (outOf (fullDue left r last kept)).length)).1 = victim left kept pick := by
  have e := I.out_fst (I.low h)
  have el : (outOf (fullDue left r last kept)).length = (freeOf left kept).length := by rw [← e, List.length_map]
  have hf := I.free h
  obtain ⟨h0, h1⟩ := fmod_pos (a := pick) hf
  unfold victim rowAt
  rw [el]
  have hi : (pick.fmod (freeOf left kept).length).toNat < (outOf (fullDue left r last kept)).length := by omega
  generalize (pick.fmod (freeOf left kept).length).toNat = i at *
  rw [List.getD_eq_getElem?_getD, List.getD_eq_getElem?_getD, ← e, List.getElem?_map, List.getElem?_eq_getElem hi]
  rfl
theorem Inv.full_turn (I : Inv S left r last kept) (x : Fin 5) (u : Bool) (pick : Int) : fullStep (fullDue left r last kept) x u S pick = fullDue (leftT S left x) (rT S left r x) (lastT last x u) (keptT S left kept x pick) := by
  have hxm : x ∈ keptT S left kept x pick := by unfold keptT; simp
  have hmem : ∀ y, y ≠ x → (y ∈ keptT S left kept x pick ↔ y ∈ stay S left kept x pick) := by
    intro y hy
    show y ∈ stay S left kept x pick ++ [x] ↔ _
    simp [hy]
  have hl := I.full_len
  have hcount : ∀ y ∈ stay S left kept x pick, y ≠ x → cnt (leftT S left x) y + rT S left r x = cnt left y + r := by
    intro y hy e
    rw [cnt_left I]
    unfold rT
    by_cases h : S < poss (inc left x)
    · have := (I.round x pick h).2.2.2 y hy
      rw [if_pos h, if_pos h, if_neg e]
      omega
    · rw [if_neg h, if_neg h, if_neg e]
  have hxc : cnt (leftT S left x) x + rT S left r x = cnt left x + r + 1 := by
    rw [cnt_left I]
    unfold rT
    by_cases h : S < poss (inc left x)
    · have := (I.round x pick h).1
      rw [if_pos h, if_pos h, if_pos rfl]
      omega
    · rw [if_neg h, if_neg h, if_pos rfl]
      omega
  rw [fullDue_rows (leftT S left x)]
  unfold lastT
  rw [rows_turnL, if_pos (decide_eq_true hxm), hxc]
  unfold fullStep
  by_cases hx : x ∈ kept
  · have hg : getK x (fullDue left r last kept) = some (cnt left x + r) := by
      rw [fullDue_rows, rows_get, if_pos ⟨decide_eq_true hx, I.kept_sub x hx⟩]
    rw [hg]
    dsimp only
    rw [fullDue_rows, rows_del]
    congr 1
    refine rows_congr fun y _ => ?_
    by_cases e : y = x
    · simp [e]
    · have hs : y ∈ stay S left kept x pick ↔ y ∈ kept := by
        unfold stay kept1
        rw [if_neg (fun h => h.1 hx)]
        simp [e]
      have hb : (!(y == x)) = true := by simp [e]
      rw [hb, Bool.and_true, Bool.and_true]
      refine ⟨decide_eq_decide.mpr ((hmem y e).trans hs).symm, fun hy => (hcount y (hs.mpr (of_decide_eq_true hy)) e).symm⟩
  · have hg : getK x (fullDue left r last kept) = none := by
      rw [fullDue_rows, rows_get, if_neg (fun h => hx (of_decide_eq_true h.1))]
    have h0 := I.zero_of hx
    rw [hg]
    dsimp only
    rw [hl]
    by_cases hS : S < kept.length
    · have hv := I.vic pick hS
      rw [if_neg (by omega), I.out_vic pick hS, I.low hS, fullDue_rows, rows_del, rows_del, h0, Nat.zero_add]
      congr 1
      refine rows_congr fun y _ => ?_
      by_cases e : y = x
      · simp [e]
      · have hs : y ∈ stay S left kept x pick ↔ (y ∈ kept ∧ y ≠ victim left kept pick) := by
          unfold stay kept1
          rw [if_pos ⟨hx, hS⟩]
          simp [e]
        have hb : (!(y == x)) = true := by simp [e]
        rw [hb, Bool.and_true, Bool.and_true]
        refine ⟨?_, fun hy => ?_⟩
        · rw [Bool.eq_iff_iff]
          simp only [Bool.and_eq_true, decide_eq_true_eq, hmem y e, hs]
          simp
        · have hy' : y ∈ kept ∧ y ≠ victim left kept pick := by simpa using hy
          exact (hcount y (hs.mpr hy') e).symm
    · have hr0 : r = 0 := I.rnd.resolve_right (by omega)
      rw [if_pos (by omega), fullDue_rows, rows_del, h0, hr0]
      congr 1
      refine rows_congr fun y _ => ?_
      by_cases e : y = x
      · simp [e]
      · have hs : y ∈ stay S left kept x pick ↔ y ∈ kept := by
          unfold stay kept1
          rw [if_neg (fun h => hS h.2)]
          simp [e]
        have hb : (!(y == x)) = true := by simp [e]
        rw [hb, Bool.and_true, Bool.and_true]
        refine ⟨decide_eq_decide.mpr ((hmem y e).trans hs).symm, fun hy => ?_⟩
        have := hcount y (hs.mpr (of_decide_eq_true hy)) e
        rw [hr0] at this
        exact this.symm
theorem Inv.start {S : Nat} : Inv S [0, 0, 0, 0, 0] 0 [] [] := ⟨rfl, by simp, by simp, fun y hy => by revert hy; revert y; decide, by simp [poss], by simp, .inl rfl⟩
theorem Inv.bared (I : Inv S left r last kept) : ∀ x ∈ kept, getK x (fullDue left r last kept) = some (cnt left x + r) := by
  intro x hx
  rw [fullDue_rows, rows_get, if_pos ⟨decide_eq_true hx, I.kept_sub x hx⟩]
theorem Inv.last_len (I : Inv S left r last kept) : last.length ≤ 5 := by
  have h := List.Nodup.length_le_of_subset (l₂ := List.finRange 5) I.nd (fun y _ => List.mem_finRange y)
  rw [List.length_map, List.length_finRange] at h
  exact h
theorem Inv.few_len (I : Inv S left r last kept) : (fewDue left last).length ≤ S := by
  rw [fewDue_rows, rows_len, poss_list I.len I.nd fun y hy => I.kept_sub y (I.pos y hy)]
  exact I.few
theorem few_rows_le {n : Nat} (h : ∀ x, cnt left x ≤ n) : ∀ p ∈ fewDue left last, 1 ≤ p.2.2 ∧ p.2.2 ≤ n := by
  intro p hp
  obtain ⟨h1, h2⟩ := few_mem hp
  rw [h2]
  exact ⟨h1, h _⟩
theorem full_rows_le {n : Nat} (h : ∀ x, cnt left x + r ≤ n) : ∀ p ∈ fullDue left r last kept, p.2.2 ≤ n := by
  intro p hp
  rw [full_mem hp]
  exact h _
end
end
section
theorem setL_ok : ∀ {l : List Value} {k : Nat} {v : Value}, k < l.length → ki_setL l k v = some (l.set k v)
  | [], _, _, h => absurd h (Nat.not_lt_zero _)
  | x :: r, 0, v, _ => rfl
  | x :: r, k + 1, v, h => by
    unfold ki_setL
    rw [setL_ok (Nat.lt_of_succ_lt_succ h)]
    rfl
section
open PySem.Builtin
variable {prog : Program} {w : World} {A : Around} {E : Value → Shared → Prop} {s : Shared} {h₀ : Heap} {L D : Addr} {m : Str → Option Value} {news : List (Addr × Obj)} {t u : Tok}
theorem set_M {l : Addr} {its : List Value} {k : Nat} {j : Int} {v : Value} {Q : Unit → Shared → Prop} (F : Fr h₀ L s.heap m) (N : News h₀ L s.heap news) (hl : (l, listOf its.toArray k) ∈ news) (h0 : 0 ≤ j) (h1 : j < its.length) (hz : its.length ≤ 1000)
    (hQ : ∀ h' news', Fr h₀ L h' m → News h₀ L h' news' → (l, listOf (its.set j.toNat v).toArray k) ∈ news' → (∀ p ∈ news, p.1 ≠ l → p ∈ news') → Q () { s with heap := h' }) :
    wpAny (model prog w) A (setItem (.ref l) (.int j t) v) Q E s := by
  have N2 : News h₀ L s.heap ((l, listOf its.toArray k) :: news.filter fun p => decide (p.1 ≠ l)) := by
    intro p hp
    rcases List.mem_cons.mp hp with rfl | hp
    · exact N _ hl
    · exact N _ (List.mem_filter.mp hp).1
  have hne : ∀ p ∈ news.filter (fun p => decide (p.1 ≠ l)), p.1 ≠ l := fun p hp => of_decide_eq_true (List.mem_filter.mp hp).2
  refine ki_set F N2 h0 (by omega) (setL_ok (by simp; omega)) (.head hne) fun h' F' N' => hQ h' _ F' N' (List.mem_cons_self ..) fun p hp hq => List.mem_cons_of_mem _ (List.mem_filter.mpr ⟨hp, decide_eq_true hq⟩)
/-- an object is a closure's cell -/
def IsC (o : Obj) : Prop := ∃ v, o.data = .cell v
theorem ne_cell {g h : Heap} {L c l : Addr} {o : Obj} {its : Array Value} {k : Nat} {A : List (Addr × Obj)} (N : News g L h A) (hc : (c, o) ∈ A) (hl : (l, listOf its k) ∈ A) (ho : IsC o) : c ≠ l := by
  rintro rfl
  have h1 := (N _ hc).1
  rw [(N _ hl).1] at h1
  obtain ⟨v, e⟩ := ho
  have h2 : listOf its k = o := Option.some.inj h1
  rw [← h2] at e
  cases e
theorem allC4 {c1 c2 c3 c4 : Addr} {o1 o2 o3 o4 : Obj} (h4 : IsC o4) (h3 : IsC o3) (h2 : IsC o2) (h1 : IsC o1) : ∀ p ∈ [(c4, o4), (c3, o3), (c2, o2), (c1, o1)], IsC p.2 := by
  intro p hp
  simp only [List.mem_cons, List.not_mem_nil, or_false] at hp
  rcases hp with rfl | rfl | rfl | rfl <;> assumption
abbrev cellsO (a b c d : Int) (t0 t1 t2 t3 : Tok) (k : Nat) : Obj := listOf (List.toArray [.int a t0, .int b t1, .int c t2, .int d t3]) k
theorem cells_at {a b c d j : Int} {t0 t1 t2 t3 : Tok} (h0 : 0 ≤ j) (h3 : j ≤ 3) : ∃ v t, [Value.int a t0, .int b t1, .int c t2, .int d t3][j.toNat]? = some (.int v t) := by
  have : j.toNat = 0 ∨ j.toNat = 1 ∨ j.toNat = 2 ∨ j.toNat = 3 := by omega
  rcases this with e | e | e | e <;> (rw [e]; exact ⟨_, _, rfl⟩)
theorem cells_set {a b c d j v : Int} {t0 t1 t2 t3 t : Tok} (h0 : 0 ≤ j) (h3 : j ≤ 3) : ∃ a' b' c' d' t0' t1' t2' t3', [Value.int a t0, .int b t1, .int c t2, .int d t3].set j.toNat (.int v t) = [Value.int a' t0', .int b' t1', .int c' t2', .int d' t3'] := by
  have : j.toNat = 0 ∨ j.toNat = 1 ∨ j.toNat = 2 ∨ j.toNat = 3 := by omega
  rcases this with e | e | e | e <;> (rw [e]; exact ⟨_, _, _, _, _, _, _, _, rfl⟩)
theorem get_cells {a b c d j : Int} {t0 t1 t2 t3 : Tok} {k : Nat} {Q : Value → Shared → Prop} (N : News h₀ L s.heap news) (hm : (D, cellsO a b c d t0 t1 t2 t3 k) ∈ news) (h0 : 0 ≤ j) (h3 : j ≤ 3) (h : ∀ v t, Q (.int v t) s) : wpAny (model prog w) A (getItem (.ref D) (.int j u)) Q E s :=
  let ⟨v, t, e⟩ := cells_at (a := a) (b := b) (c := c) (d := d) (t0 := t0) (t1 := t1) (t2 := t2) (t3 := t3) h0 h3
  wpAny_getItem_list ⟨_, (N _ hm).1, rfl, k, rfl⟩ h0 (by omega) (by simpa using e) (h v t)
theorem set_cells {l : Addr} {B : List (Addr × Obj)} {o : Obj} {I : Addr} {a b c d j v : Int} {t0 t1 t2 t3 : Tok} {k : Nat} {Q : Unit → Shared → Prop} (F : Fr h₀ L s.heap m) (N : News h₀ L s.heap ((I, o) :: (l, cellsO a b c d t0 t1 t2 t3 k) :: B)) (hI : ∀ p ∈ (l, cellsO a b c d t0 t1 t2 t3 k) :: B, p.1 ≠ I) (hB : ∀ p ∈ B, IsC p.2) (h0 : 0 ≤ j) (h3 : j ≤ 3)
    (hQ : ∀ h' a' b' c' d' t0' t1' t2' t3', Fr h₀ L h' m → News h₀ L h' ((I, o) :: (l, cellsO a' b' c' d' t0' t1' t2' t3' k) :: B) → Q () { s with heap := h' }) : wpAny (model prog w) A (setItem (.ref l) (.int j t) (.int v u)) Q E s := by
  refine set_M F N (List.mem_cons_of_mem _ (List.mem_cons_self ..)) h0 (by simp; omega) (by simp) fun h' news' F' N' hm hk => ?_
  obtain ⟨a', b', c', d', t0', t1', t2', t3', e⟩ := cells_set (a := a) (b := b) (c := c) (d := d) (v := v) (t0 := t0) (t1 := t1) (t2 := t2) (t3 := t3) (t := u) h0 h3
  rw [e] at hm
  refine hQ h' a' b' c' d' t0' t1' t2' t3' F' fun p hp => ?_
  rcases List.mem_cons.mp hp with rfl | hp
  · exact N' _ (hk _ (List.mem_cons_self ..) (fun e => hI _ (List.mem_cons_self ..) e.symm))
  · rcases List.mem_cons.mp hp with rfl | hp
    · exact N' _ hm
    · exact N' _ (hk _ (List.mem_cons_of_mem _ (List.mem_cons_of_mem _ hp)) (ne_cell N (List.mem_cons_of_mem _ (List.mem_cons_of_mem _ hp)) (List.mem_cons_of_mem _ (List.mem_cons_self ..)) (hB p hp)))
theorem item_cells {value slice : Expr} {a b c d j : Int} {t0 t1 t2 t3 : Tok} {k : Nat} {Q : Value → Shared → Prop} (N : News h₀ L s.heap news) (hm : (D, cellsO a b c d t0 t1 t2 t3 k) ∈ news) (h0 : 0 ≤ j) (h3 : j ≤ 3) (h : ∀ v t, Q (.int v t) s)
    (hs : subscripted slice false (.ref D) (.int j u) = operate [.ref D, .int j u] (getItem (.ref D) (.int j u)) := by with_unfolding_all rfl) (hg : ∀ r, letTemporaryGo value (.ref D) r = pure () := by intro _; with_unfolding_all rfl) :
    wpAny (model prog w) A (subscriptTail value slice (.ref D) (.int j u)) Q E s :=
  let ⟨v, t, e⟩ := cells_at (a := a) (b := b) (c := c) (d := d) (t0 := t0) (t1 := t1) (t2 := t2) (t3 := t3) h0 h3
  kim_list N hm rfl rfl h0 (by omega) e (h v t) hs hg
theorem ints_at : ∀ {vs : List Value} {ns : List Int} {i : Nat}, IntsAre vs ns → i < ns.length → ∃ v t, vs[i]? = some (.int v t)
  | _, _, 0, .cons _ _ _, _ => ⟨_, _, rfl⟩
  | _, _, i + 1, .cons _ _ r, h => ints_at (i := i) r (Nat.lt_of_succ_lt_succ h)
theorem item_scr {value slice : Expr} {a : Addr} {vs : List Value} {ns : List Int} {i : Nat} {Q : Value → Shared → Prop} (F : Fr h₀ L s.heap m) (hL : h₀.IsList a vs.toArray) (hi : IntsAre vs ns) (hj : i < ns.length) (hz : ns.length ≤ 1000) (h : ∀ v t, Q (.int v t) s)
    (hs : subscripted slice false (.ref a) (.int (0 + (i : Nat)) u) = operate [.ref a, .int (0 + (i : Nat)) u] (getItem (.ref a) (.int (0 + (i : Nat)) u)) := by with_unfolding_all rfl) (hg : ∀ r, letTemporaryGo value (.ref a) r = pure () := by intro _; with_unfolding_all rfl) :
    wpAny (model prog w) A (subscriptTail value slice (.ref a) (.int (0 + (i : Nat)) u)) Q E s :=
  let ⟨v, t, e⟩ := ints_at hi hj
  item_listL (F.lst hL) (by omega) (by omega) (by rw [show (0 + (i : Int)).toNat = i by omega]; exact e) (h v t) hs hg
theorem mod_four {a : Int} {Q : Value → Shared → Prop} (h : ∀ g t k, 0 ≤ g → g ≤ 3 → Q (.int g t) { s with toks := k }) : wpAny (model prog w) A (binaryOp .Mod (.int a t) (.int 4 u)) Q E s :=
  mod_int' (by decide) (h _ _ _ (Int.fmod_nonneg_of_pos _ (by decide)) (by have := Int.fmod_lt_of_pos a (b := 4) (by decide); omega))
theorem mod_size {a : Int} {Q : Value → Shared → Prop} (h : ∀ (g : Nat) t k, g < 3 → Q (.int (g : Nat) t) { s with toks := k }) : wpAny (model prog w) A (binaryOp .Mod (.int a t) (.int 3 u)) Q E s := by
  have h0 := Int.fmod_nonneg_of_pos a (b := 3) (by decide)
  have h1 := Int.fmod_lt_of_pos a (b := 3) (by decide)
  have e : a.fmod 3 = ((a.fmod 3).toNat : Nat) := by omega
  exact mod_int' (by decide) (by rw [e]; exact h _ _ _ (by omega))
theorem add_size {g : Nat} {Q : Value → Shared → Prop} (hg : g < 3) (h : ∀ S : Nat, 1 ≤ S → S ≤ 3 → ∀ t k, Q (.int (S : Nat) t) { s with toks := k }) : wpAny (model prog w) A (binaryOp .Add (.int 1 t) (.int (g : Nat) u)) Q E s :=
  add_int (by rw [show (1 : Int) + (g : Nat) = ((g + 1 : Nat) : Int) by omega]; exact h (g + 1) (by omega) (by omega) _ _)
theorem mod_pick {a : Int} {Q : Value → Shared → Prop} (h : ∀ g t k, Q (.int g t) { s with toks := k }) : wpAny (model prog w) A (binaryOp .Mod (.int a t) (.int 12 u)) Q E s :=
  mod_int' (by decide) (h _ _ _)
theorem pow_tw {e : Int} {Q : Value → Shared → Prop} (h0 : 0 ≤ e) (h1 : e ≤ 11) (h : ∀ p : Int, 0 < p → p.natAbs < 2 ^ 60 → ∀ t k, Q (.int p t) { s with toks := k }) : wpAny (model prog w) A (binaryOp .Pow (.int 12 t) (.int e u)) Q E s := by
  refine pow_int_small h0 (by omega) (by decide) (h _ (Int.pow_pos (by decide)) ?_ _ _)
  rw [Int.natAbs_pow]
  exact Nat.lt_of_le_of_lt (Nat.pow_le_pow_right (by decide) (show e.toNat ≤ 11 by omega)) (by decide)
theorem div_pick {a p : Int} {Q : Value → Shared → Prop} (h0 : 0 < p) (h1 : p.natAbs < 2 ^ 60) (h : ∀ g t k, Q (.int g t) { s with toks := k }) : wpAny (model prog w) A (binaryOp .FloorDiv (.int a t) (.int p u)) Q E s :=
  floordiv_int (by omega) (h _ _ _) (Or.inl (PyProof.noPylong_of_log2 (by
    exact (Nat.log2_lt (by omega)).mpr (Nat.lt_of_lt_of_le h1 (Nat.pow_le_pow_right (by omega) (by omega))))))
theorem iadd_one {n : Nat} {Q : Value → Shared → Prop} (h : ∀ t' k, Q (.int (n + 1 : Nat) t') { s with toks := k }) : wpAny (model prog w) A (inplaceOp .Add (.int (n : Nat) t) (.int 1 u)) Q E s :=
  iadd_int (h _ _)
theorem item_row {value slice : Expr} {ys : List Value} {l : List LV} {k i : Nat} {nn : List (Addr × Obj)} {Q : Value → Shared → Prop} (N : News h₀ L s.heap news) (hm : (D, listOf (List.toArray ys) k) ∈ news) (hL : Lasts nn ys l) (hj : i < l.length) (hz : l.length ≤ 1000) (h : ∀ a x b t1 t2, (a, tupL x b t1 t2) ∈ nn → Q (.ref a) s)
    (hs : subscripted slice false (.ref D) (.int (0 + (i : Nat)) u) = operate [.ref D, .int (0 + (i : Nat)) u] (getItem (.ref D) (.int (0 + (i : Nat)) u)) := by with_unfolding_all rfl) (hg : ∀ r, letTemporaryGo value (.ref D) r = pure () := by intro _; with_unfolding_all rfl) :
    wpAny (model prog w) A (subscriptTail value slice (.ref D) (.int (0 + (i : Nat)) u)) Q E s := by
  have hl := hL.len
  have e : ys[i]? = some (ys[i]'(by omega)) := List.getElem?_eq_getElem _
  obtain ⟨a, x, b, t1, t2, hv, _, hm2⟩ := hL.get e
  rw [hv] at e
  exact kim_list N hm rfl rfl (by omega) (by omega) (by rw [show (0 + (i : Int)).toNat = i by omega]; exact e) (h a x b t1 t2 hm2) hs hg
theorem item_kept {value slice : Expr} {ys : List Value} {ks : List (Fin 5)} {k : Nat} {i : Int} {Q : Value → Shared → Prop} (N : News h₀ L s.heap news) (hm : (D, listOf (List.toArray ys) k) ∈ news) (hK : Kepts ys ks) (h0 : 0 ≤ i) (h1 : i < ks.length) (hz : ks.length ≤ 1000) (h : ∀ t, Q (.int ((ks.getD i.toNat 0).val : Nat) t) s)
    (hs : subscripted slice false (.ref D) (.int i u) = operate [.ref D, .int i u] (getItem (.ref D) (.int i u)) := by with_unfolding_all rfl) (hg : ∀ r, letTemporaryGo value (.ref D) r = pure () := by intro _; with_unfolding_all rfl) :
    wpAny (model prog w) A (subscriptTail value slice (.ref D) (.int i u)) Q E s :=
  let ⟨t, e⟩ := hK.at (i := i.toNat) (by omega)
  kim_list N hm rfl rfl h0 (by omega) e (h t) hs hg
theorem item_fst {value slice : Expr} {x : Fin 5} {b : Bool} {t1 t2 : Tok} {Q : Value → Shared → Prop} (N : News h₀ L s.heap news) (hm : (D, tupL x b t1 t2) ∈ news) (h : Q (.int (x.val : Nat) t1) s)
    (hs : subscripted slice false (.ref D) (.int 0 u) = operate [.ref D, .int 0 u] (getItem (.ref D) (.int 0 u)) := by with_unfolding_all rfl) (hg : ∀ r, letTemporaryGo value (.ref D) r = pure () := by intro _; with_unfolding_all rfl) :
    wpAny (model prog w) A (subscriptTail value slice (.ref D) (.int 0 u)) Q E s :=
  kim_tup (l := [.int (x.val : Nat) t1, .str (fs x b) t2]) (j := 0) N hm rfl rfl (by decide) (by decide) rfl rfl h hs hg
theorem get_cnt {left : List Nat} {x : Fin 5} {ys : List Value} {k : Nat} {Q : Value → Shared → Prop} (N : News h₀ L s.heap news) (hm : (D, listOf (List.toArray ys) k) ∈ news) (hk : Cnts ys left) (h5 : left.length = 5) (h : ∀ t, Q (.int (cnt left x : Nat) t) s) : wpAny (model prog w) A (getItem (.ref D) (.int (x.val : Nat) u)) Q E s :=
  let ⟨t, e⟩ := hk.at (i := x.val) (by omega)
  wpAny_getItem_list ⟨_, (N _ hm).1, rfl, k, rfl⟩ (Int.natCast_nonneg _) (by have := x.isLt; omega) (by rw [Int.toNat_natCast, List.getElem?_toArray]; exact e) (h t)
theorem mod_len {a : Int} {n : Nat} {Q : Value → Shared → Prop} (hn : 0 < n) (h : ∀ t k, Q (.int (a.fmod n) t) { s with toks := k }) : wpAny (model prog w) A (binaryOp .Mod (.int a t) (.int (n : Nat) u)) Q E s :=
  mod_int' (by omega) (h _ _)
open Classical in
theorem eq_row_nil {a b : Addr} {ys : List Value} {l : List LV} {k k' : Nat} {nn : List (Addr × Obj)} {Q : Value → Shared → Prop} (N : News h₀ L s.heap news) (hs : ∀ p ∈ nn, p ∈ news) (ha : (a, listOf (List.toArray ys) k) ∈ news) (hL : Lasts nn ys l) (hl : l ≠ []) (hb : (b, listOf (List.toArray []) k') ∈ news) (hu : A.units + 64 < cLine)
    (h : Q (.bool false) s) : wpAny (model prog w) A (compareOp .Eq (.ref a) (.ref b)) Q E s := by
  have hd : ∀ {ys : List Value} {l : List LV}, Lasts nn ys l → DatAll nn ys (l.map fun p => Dat.tuple [.int (p.1.val : Nat), .str (fs p.1 p.2)]) := by
    intro ys l hL
    induction hL with
    | nil => exact .nil
    | cons hm r ih => exact .cons (.tuple (n := 0) (vs := [_, _]) hm (.cons (.int _ _) (.cons (.str _ _) .nil))) ih
  refine kqd_eq N ha rfl rfl (hd hL) hs hb rfl rfl (n₂ := nn) .nil hs ?_ (by simp) hu ?_
  · intro d hd
    obtain ⟨p, _, rfl⟩ := List.mem_map.mp hd
    simp [kqdOk, ok_fs]
  · rw [decide_eq_false (by simpa using hl)]
    exact h
theorem cat_lists {a b : Addr} {xs ys : List Value} {k k' : Nat} {Q : Value → Shared → Prop} (F : Fr h₀ L s.heap m) (N : News h₀ L s.heap news) (ha : (a, listOf xs.toArray k) ∈ news) (hb : (b, listOf ys.toArray k') ∈ news) (hz : xs.length + ys.length ≤ 1000)
    (h : ∀ D h', Fr h₀ L h' m → News h₀ L h' ((D, listOf (xs ++ ys).toArray 0) :: news) → (∀ p ∈ news, p.1 < D) → Q (.ref D) { s with heap := h' }) : wpAny (model prog w) A (binaryOp .Add (.ref a) (.ref b)) Q E s :=
  kmk_add_lit F N ⟨_, (N _ ha).1, rfl, k, rfl⟩ ⟨_, (N _ hb).1, rfl, k', rfl⟩ (by simp) h (by rw [sizeLine_eq]; simp; omega)
end
theorem not_cell_list {its : Array Value} {k : Nat} : ¬ IsC (listOf its k) := fun ⟨_, e⟩ => by cases e
theorem not_cell_tup {x : Fin 5} {u : Bool} {n : Nat} {t t' : Tok} : ¬ IsC (tupO x u n t t') := fun ⟨_, e⟩ => by cases e
theorem not_cell_tupL {x : Fin 5} {u : Bool} {t t' : Tok} : ¬ IsC (tupL x u t t') := fun ⟨_, e⟩ => by cases e
theorem not_cell_inst {c d : Addr} : ¬ IsC (instObj c d) := fun ⟨_, e⟩ => by cases e
theorem not_cell_dict {es : List DictEntry} {n : Nat} : ¬ IsC (dictOf es n) := fun ⟨_, e⟩ => by cases e
theorem Rows.movC {news news' : List (Addr × Obj)} (hs : ∀ p ∈ news, ¬ IsC p.2 → p ∈ news') {items : List Value} {kvs : List KV} (hR : Rows news items kvs) : Rows news' items kvs := by
  induction hR with
  | nil => exact .nil
  | cons h _ ih => exact .cons (hs _ h not_cell_tup) ih
theorem Lasts.movC {news news' : List (Addr × Obj)} (hs : ∀ p ∈ news, ¬ IsC p.2 → p ∈ news') {items : List Value} {l : List LV} (hR : Lasts news items l) : Lasts news' items l := by
  induction hR with
  | nil => exact .nil
  | cons h _ ih => exact .cons (hs _ h not_cell_tupL) ih
theorem HdrAt.movC {w : World} {x l : Addr} {kvs : List KV} {news news' : List (Addr × Obj)} (hs : ∀ p ∈ news, ¬ IsC p.2 → p ∈ news') (h : HdrAt w news x l kvs) : HdrAt w news' x l kvs :=
  by
  obtain ⟨dx, th, n, k, items, h1, h2, h3, h4⟩ := h
  exact ⟨dx, th, n, k, items, hs _ h1 not_cell_inst, hs _ h2 not_cell_dict, hs _ h3 not_cell_list, h4.movC hs⟩
/-- the ledger ordered anew: the four cells ahead, what is no cell behind -/
theorem renorm {g h' : Heap} {L l c1 c2 c3 c4 : Addr} {o1 o2 o3 o4 : Obj} {A news' : List (Addr × Obj)} (hc : (IsC o1 ∧ IsC o2) ∧ IsC o3 ∧ IsC o4) (hm : ((c1, o1) ∈ A ∧ (c2, o2) ∈ A) ∧ (c3, o3) ∈ A ∧ (c4, o4) ∈ A) (hl : (c1 ≠ l ∧ c2 ≠ l) ∧ c3 ≠ l ∧ c4 ≠ l)
    (N' : News g L h' news') (hk : ∀ p ∈ A, p.1 ≠ l → p ∈ news') :
    ∃ n', News g L h' ((c4, o4) :: (c3, o3) :: (c2, o2) :: (c1, o1) :: n') ∧ ((∀ p ∈ n', p.1 ≠ c1) ∧ (∀ p ∈ n', p.1 ≠ c2) ∧ (∀ p ∈ n', p.1 ≠ c3) ∧ ∀ p ∈ n', p.1 ≠ c4) ∧ (∀ p ∈ news', ¬ IsC p.2 → p ∈ n') ∧ ∀ p ∈ n', p ∈ news' := by
  have m1 := hk _ hm.1.1 hl.1.1
  have m2 := hk _ hm.1.2 hl.1.2
  have m3 := hk _ hm.2.1 hl.2.1
  have m4 := hk _ hm.2.2 hl.2.2
  refine ⟨cut c1 (cut c2 (cut c3 (cut c4 news'))), ?_, ⟨cut_ne, fun p hp => cut_ne p (cut_sub p hp), fun p hp => cut_ne p (cut_sub p (cut_sub p hp)), fun p hp => cut_ne p (cut_sub p (cut_sub p (cut_sub p hp)))⟩, ?_, fun p hp => cut_sub p (cut_sub p (cut_sub p (cut_sub p hp)))⟩
  · intro p hp
    rcases List.mem_cons.mp hp with rfl | hp
    · exact N' _ m4
    rcases List.mem_cons.mp hp with rfl | hp
    · exact N' _ m3
    rcases List.mem_cons.mp hp with rfl | hp
    · exact N' _ m2
    rcases List.mem_cons.mp hp with rfl | hp
    · exact N' _ m1
    · exact N' _ (cut_sub p (cut_sub p (cut_sub p (cut_sub p hp))))
  · intro p hp hn
    have key : ∀ c o, (c, o) ∈ news' → IsC o → p.1 ≠ c := by
      intro c o hco hoc e
      have h1 := (N' _ hco).1
      have h2 := (N' _ hp).1
      rw [e] at h2
      rw [h2] at h1
      exact hn (by rw [Option.some.inj h1]; exact hoc)
    exact cut_mem _ (cut_mem _ (cut_mem _ (cut_mem _ hp (key _ _ m4 hc.2.2)) (key _ _ m3 hc.2.1)) (key _ _ m2 hc.1.2)) (key _ _ m1 hc.1.1)
theorem cells_ne {l I : Addr} {o o' : Obj} {B : List (Addr × Obj)} (hI : ∀ p ∈ (l, o) :: B, p.1 < I) : ∀ p ∈ (l, o') :: B, p.1 ≠ I := by
  intro p hp
  rcases List.mem_cons.mp hp with rfl | hp
  · exact Nat.ne_of_lt (hI (l, o) (List.mem_cons_self ..))
  · exact Nat.ne_of_lt (hI _ (List.mem_cons_of_mem _ hp))
end
section
abbrev natOf {n : Nat} (_ : 1 ≤ n) : Nat := n
theorem natOf_eq {n : Nat} (h : 1 ≤ n) : natOf h = n := rfl
abbrev frm {h₀ h : Heap} {L : Addr} {m : Str → Option Value} (_ : Fr h₀ L h m) : Str → Option Value := m
theorem HdrAt.keepC {w : World} {h₀ h : Heap} {L l x' l' : Addr} {its : Array Value} {k : Nat} {kvs : List KV} {news news' : List (Addr × Obj)} (N : News h₀ L h news) (hl : (l, listOf its k) ∈ news) (hne : l' ≠ l) (hk : ∀ p ∈ news, ¬ IsC p.2 → p.1 ≠ l → p ∈ news')
    (hH : HdrAt w news x' l' kvs) : HdrAt w news' x' l' kvs :=
  by
  obtain ⟨dx, th, n, k, items, h1, h2, h3, h4⟩ := hH
  have hr : ∀ {items : List Value} {kvs : List KV}, Rows news items kvs → Rows news' items kvs := fun r => by
    induction r with
    | nil => exact .nil
    | cons hm _ ih => exact .cons (hk _ hm not_cell_tup (ne_objs N hm hl (by intro e; injection e with e; exact absurd e (by decide)))) ih
  exact ⟨dx, th, n, k, items, hk _ h1 not_cell_inst (ne_objs N h1 hl (by intro e; cases e)), hk _ h2 not_cell_dict (ne_objs N h2 hl (by intro e; injection e with e; exact absurd e (by decide))), hk _ h3 not_cell_list hne, hr h4⟩
theorem Lasts.keepC {h₀ h : Heap} {L l : Addr} {news news' : List (Addr × Obj)} {its : Array Value} {k : Nat} (N : News h₀ L h news) (hl : (l, listOf its k) ∈ news) (hk : ∀ p ∈ news, ¬ IsC p.2 → p.1 ≠ l → p ∈ news') {items : List Value} {ls : List LV} (hR : Lasts news items ls) : Lasts news' items ls := by
  induction hR with
  | nil => exact .nil
  | cons h _ ih => exact .cons (hk _ h not_cell_tupL (ne_objs N h hl (by intro e; injection e with e; exact absurd e (by decide)))) ih
/-- a list in the ledger; the list of cells -/
inductive LstP (n : List (Addr × Obj)) (D : Addr) (R : List Value → Prop) : Prop
  | mk (ys : List Value) (k : Nat) (hm : (D, listOf (List.toArray ys) k) ∈ n) (hR : R ys) : LstP n D R
inductive CellsAt (n : List (Addr × Obj)) (D : Addr) : Prop
  | mk (a b c d : Int) (t0 t1 t2 t3 : Tok) (k : Nat) (hm : (D, cellsO a b c d t0 t1 t2 t3 k) ∈ n) : CellsAt n D
theorem LstP.to {n n' : List (Addr × Obj)} {D : Addr} {R R' : List Value → Prop} (h : LstP n D R) (f : ∀ (its : Array Value) (k : Nat), (D, listOf its k) ∈ n → (D, listOf its k) ∈ n') (g : ∀ ys, R ys → R' ys) : LstP n' D R' := by
  obtain ⟨ys, k, hm, hR⟩ := h
  exact ⟨ys, k, f _ _ hm, g _ hR⟩
theorem CellsAt.to {n n' : List (Addr × Obj)} {D : Addr} (h : CellsAt n D) (f : ∀ (its : Array Value) (k : Nat), (D, listOf its k) ∈ n → (D, listOf its k) ∈ n') : CellsAt n' D := by
  obtain ⟨a, b, c, d, t0, t1, t2, t3, k, hm⟩ := h
  exact ⟨a, b, c, d, t0, t1, t2, t3, k, f _ _ hm⟩
theorem HdrAt.lst {w : World} {n : List (Addr × Obj)} {x l : Addr} {kvs : List KV} (h : HdrAt w n x l kvs) : ∃ its k, (l, listOf its k) ∈ n := by
  obtain ⟨_, _, _, _, _, _, _, h3, _⟩ := h
  exact ⟨_, _, h3⟩
/-- what the law's ledger bears -/
structure LB (w : World) (n : List (Addr × Obj)) (xf lf xF lF Dc Dl Da Dk Dr : Addr) (kv1 kv2 : List KV) (left : List Nat) (last row : List LV) (kept : List (Fin 5)) : Prop where
  few : HdrAt w n xf lf kv1
  full : HdrAt w n xF lF kv2
  cells : CellsAt n Dc
  left : LstP n Dl fun ys => Cnts ys left
  last : LstP n Da fun ys => Lasts n ys last
  kept : LstP n Dk fun ys => Kepts ys kept
  row : LstP n Dr fun ys => Lasts n ys row
  f1 : lf ≠ lF ∧ lf ≠ Dc ∧ lf ≠ Dl ∧ lf ≠ Da ∧ lf ≠ Dk ∧ lf ≠ Dr
  f2 : lF ≠ Dc ∧ lF ≠ Dl ∧ lF ≠ Da ∧ lF ≠ Dk ∧ lF ≠ Dr
  f3 : Dl ≠ Dc ∧ Dl ≠ Da ∧ Dl ≠ Dk ∧ Dl ≠ Dr
section
variable {w : World} {g h : Heap} {L xf lf xF lF Dc Dl Da Dk Dr D : Addr} {n n' : List (Addr × Obj)} {kv1 kv2 kv' : List KV} {left left' : List Nat} {last row last' row' : List LV} {kept kept' : List (Fin 5)} {ys : List Value} {k : Nat}
theorem LB.lfm (B : LB w n xf lf xF lF Dc Dl Da Dk Dr kv1 kv2 left last row kept) : ∃ its k, (lf, listOf its k) ∈ n := B.few.lst
theorem LB.lFm (B : LB w n xf lf xF lF Dc Dl Da Dk Dr kv1 kv2 left last row kept) : ∃ its k, (lF, listOf its k) ∈ n := B.full.lst
theorem LB.mono (B : LB w n xf lf xF lF Dc Dl Da Dk Dr kv1 kv2 left last row kept) (hk : ∀ p ∈ n, ¬ IsC p.2 → p ∈ n') : LB w n' xf lf xF lF Dc Dl Da Dk Dr kv1 kv2 left last row kept :=
  ⟨B.few.movC hk, B.full.movC hk, B.cells.to fun _ _ h => hk _ h not_cell_list, B.left.to (fun _ _ h => hk _ h not_cell_list) fun _ h => h, B.last.to (fun _ _ h => hk _ h not_cell_list) fun _ h => h.movC hk,
    B.kept.to (fun _ _ h => hk _ h not_cell_list) fun _ h => h, B.row.to (fun _ _ h => hk _ h not_cell_list) fun _ h => h.movC hk, B.f1, B.f2, B.f3⟩
theorem LB.setFew (B : LB w n xf lf xF lF Dc Dl Da Dk Dr kv1 kv2 left last row kept) (N : News g L h n) (hk : ∀ p ∈ n, ¬ IsC p.2 → p.1 ≠ lf → p ∈ n') (hH : HdrAt w n' xf lf kv') : LB w n' xf lf xF lF Dc Dl Da Dk Dr kv' kv2 left last row kept := by
  obtain ⟨its, k0, hl⟩ := B.lfm
  obtain ⟨e1, e2, e3, e4, e5, e6⟩ := B.f1
  exact ⟨hH, B.full.keepC N hl e1.symm hk, B.cells.to fun _ _ h => hk _ h not_cell_list e2.symm, B.left.to (fun _ _ h => hk _ h not_cell_list e3.symm) fun _ h => h, B.last.to (fun _ _ h => hk _ h not_cell_list e4.symm) fun _ h => h.keepC N hl hk,
    B.kept.to (fun _ _ h => hk _ h not_cell_list e5.symm) fun _ h => h, B.row.to (fun _ _ h => hk _ h not_cell_list e6.symm) fun _ h => h.keepC N hl hk, B.f1, B.f2, B.f3⟩
theorem LB.setFull (B : LB w n xf lf xF lF Dc Dl Da Dk Dr kv1 kv2 left last row kept) (N : News g L h n) (hk : ∀ p ∈ n, ¬ IsC p.2 → p.1 ≠ lF → p ∈ n') (hH : HdrAt w n' xF lF kv') : LB w n' xf lf xF lF Dc Dl Da Dk Dr kv1 kv' left last row kept := by
  obtain ⟨its, k0, hl⟩ := B.lFm
  have e1 := B.f1.1
  obtain ⟨e2, e3, e4, e5, e6⟩ := B.f2
  exact ⟨B.few.keepC N hl e1 hk, hH, B.cells.to fun _ _ h => hk _ h not_cell_list e2.symm, B.left.to (fun _ _ h => hk _ h not_cell_list e3.symm) fun _ h => h, B.last.to (fun _ _ h => hk _ h not_cell_list e4.symm) fun _ h => h.keepC N hl hk,
    B.kept.to (fun _ _ h => hk _ h not_cell_list e5.symm) fun _ h => h, B.row.to (fun _ _ h => hk _ h not_cell_list e6.symm) fun _ h => h.keepC N hl hk, B.f1, B.f2, B.f3⟩
theorem LB.setLeft (B : LB w n xf lf xF lF Dc Dl Da Dk Dr kv1 kv2 left last row kept) (N : News g L h n) (hk : ∀ p ∈ n, ¬ IsC p.2 → p.1 ≠ Dl → p ∈ n') (hm' : (Dl, listOf (List.toArray ys) k) ∈ n') (hC : Cnts ys left') : LB w n' xf lf xF lF Dc Dl Da Dk Dr kv1 kv2 left' last row kept := by
  obtain ⟨_, _, hl, _⟩ := B.left
  have e1 := B.f1.2.2.1
  have e2 := B.f2.2.1
  obtain ⟨e3, e4, e5, e6⟩ := B.f3
  exact ⟨B.few.keepC N hl e1 hk, B.full.keepC N hl e2 hk, B.cells.to fun _ _ h => hk _ h not_cell_list e3.symm, ⟨_, _, hm', hC⟩, B.last.to (fun _ _ h => hk _ h not_cell_list e4.symm) fun _ h => h.keepC N hl hk,
    B.kept.to (fun _ _ h => hk _ h not_cell_list e5.symm) fun _ h => h, B.row.to (fun _ _ h => hk _ h not_cell_list e6.symm) fun _ h => h.keepC N hl hk, B.f1, B.f2, B.f3⟩
theorem LB.freshH (B : LB w n xf lf xF lF Dc Dl Da Dk Dr kv1 kv2 left last row kept) (hD : ∀ p ∈ n, p.1 ≠ D) : (lf ≠ D ∧ lF ≠ D) ∧ Dc ≠ D ∧ Dl ≠ D ∧ Da ≠ D ∧ Dk ≠ D ∧ Dr ≠ D := by
  obtain ⟨_, _, h1⟩ := B.lfm
  obtain ⟨_, _, h2⟩ := B.lFm
  obtain ⟨_, _, _, _, _, _, _, _, _, h3⟩ := B.cells
  obtain ⟨_, _, h4, _⟩ := B.left
  obtain ⟨_, _, h5, _⟩ := B.last
  obtain ⟨_, _, h6, _⟩ := B.kept
  obtain ⟨_, _, h7, _⟩ := B.row
  exact ⟨⟨hD _ h1, hD _ h2⟩, hD _ h3, hD _ h4, hD _ h5, hD _ h6, hD _ h7⟩
theorem LB.newKept (B : LB w n xf lf xF lF Dc Dl Da Dk Dr kv1 kv2 left last row kept) (hD : ∀ p ∈ n, p.1 ≠ D) (hm : (D, listOf (List.toArray ys) k) ∈ n') (hk : ∀ p ∈ n, ¬ IsC p.2 → p ∈ n') (hK : Kepts ys kept') : LB w n' xf lf xF lF Dc Dl Da D Dr kv1 kv2 left last row kept' :=
  have B' := B.mono hk
  have q := B.freshH hD
  ⟨B'.few, B'.full, B'.cells, B'.left, B'.last, ⟨_, _, hm, hK⟩, B'.row, ⟨B.f1.1, B.f1.2.1, B.f1.2.2.1, B.f1.2.2.2.1, q.1.1, B.f1.2.2.2.2.2⟩, ⟨B.f2.1, B.f2.2.1, B.f2.2.2.1, q.1.2, B.f2.2.2.2.2⟩, ⟨B.f3.1, B.f3.2.1, q.2.2.1, B.f3.2.2.2⟩⟩
theorem LB.newLast (B : LB w n xf lf xF lF Dc Dl Da Dk Dr kv1 kv2 left last row kept) (hD : ∀ p ∈ n, p.1 ≠ D) (hm : (D, listOf (List.toArray ys) k) ∈ n') (hk : ∀ p ∈ n, ¬ IsC p.2 → p ∈ n') (hK : Lasts n' ys last') : LB w n' xf lf xF lF Dc Dl D Dk Dr kv1 kv2 left last' row kept :=
  have B' := B.mono hk
  have q := B.freshH hD
  ⟨B'.few, B'.full, B'.cells, B'.left, ⟨_, _, hm, hK⟩, B'.kept, B'.row, ⟨B.f1.1, B.f1.2.1, B.f1.2.2.1, q.1.1, B.f1.2.2.2.2.1, B.f1.2.2.2.2.2⟩, ⟨B.f2.1, B.f2.2.1, q.1.2, B.f2.2.2.2.1, B.f2.2.2.2.2⟩, ⟨B.f3.1, q.2.2.1, B.f3.2.2.1, B.f3.2.2.2⟩⟩
theorem LB.newRow (B : LB w n xf lf xF lF Dc Dl Da Dk Dr kv1 kv2 left last row kept) (hD : ∀ p ∈ n, p.1 ≠ D) (hm : (D, listOf (List.toArray ys) k) ∈ n') (hk : ∀ p ∈ n, ¬ IsC p.2 → p ∈ n') (hK : Lasts n' ys row') : LB w n' xf lf xF lF Dc Dl Da Dk D kv1 kv2 left last row' kept :=
  have B' := B.mono hk
  have q := B.freshH hD
  ⟨B'.few, B'.full, B'.cells, B'.left, B'.last, B'.kept, ⟨_, _, hm, hK⟩, ⟨B.f1.1, B.f1.2.1, B.f1.2.2.1, B.f1.2.2.2.1, B.f1.2.2.2.2.1, q.1.1⟩, ⟨B.f2.1, B.f2.2.1, B.f2.2.2.1, B.f2.2.2.2.1, q.1.2⟩, ⟨B.f3.1, B.f3.2.1, B.f3.2.2.1, q.2.2.1⟩⟩
theorem LB.newLeft (B : LB w n xf lf xF lF Dc Dl Da Dk Dr kv1 kv2 left last row kept) (hD : ∀ p ∈ n, p.1 ≠ D) (hm : (D, listOf (List.toArray ys) k) ∈ n') (hk : ∀ p ∈ n, ¬ IsC p.2 → p ∈ n') (hK : Cnts ys left') : LB w n' xf lf xF lF Dc D Da Dk Dr kv1 kv2 left' last row kept :=
  have B' := B.mono hk
  have q := B.freshH hD
  ⟨B'.few, B'.full, B'.cells, ⟨_, _, hm, hK⟩, B'.last, B'.kept, B'.row, ⟨B.f1.1, B.f1.2.1, q.1.1, B.f1.2.2.2.1, B.f1.2.2.2.2.1, B.f1.2.2.2.2.2⟩, ⟨B.f2.1, q.1.2, B.f2.2.2.1, B.f2.2.2.2.1, B.f2.2.2.2.2⟩, ⟨q.2.1.symm, q.2.2.2.1.symm, q.2.2.2.2.1.symm, q.2.2.2.2.2.symm⟩⟩
end
inductive RenR (g h : Heap) (L c1 c2 c3 c4 : Addr) (o1 o2 o3 o4 : Obj) (A : List (Addr × Obj)) : Prop
  | mk (n' : List (Addr × Obj)) (hN : News g L h ((c4, o4) :: (c3, o3) :: (c2, o2) :: (c1, o1) :: n')) (h1 : ∀ p ∈ n', p.1 ≠ c1) (h2 : ∀ p ∈ n', p.1 ≠ c2) (h3 : ∀ p ∈ n', p.1 ≠ c3) (h4 : ∀ p ∈ n', p.1 ≠ c4)
    (hmv : ∀ p ∈ A, ¬ IsC p.2 → p ∈ n') (hsub : ∀ p ∈ n', p ∈ A) (hadr : ∀ p ∈ A, p.1 ≠ c1 → p.1 ≠ c2 → p.1 ≠ c3 → p.1 ≠ c4 → p ∈ n') : RenR g h L c1 c2 c3 c4 o1 o2 o3 o4 A
/-- the ledger ordered anew -/
theorem ren_all {g h : Heap} {L c1 c2 c3 c4 : Addr} {o1 o2 o3 o4 : Obj} {A : List (Addr × Obj)} (N : News g L h A) (h1 : IsC o1) (h2 : IsC o2) (h3 : IsC o3) (h4 : IsC o4) (m1 : (c1, o1) ∈ A) (m2 : (c2, o2) ∈ A) (m3 : (c3, o3) ∈ A) (m4 : (c4, o4) ∈ A) :
    RenR g h L c1 c2 c3 c4 o1 o2 o3 o4 A := by
  refine ⟨cut c1 (cut c2 (cut c3 (cut c4 A))), ?_, cut_ne, fun p hp => cut_ne p (cut_sub p hp), fun p hp => cut_ne p (cut_sub p (cut_sub p hp)), fun p hp => cut_ne p (cut_sub p (cut_sub p (cut_sub p hp))), ?_, fun p hp => cut_sub p (cut_sub p (cut_sub p (cut_sub p hp))), fun p hp q1 q2 q3 q4 => cut_mem _ (cut_mem _ (cut_mem _ (cut_mem _ hp q4) q3) q2) q1⟩
  · intro p hp
    rcases List.mem_cons.mp hp with rfl | hp
    · exact N _ m4
    rcases List.mem_cons.mp hp with rfl | hp
    · exact N _ m3
    rcases List.mem_cons.mp hp with rfl | hp
    · exact N _ m2
    rcases List.mem_cons.mp hp with rfl | hp
    · exact N _ m1
    · exact N _ (cut_sub p (cut_sub p (cut_sub p (cut_sub p hp))))
  · intro p hp hn
    have key : ∀ c o, (c, o) ∈ A → IsC o → p.1 ≠ c := by
      intro c o hco hoc e
      have q1 := (N _ hco).1
      have q2 := (N _ hp).1
      rw [e] at q2
      rw [q2] at q1
      exact hn (by rw [Option.some.inj q1]; exact hoc)
    exact cut_mem _ (cut_mem _ (cut_mem _ (cut_mem _ hp (key _ _ m4 h4)) (key _ _ m3 h3)) (key _ _ m2 h2)) (key _ _ m1 h1)
theorem ovr_known3 {u m₀ : Str → Option Value} {a b c : Str} {va vb vc : Option Value} {names : List Str} (ha : u a = va) (hb : u b = vb) (hc : u c = vc) (ia : a ∈ names) (ib : b ∈ names) (ic : c ∈ names) :
    ovr u m₀ names = fun z => if z = a then va else if z = b then vb else if z = c then vc else ovr u m₀ names z := by
  funext z
  split
  · rename_i e; rw [e, ovr_at ia, ha]
  · split
    · rename_i e; rw [e, ovr_at ib, hb]
    · split
      · rename_i e; rw [e, ovr_at ic, hc]
      · rfl
/-- the law's state after b flags -/
inductive LawS (w : World) (S b : Nat) (xf lf xF lF Dc Dr c1 c2 c3 c4 : Addr) (row : List LV) (n' : List (Addr × Obj)) (m : Str → Option Value) : Prop
  | mk (n : List (Addr × Obj)) (o1 o2 o3 o4 : Obj) (left : List Nat) (r : Nat) (last : List LV) (kept : List (Fin 5)) (Dl Da Dk : Addr) (t : Tok) (hn : n' = (c4, o4) :: (c3, o3) :: (c2, o2) :: (c1, o1) :: n)
    (d1 : o1.data = .cell (some (.ref Dl))) (d2 : IsC o2) (d3 : IsC o3) (d4 : IsC o4) (y1 : ∀ p ∈ n, p.1 ≠ c1) (y2 : ∀ p ∈ n, p.1 ≠ c2) (y3 : ∀ p ∈ n, p.1 ≠ c3) (y4 : ∀ p ∈ n, p.1 ≠ c4)
    (hB : LB w n xf lf xF lF Dc Dl Da Dk Dr (fewDue left last) (fullDue left r last kept) left last row kept) (hI : Inv S left r last kept) (hc : ∀ x, cnt left x ≤ b) (hr : r ≤ b)
    (mk : m (Str.ofString "kept") = some (.ref Dk)) (ml : m (Str.ofString "last") = some (.ref Da)) (mr : m (Str.ofString "rounds") = some (.int (r : Nat) t)) : LawS w S b xf lf xF lF Dc Dr c1 c2 c3 c4 row n' m
theorem upd_eq {m m' : Str → Option Value} {a : Str} {v : Option Value} (h1 : ∀ z, z ≠ a → m' z = m z) (h2 : m' a = v) : m' = fun z => if z = a then v else m z := by
  funext z
  split
  · rename_i e; rw [e, h2]
  · rename_i e; exact h1 z e
section
variable {w : World} {g h : Heap} {L xf lf xF lF Dc Dl Da Dk Dr c1 c2 c3 c4 I2 J : Addr} {o1 o2 o3 o4 oI oJ : Obj} {m : Str → Option Value} {n : List (Addr × Obj)} {kv1 kv2 : List KV} {left : List Nat} {last row : List LV} {kept : List (Fin 5)}
/-- after the one that may be thrown out -/
inductive Join1 (_F : Fr g L h m) (_B : LB w n xf lf xF lF Dc Dl Da Dk Dr kv1 kv2 left last row kept) (_N : News g L h ((c4, o4) :: (c3, o3) :: (c2, o2) :: (c1, o1) :: n)) (_hI : (I2, oI) ∈ n) (_hJ : (J, oJ) ∈ n) (s : Shared) (kept' : List (Fin 5)) (f : Flow) (s' : Shared) : Prop
  | mk (hf : f = .next) (h' : Heap) (tk' : Nat) (m' : Str → Option Value) (n' : List (Addr × Obj)) (o4' : Obj) (Dk' : Addr) (hs : s' = { s with heap := h', toks := tk' }) (hF : Fr g L h' m') (q1 : ∀ z, z ≠ Str.ofString "kept" → m' z = m z) (q2 : m' (Str.ofString "kept") = some (.ref Dk'))
    (hN : News g L h' ((c4, o4') :: (c3, o3) :: (c2, o2) :: (c1, o1) :: n')) (h4 : IsC o4') (hy : (∀ p ∈ n', p.1 ≠ c1) ∧ (∀ p ∈ n', p.1 ≠ c2) ∧ (∀ p ∈ n', p.1 ≠ c3) ∧ ∀ p ∈ n', p.1 ≠ c4)
    (hB : LB w n' xf lf xF lF Dc Dl Da Dk' Dr kv1 kv2 left last row kept') (hI' : (I2, oI) ∈ n') (hJ' : (J, oJ) ∈ n') : Join1 _F _B _N _hI _hJ s kept' f s'
theorem join1 {M : Model} {A : Around} {s : Shared} {t : Sem Flow} {Q : Flow → Shared → Prop} {E : Value → Shared → Prop} (F : Fr g L h m) (B : LB w n xf lf xF lF Dc Dl Da Dk Dr kv1 kv2 left last row kept) (N : News g L h ((c4, o4) :: (c3, o3) :: (c2, o2) :: (c1, o1) :: n)) (hI : (I2, oI) ∈ n) (hJ : (J, oJ) ∈ n)
    (kept' : List (Fin 5)) (h1 : wpAny M A t (Join1 F B N hI hJ s kept') E s)
    (h2 : ∀ h' tk' n' o4' Dk', Fr g L h' (fun z => if z = Str.ofString "kept" then some (.ref Dk') else m z) → News g L h' ((c4, o4') :: (c3, o3) :: (c2, o2) :: (c1, o1) :: n') → IsC o4' → (∀ p ∈ n', p.1 ≠ c1) → (∀ p ∈ n', p.1 ≠ c2) → (∀ p ∈ n', p.1 ≠ c3) → (∀ p ∈ n', p.1 ≠ c4) →
      LB w n' xf lf xF lF Dc Dl Da Dk' Dr kv1 kv2 left last row kept' → (I2, oI) ∈ n' → (J, oJ) ∈ n' → Q .next { s with heap := h', toks := tk' }) : wpAny M A t Q E s := wpAny_mono h1 (fun f s' e => by
  obtain ⟨rfl, h', tk', m', n', o4', Dk', rfl, hF, q1, q2, hN, h4, ⟨y1, y2, y3, y4⟩, hB, hI', hJ'⟩ := e
  rw [upd_eq q1 q2] at hF
  exact h2 h' tk' n' o4' Dk' hF hN h4 y1 y2 y3 y4 hB hI' hJ') fun _ _ e => e
/-- after the round that may be -/
inductive Join2 (_F : Fr g L h m) (_B : LB w n xf lf xF lF Dc Dl Da Dk Dr kv1 kv2 left last row kept) (_N : News g L h ((c4, o4) :: (c3, o3) :: (c2, o2) :: (c1, o1) :: n)) (_hI : (I2, oI) ∈ n) (_hJ : (J, oJ) ∈ n) (s : Shared) (left' : List Nat) (r' : Nat) (f : Flow) (s' : Shared) : Prop
  | mk (hf : f = .next) (h' : Heap) (tk' : Nat) (m' : Str → Option Value) (n' : List (Addr × Obj)) (o1' : Obj) (Dl' : Addr) (t : Tok) (hs : s' = { s with heap := h', toks := tk' }) (hF : Fr g L h' m') (q1 : ∀ z, z ≠ Str.ofString "rounds" → m' z = m z) (q2 : m' (Str.ofString "rounds") = some (.int (r' : Nat) t))
    (hN : News g L h' ((c4, o4) :: (c3, o3) :: (c2, o2) :: (c1, o1') :: n')) (h1 : o1'.data = .cell (some (.ref Dl'))) (hy : (∀ p ∈ n', p.1 ≠ c1) ∧ (∀ p ∈ n', p.1 ≠ c2) ∧ (∀ p ∈ n', p.1 ≠ c3) ∧ ∀ p ∈ n', p.1 ≠ c4)
    (hB : LB w n' xf lf xF lF Dc Dl' Da Dk Dr kv1 kv2 left' last row kept) (hI' : (I2, oI) ∈ n') (hJ' : (J, oJ) ∈ n') : Join2 _F _B _N _hI _hJ s left' r' f s'
theorem join2 {M : Model} {A : Around} {s : Shared} {t : Sem Flow} {Q : Flow → Shared → Prop} {E : Value → Shared → Prop} (F : Fr g L h m) (B : LB w n xf lf xF lF Dc Dl Da Dk Dr kv1 kv2 left last row kept) (N : News g L h ((c4, o4) :: (c3, o3) :: (c2, o2) :: (c1, o1) :: n)) (hI : (I2, oI) ∈ n) (hJ : (J, oJ) ∈ n)
    (left' : List Nat) (r' : Nat) (h1 : wpAny M A t (Join2 F B N hI hJ s left' r') E s)
    (h2 : ∀ h' tk' n' o1' Dl' tr, Fr g L h' (fun z => if z = Str.ofString "rounds" then some (.int (r' : Nat) tr) else m z) → News g L h' ((c4, o4) :: (c3, o3) :: (c2, o2) :: (c1, o1') :: n') → o1'.data = .cell (some (.ref Dl')) → (∀ p ∈ n', p.1 ≠ c1) → (∀ p ∈ n', p.1 ≠ c2) → (∀ p ∈ n', p.1 ≠ c3) → (∀ p ∈ n', p.1 ≠ c4) →
      LB w n' xf lf xF lF Dc Dl' Da Dk Dr kv1 kv2 left' last row kept → (I2, oI) ∈ n' → (J, oJ) ∈ n' → Q .next { s with heap := h', toks := tk' }) : wpAny M A t Q E s := wpAny_mono h1 (fun f s' e => by
  obtain ⟨rfl, h', tk', m', n', o1', Dl', tr, rfl, hF, q1, q2, hN, d1, ⟨y1, y2, y3, y4⟩, hB, hI', hJ'⟩ := e
  rw [upd_eq q1 q2] at hF
  exact h2 h' tk' n' o1' Dl' tr hF hN d1 y1 y2 y3 y4 hB hI' hJ') fun _ _ e => e
end
theorem Cnts.set {ys : List Value} {l : List Nat} (h : Cnts ys l) : ∀ (i : Nat) {n : Nat} {t : Tok}, Cnts (ys.set i (.int (n : Nat) t)) (l.set i n) := by
  induction h with
  | nil => intro i n t; exact .nil
  | cons r ih =>
    intro i n t
    cases i with
    | zero => exact .cons r
    | succ i => exact .cons (ih i)
theorem headMem {g h : Heap} {L : Addr} {p : Addr × Obj} {l : List (Addr × Obj)} (_ : News g L h (p :: l)) : p ∈ p :: l := .head _
theorem it_ne {g h : Heap} {L I l : Addr} {o : Obj} {its : Array Value} {k : Nat} {A : List (Addr × Obj)} (N : News g L h A) (hI : (I, o) ∈ A) (hl : (l, listOf its k) ∈ A) (hc : o.cls = .type "range_iterator") : I ≠ l :=
  ne_objs N hI hl (by rw [hc]; intro e; injection e with e; exact absurd e (by decide))
theorem cnt_one {V : Int} {n : Nat} {t : Tok} (h : V = (n : Nat)) : Cnts [.int V t] [n] := by subst h; exact .cons .nil
theorem headMem2 {g h : Heap} {L : Addr} {p q r : Addr × Obj} {l : List (Addr × Obj)} (_ : News g L h (q :: r :: p :: l)) : p ∈ q :: r :: p :: l := .tail _ (.tail _ (.head _))
theorem subTop4 {g h : Heap} {L : Addr} {a b c d : Addr × Obj} {n : List (Addr × Obj)} (_ : News g L h (a :: b :: c :: d :: n)) : ∀ p ∈ n, p ∈ a :: b :: c :: d :: n := fun _ hp => .tail _ (.tail _ (.tail _ (.tail _ hp)))
end
section
theorem Rows.offR {h₀ h : Heap} {L I : Addr} {o : Obj} {news news' : List (Addr × Obj)} (N : News h₀ L h news) (hI : (I, o) ∈ news) (hc : o.cls = .type "range_iterator") (hk : ∀ p ∈ news, p.1 ≠ I → p ∈ news') {items : List Value} {kvs : List KV} (hR : Rows news items kvs) : Rows news' items kvs := by
  induction hR with
  | nil => exact .nil
  | cons h _ ih => exact .cons (hk _ h (ne_objs N h hI (by rw [hc]; intro e; injection e with e; exact absurd e (by decide)))) ih
theorem HdrAt.offR {w : World} {h₀ h : Heap} {L I x l : Addr} {o : Obj} {kvs : List KV} {news news' : List (Addr × Obj)} (N : News h₀ L h news) (hI : (I, o) ∈ news) (hc : o.cls = .type "range_iterator") (hk : ∀ p ∈ news, p.1 ≠ I → p ∈ news')
    (hH : HdrAt w news x l kvs) : HdrAt w news' x l kvs :=
  by
  obtain ⟨dx, th, n, k, items, h1, h2, h3, h4⟩ := hH
  exact ⟨dx, th, n, k, items, hk _ h1 (ne_objs N h1 hI (by rw [hc]; intro e; cases e)), hk _ h2 (ne_objs N h2 hI (by rw [hc]; intro e; injection e with e; exact absurd e (by decide))), hk _ h3 (ne_objs N h3 hI (by rw [hc]; intro e; injection e with e; exact absurd e (by decide))), h4.offR N hI hc hk⟩
section
variable {w : World} {g h h' : Heap} {L xf lf xF lF Dc Dl Da Dk Dr c1 c2 c3 c4 I I2 J : Addr} {o o1 o2 o3 o4 oI oJ : Obj} {n n' news' : List (Addr × Obj)} {kv1 kv2 kv' : List KV} {left : List Nat} {last row : List LV} {kept : List (Fin 5)}
/-- the ledger without a loop's iterator -/
theorem LB.offR (B : LB w n xf lf xF lF Dc Dl Da Dk Dr kv1 kv2 left last row kept) (N : News g L h n) (hI : (I, o) ∈ n) (hc : o.cls = .type "range_iterator") (hk : ∀ p ∈ n, p.1 ≠ I → p ∈ n') : LB w n' xf lf xF lF Dc Dl Da Dk Dr kv1 kv2 left last row kept :=
  have q : ∀ {l : Addr} {its : Array Value} {k : Nat}, (l, listOf its k) ∈ n → (l, listOf its k) ∈ n' := fun hm => hk _ hm (ne_objs N hm hI (by rw [hc]; intro e; injection e with e; exact absurd e (by decide)))
  ⟨B.few.offR N hI hc hk, B.full.offR N hI hc hk, B.cells.to fun _ _ h => q h, B.left.to (fun _ _ h => q h) fun _ h => h, B.last.to (fun _ _ h => q h) fun _ h => h.offR N hI hc hk, B.kept.to (fun _ _ h => q h) fun _ h => h, B.row.to (fun _ _ h => q h) fun _ h => h.offR N hI hc hk, B.f1, B.f2, B.f3⟩
inductive CallR (g h' : Heap) (L c1 c2 c3 c4 : Addr) (o1 o2 o3 o4 : Obj) (l I2 J : Addr) (oI oJ : Obj) (n news' : List (Addr × Obj)) : Prop
  | mk (n' : List (Addr × Obj)) (hN : News g L h' ((c4, o4) :: (c3, o3) :: (c2, o2) :: (c1, o1) :: n')) (y1 : ∀ p ∈ n', p.1 ≠ c1) (y2 : ∀ p ∈ n', p.1 ≠ c2) (y3 : ∀ p ∈ n', p.1 ≠ c3) (y4 : ∀ p ∈ n', p.1 ≠ c4)
    (hmv : ∀ p ∈ news', ¬ IsC p.2 → p ∈ n') (hk : ∀ p ∈ n, ¬ IsC p.2 → p.1 ≠ l → p ∈ n') (hI : (I2, oI) ∈ n') (hJ : (J, oJ) ∈ n') : CallR g h' L c1 c2 c3 c4 o1 o2 o3 o4 l I2 J oI oJ n news'
inductive CallB (w : World) (g h' : Heap) (L c1 c2 c3 c4 : Addr) (o1 o2 o3 o4 : Obj) (I2 J : Addr) (oI oJ : Obj) (B : List (Addr × Obj) → Prop) : Prop
  | mk (n' : List (Addr × Obj)) (hN : News g L h' ((c4, o4) :: (c3, o3) :: (c2, o2) :: (c1, o1) :: n')) (y1 : ∀ p ∈ n', p.1 ≠ c1) (y2 : ∀ p ∈ n', p.1 ≠ c2) (y3 : ∀ p ∈ n', p.1 ≠ c3) (y4 : ∀ p ∈ n', p.1 ≠ c4)
    (hB : B n') (hI : (I2, oI) ∈ n') (hJ : (J, oJ) ∈ n') : CallB w g h' L c1 c2 c3 c4 o1 o2 o3 o4 I2 J oI oJ B
/-- a call that turns one list over: the ledger ordered anew -/
theorem ren_call {l : Addr} {its : Array Value} {k : Nat} (N : News g L h ((c4, o4) :: (c3, o3) :: (c2, o2) :: (c1, o1) :: n)) (h1 : IsC o1) (h2 : IsC o2) (h3 : IsC o3) (h4 : IsC o4) (hl : (l, listOf its k) ∈ n) (N' : News g L h' news') (hK : ∀ p ∈ (c4, o4) :: (c3, o3) :: (c2, o2) :: (c1, o1) :: n, p.1 ≠ l → p ∈ news')
    (hI : (I2, oI) ∈ n) (hcI : oI.cls = .type "range_iterator") (hJ : (J, oJ) ∈ n) (hcJ : oJ.cls = .type "range_iterator") (s1 : ∀ p ∈ n, p.1 ≠ c1) (s2 : ∀ p ∈ n, p.1 ≠ c2) (s3 : ∀ p ∈ n, p.1 ≠ c3) (s4 : ∀ p ∈ n, p.1 ≠ c4) :
    CallR g h' L c1 c2 c3 c4 o1 o2 o3 o4 l I2 J oI oJ n news' := by
  obtain ⟨n', N2, y1, y2, y3, y4, hmv, _, hadr⟩ := ren_all N' h1 h2 h3 h4 (hK _ (.tail _ (.tail _ (.tail _ (.head _)))) (fun e => s1 _ hl e.symm)) (hK _ (.tail _ (.tail _ (.head _))) (fun e => s2 _ hl e.symm)) (hK _ (.tail _ (.head _)) (fun e => s3 _ hl e.symm)) (hK _ (.head _) (fun e => s4 _ hl e.symm))
  have hIl := it_ne N (subTop4 N _ hI) (subTop4 N _ hl) hcI
  have hJl := it_ne N (subTop4 N _ hJ) (subTop4 N _ hl) hcJ
  exact ⟨n', N2, y1, y2, y3, y4, hmv, fun p hp hn hq => hmv p (hK p (subTop4 N p hp) hq) hn, hadr _ (hK _ (subTop4 N _ hI) hIl) (s1 _ hI) (s2 _ hI) (s3 _ hI) (s4 _ hI), hadr _ (hK _ (subTop4 N _ hJ) hJl) (s1 _ hJ) (s2 _ hJ) (s3 _ hJ) (s4 _ hJ)⟩
theorem LB.few_ren (B : LB w n xf lf xF lF Dc Dl Da Dk Dr kv1 kv2 left last row kept) (N : News g L h ((c4, o4) :: (c3, o3) :: (c2, o2) :: (c1, o1) :: n)) (h1 : IsC o1) (h2 : IsC o2) (h3 : IsC o3) (h4 : IsC o4) (N' : News g L h' news') (hK : ∀ p ∈ (c4, o4) :: (c3, o3) :: (c2, o2) :: (c1, o1) :: n, p.1 ≠ lf → p ∈ news')
    (hH : HdrAt w news' xf lf kv') (hI : (I2, oI) ∈ n) (hcI : oI.cls = .type "range_iterator") (hJ : (J, oJ) ∈ n) (hcJ : oJ.cls = .type "range_iterator") (s1 : ∀ p ∈ n, p.1 ≠ c1) (s2 : ∀ p ∈ n, p.1 ≠ c2) (s3 : ∀ p ∈ n, p.1 ≠ c3) (s4 : ∀ p ∈ n, p.1 ≠ c4) :
    CallB w g h' L c1 c2 c3 c4 o1 o2 o3 o4 I2 J oI oJ fun n' => LB w n' xf lf xF lF Dc Dl Da Dk Dr kv' kv2 left last row kept := by
  obtain ⟨_, _, hl⟩ := B.lfm
  obtain ⟨n', N2, y1, y2, y3, y4, hmv, hk, hI', hJ'⟩ := ren_call N h1 h2 h3 h4 hl N' hK hI hcI hJ hcJ s1 s2 s3 s4
  exact ⟨n', N2, y1, y2, y3, y4, B.setFew (fun p hp => N p (subTop4 N p hp)) hk (hH.movC hmv), hI', hJ'⟩
theorem LB.full_ren (B : LB w n xf lf xF lF Dc Dl Da Dk Dr kv1 kv2 left last row kept) (N : News g L h ((c4, o4) :: (c3, o3) :: (c2, o2) :: (c1, o1) :: n)) (h1 : IsC o1) (h2 : IsC o2) (h3 : IsC o3) (h4 : IsC o4) (N' : News g L h' news') (hK : ∀ p ∈ (c4, o4) :: (c3, o3) :: (c2, o2) :: (c1, o1) :: n, p.1 ≠ lF → p ∈ news')
    (hH : HdrAt w news' xF lF kv') (hI : (I2, oI) ∈ n) (hcI : oI.cls = .type "range_iterator") (hJ : (J, oJ) ∈ n) (hcJ : oJ.cls = .type "range_iterator") (s1 : ∀ p ∈ n, p.1 ≠ c1) (s2 : ∀ p ∈ n, p.1 ≠ c2) (s3 : ∀ p ∈ n, p.1 ≠ c3) (s4 : ∀ p ∈ n, p.1 ≠ c4) :
    CallB w g h' L c1 c2 c3 c4 o1 o2 o3 o4 I2 J oI oJ fun n' => LB w n' xf lf xF lF Dc Dl Da Dk Dr kv1 kv' left last row kept := by
  obtain ⟨_, _, hl⟩ := B.lFm
  obtain ⟨n', N2, y1, y2, y3, y4, hmv, hk, hI', hJ'⟩ := ren_call N h1 h2 h3 h4 hl N' hK hI hcI hJ hcJ s1 s2 s3 s4
  exact ⟨n', N2, y1, y2, y3, y4, B.setFull (fun p hp => N p (subTop4 N p hp)) hk (hH.movC hmv), hI', hJ'⟩
/-- the law's two looks at the tables -/
theorem LB.lines (B : LB w n xf lf xF lF Dc Dl Da Dk Dr kv1 kv2 left last row kept) {A : List (Addr × Obj)} (hs : ∀ p ∈ n, p ∈ A) {mean : ExcName → Option Value} {mg mb : Str → Option Value} {r : Nat} {t : Tok} (h5 : left.length = 5) (hz : last.length ≤ 10) (hb : ∀ x : Fin 5, cnt left x ≤ 100) (hr : r ≤ 100)
    (e1 : kv1 = fewDue left last) (e2 : kv2 = fullDue left r last kept) : CkClaim w mean mg mb 20 223 A [.ref xf, .ref xF, .ref Dl, .int (r : Nat) t, .ref Da, .ref Dk] [] (fun v news' => v = .bool true ∧ A = news') :=
by
  obtain ⟨_, _, hl, hcl⟩ := B.left
  obtain ⟨_, _, ha, hca⟩ := B.last
  obtain ⟨_, _, hk, hck⟩ := B.kept
  exact lines_c (B.few.mono hs) (B.full.mono hs) (hs _ hl) hcl h5 (hs _ ha) (hca.mono hs) (hs _ hk) hck hz hb hr e1 e2
theorem LB.baredL (B : LB w n xf lf xF lF Dc Dl Da Dk Dr kv1 kv2 left last row kept) {A : List (Addr × Obj)} (hs : ∀ p ∈ n, p ∈ A) {mean : ExcName → Option Value} {mg mb : Str → Option Value} {r : Nat} {t : Tok} (h5 : left.length = 5) (hz : last.length ≤ 10) (hb : ∀ x : Fin 5, cnt left x ≤ 100) (hr : r ≤ 100)
    (hk2 : ∀ x ∈ kept, getK x kv2 = some (cnt left x + r)) : CkClaim w mean mg mb 20 230 A [.ref xF, .ref Dl, .int (r : Nat) t, .ref Da, .ref Dk] [] (fun v news' => v = .bool true ∧ A = news') :=
by
  obtain ⟨_, _, hl, hcl⟩ := B.left
  obtain ⟨_, _, ha, hca⟩ := B.last
  obtain ⟨_, _, hk, hck⟩ := B.kept
  exact bared_c (B.full.mono hs) (hs _ hl) hcl h5 (hs _ ha) (hca.mono hs) (hs _ hk) hck hz hb hr hk2
theorem subTop5 {e a b c d : Addr × Obj} (_ : News g L h (e :: a :: b :: c :: d :: n)) : ∀ p ∈ n, p ∈ e :: a :: b :: c :: d :: n := fun _ hp => .tail _ (.tail _ (.tail _ (.tail _ (.tail _ hp))))
theorem mem4 {p : Addr × Obj} (hp : p ∈ (c4, o4) :: (c3, o3) :: (c2, o2) :: (c1, o1) :: n) (ha : p.1 ≠ c4) (hb : p.1 ≠ c3) (hc : p.1 ≠ c2) (hd : p.1 ≠ c1) : p ∈ n := by
  rcases List.mem_cons.mp hp with rfl | hp
  · exact absurd rfl ha
  rcases List.mem_cons.mp hp with rfl | hp
  · exact absurd rfl hb
  rcases List.mem_cons.mp hp with rfl | hp
  · exact absurd rfl hc
  rcases List.mem_cons.mp hp with rfl | hp
  · exact absurd rfl hd
  · exact hp
theorem sub4cut {a b c d : Addr × Obj} : ∀ p ∈ a :: b :: c :: d :: cut J n, p ∈ a :: b :: c :: d :: n := by
  intro p hp
  rcases List.mem_cons.mp hp with rfl | hp
  · exact .head _
  rcases List.mem_cons.mp hp with rfl | hp
  · exact .tail _ (.head _)
  rcases List.mem_cons.mp hp with rfl | hp
  · exact .tail _ (.tail _ (.head _))
  rcases List.mem_cons.mp hp with rfl | hp
  · exact .tail _ (.tail _ (.tail _ (.head _)))
  · exact .tail _ (.tail _ (.tail _ (.tail _ (cut_sub _ hp))))
theorem ne4cut (hJ : (J, oJ) ∈ n) (s1 : ∀ p ∈ n, p.1 ≠ c1) (s2 : ∀ p ∈ n, p.1 ≠ c2) (s3 : ∀ p ∈ n, p.1 ≠ c3) (s4 : ∀ p ∈ n, p.1 ≠ c4) : ∀ p ∈ (c4, o4) :: (c3, o3) :: (c2, o2) :: (c1, o1) :: cut J n, p.1 ≠ J := by
  intro p hp
  rcases List.mem_cons.mp hp with rfl | hp
  · exact fun e => s4 _ hJ e.symm
  rcases List.mem_cons.mp hp with rfl | hp
  · exact fun e => s3 _ hJ e.symm
  rcases List.mem_cons.mp hp with rfl | hp
  · exact fun e => s2 _ hJ e.symm
  rcases List.mem_cons.mp hp with rfl | hp
  · exact fun e => s1 _ hJ e.symm
  · exact cut_ne p hp
/-- a turn's end -/
theorem LawS.cut {S b : Nat} {r : Nat} {t : Tok} {m : Str → Option Value} (B : LB w n xf lf xF lF Dc Dl Da Dk Dr (fewDue left last) (fullDue left r last kept) left last row kept) (N : News g L h ((c4, o4) :: (c3, o3) :: (c2, o2) :: (c1, o1) :: n)) (d1 : o1.data = .cell (some (.ref Dl))) (h2 : IsC o2) (h3 : IsC o3) (h4 : IsC o4)
    (s1 : ∀ p ∈ n, p.1 ≠ c1) (s2 : ∀ p ∈ n, p.1 ≠ c2) (s3 : ∀ p ∈ n, p.1 ≠ c3) (s4 : ∀ p ∈ n, p.1 ≠ c4) (hJ : (J, oJ) ∈ n) (hcJ : oJ.cls = .type "range_iterator") (I : Inv S left r last kept) (hcb : ∀ x, cnt left x ≤ b) (hrb : r ≤ b)
    (mk : m (Str.ofString "kept") = some (.ref Dk)) (ml : m (Str.ofString "last") = some (.ref Da)) (mr : m (Str.ofString "rounds") = some (.int (r : Nat) t)) :
    LawS w S b xf lf xF lF Dc Dr c1 c2 c3 c4 row ((c4, o4) :: (c3, o3) :: (c2, o2) :: (c1, o1) :: Mine.cut J n) m :=
  ⟨Mine.cut J n, o1, o2, o3, o4, left, r, last, kept, Dl, Da, Dk, t, rfl, d1, h2, h3, h4, fun p hp => s1 p (cut_sub p hp), fun p hp => s2 p (cut_sub p hp), fun p hp => s3 p (cut_sub p hp), fun p hp => s4 p (cut_sub p hp),
    B.offR (fun p hp => N p (subTop4 N p hp)) hJ hcJ cut_mem, I, hcb, hrb, mk, ml, mr⟩
theorem cnt_turn {S b : Nat} {r : Nat} {x : Fin 5} (I : Inv S left r last kept) (h : ∀ y, cnt left y ≤ b) (y : Fin 5) : cnt (leftT S left x) y ≤ b + 1 := by
  have hx := h x
  have hy := h y
  rw [cnt_left I]
  split <;> split <;> omega
theorem r_turn {S b r : Nat} {x : Fin 5} (h : r ≤ b) : rT S left r x ≤ b + 1 := by
  unfold rT
  split <;> omega
end
/-- what stands behind a walk is named away: the proof's terms stay small -/
theorem gen_turn {M : Model} {A : Around} {α β : Type} {t : Sem α} {u : Sem β} {P : β → Shared → Prop} {E E' : Value → Shared → Prop} {s : Shared} (h : ∀ R, R = P → wpAny M A t (fun _ s₂ => wpAny M A u R E' s₂) E s) : wpAny M A t (fun _ s₂ => wpAny M A u P E' s₂) E s := h P rfl
theorem gen_q {M : Model} {A : Around} {α : Type} {t : Sem α} {P : α → Shared → Prop} {E : Value → Shared → Prop} {s : Shared} (h : ∀ R, R = P → wpAny M A t R E s) : wpAny M A t P E s := h P rfl
section
variable {w : World} {mean : ExcName → Option Value} {mg mb : Str → Option Value} {D : Nat} {f : Addr} {news : List (Addr × Obj)} {vs : List Value} {kw : List (Str × Value)}
  {dp un : Nat} {gd : Option (List Code)} {cn : Str} {cs : Scope} {a : Addr} {ccd : Value} {cl : List (Str × Addr)} {outer : List Env} {A₀ : Around} {base h₀ : Heap} {L : Addr} {m : Str → Option Value} {s : Shared} {Q E : Value → Shared → Prop}
theorem ck_useN {R : Addr → Addr → List (Addr × Obj) → Prop} (c : CkClaim w mean mg mb D f news vs kw (fun v news' => ∃ x l, v = .ref x ∧ R x l news')) (p : CkAt w mean mg mb D news dp un cs outer A₀ base h₀ L m s)
    (k : ∀ x l h' tk' news', Fr h₀ L h' m → News h₀ L h' news' → R x l news' → Q (.ref x) { s with heap := h', toks := tk' }) :
    wpAny (model P0 w) (ktrTop dp un gd cn cs L a ccd cl outer) (call (.ref f) vs kw) Q E s := ck_use c p.B p.F p.X p.N p.T p.k p.d p.u fun _ h' tk' n' F' N' e => by
  obtain ⟨x, l, rfl, e⟩ := e
  exact k x l h' tk' n' F' N' e
theorem ck_useF {R : Addr → List Value → Nat → List LV → List (Addr × Obj) → Prop} (c : CkClaim w mean mg mb D f news vs kw (fun v news' => ∃ a ys k l, v = .ref a ∧ R a ys k l news')) (p : CkAt w mean mg mb D news dp un cs outer A₀ base h₀ L m s)
    (k : ∀ a ys k' l h' tk' news', Fr h₀ L h' m → News h₀ L h' news' → R a ys k' l news' → Q (.ref a) { s with heap := h', toks := tk' }) :
    wpAny (model P0 w) (ktrTop dp un gd cn cs L a ccd cl outer) (call (.ref f) vs kw) Q E s := ck_use c p.B p.F p.X p.N p.T p.k p.d p.u fun _ h' tk' n' F' N' e => by
  obtain ⟨a, ys, k', l, rfl, e⟩ := e
  exact k a ys k' l h' tk' n' F' N' e
end
end
section
local macro_rules | `(tactic| k_qdec) => `(tactic| decide +kernel)
local macro_rules | `(tactic| k_mem) => `(tactic| first | with_reducible assumption | ((iterate 14 try (first | (with_reducible assumption) | (with_reducible exact List.mem_cons_self ..) | refine List.mem_cons_of_mem _ ?_)); done))
local macro_rules | `(tactic| k_all) => `(tactic| first | with_reducible assumption | exact all_ne0 (by with_reducible assumption) | exact all_ne0' (by with_reducible assumption) | exact all_ne0a (by with_reducible assumption) | exact all_ne0b (by with_reducible assumption) | exact all_ne0c (by with_reducible assumption))
local macro_rules | `(tactic| k_ne) => `(tactic| ((try dsimp only); k_dflt (first | (refine' ne_of_all ?hNa ?hNm; (case hNa => with_reducible assumption); (case hNm => (iterate 12 try (first | exact List.Mem.head _ | refine List.Mem.tail _ ?_)))) | (refine' ne_of_all' ?hNa ?hNm; (case hNa => with_reducible assumption); (case hNm => (iterate 12 try (first | exact List.Mem.head _ | refine List.Mem.tail _ ?_)))))))
local macro_rules | `(tactic| walk_at "execs cons") => `(tactic| (k_fold; walk_at "execs cons"))
local macro_rules | `(tactic| walk_at "exec For Name Call cons nil") => `(tactic| (k_here; (rename Fr _ _ _ _ => lF'); (with_unfolding_all refine' For_turns lF' ?_; k_whole)))
local macro_rules | `(tactic| walk_at "pyIter ref") => `(tactic| (k_here; (with_reducible show wpAny _ _ (pyIter (Value.ref _)) (fun it s₂ => TurnsAt _ _ _ _ _ _ _ _ _ it s₂) _ _); refine Stop.out ?_))
local macro_rules | `(tactic| walk_at $s:str) => if ["eval ListComp", "exec Assign cons ListComp", "CompSrcT", "CompSrc", "CompEnd", "UnrEndW", "call ref", "compareOp Eq ref ref", "call builtin:len", "LenBack", "binaryOp Pow int int", "binaryOp FloorDiv int int", "binaryOp Mod int int", "inplaceOp Add int int", "getItem ref int", "setItem ref int", "subscriptTail Name Name ref int", "subscriptTail Name BinOp ref int", "subscriptTail Name Constant ref int", "compareOp NotIn int ref", "binaryOp Add ref ref", "binaryOp Add int int", "exec If"].contains s.getString then `(tactic| ((fail_if_success (have : NoStop := by assumption)); refine Stop.out ?_)) else Lean.Macro.throwUnsupported
def ScrJ (Dc : Addr) (B : List (Addr × Obj)) (_ : Nat) (n' : List (Addr × Obj)) : Prop := ∃ a b c d t0 t1 t2 t3 k, n' = (Dc, cellsO a b c d t0 t1 t2 t3 k) :: B
def LawK (w : World) (S : Nat) (xf lf xF lF Dc c1 c2 c3 c4 : Addr) (k : Nat) (n' : List (Addr × Obj)) (m : Str → Option Value) : Prop := ∃ Dr row, LawS w S (4 * k) xf lf xF lF Dc Dr c1 c2 c3 c4 row n' m
def LawI (w : World) (S b : Nat) (xf lf xF lF Dc Dr c1 c2 c3 c4 : Addr) (row : List LV) (Io : Addr) (oo : Obj) (j : Nat) (n' : List (Addr × Obj)) (m : Str → Option Value) : Prop := LawS w S (b + j) xf lf xF lF Dc Dr c1 c2 c3 c4 row n' m ∧ (Io, oo) ∈ n'
theorem law_c : PySem.Challenge.rw_yf0024_01.Holds := hd (by
  k_go0
  all_goals try k_fold
  (k_steps; repeat' (first | ((with_reducible refine Stop.into ?_); (with_reducible show wpAny _ _ _ _ _ _); (fail_if_success (with_reducible show wpAny _ _ (pyIter _) _ _ _)); (fail_if_success (with_reducible show wpAny _ _ (eval (Expr.ListComp _ _ _ _) _) _ _ _)); (fail_if_success (with_reducible show wpAny _ _ (exec (Stmt.Assign [Expr.Name (Str.ofString "kept") _] (Expr.ListComp _ _ _ _) _) _) _ _ _)); (fail_if_success (with_reducible show wpAny _ _ (compareOp CmpOp.Eq (Value.ref _) (Value.ref _)) _ _ _)); (fail_if_success (with_reducible show wpAny _ _ (call (Value.ref _) _ _) _ _ _)); (fail_if_success (with_reducible show wpAny _ _ (setItem (Value.ref _) (Value.int (Nat.cast (Fin.val _)) _) _) _ _ _)); (fail_if_success (with_reducible show wpAny _ _ (exec (Stmt.If (Expr.BoolOp BoolOp.And _ _) _ _ _) _) _ _ _)); (fail_if_success (with_reducible show wpAny _ _ (exec (Stmt.If (Expr.Compare _ _ _ _) _ _ _) _) _ _ _)); have hNS : NoStop := noStop; walk1; all_goals clear hNS; k_steps) | fail))
  rename List Int => scr
  refine Stop.into (iter_rangeT (n := scr.length) rfl (by k_asm) (by k_asm) (by assumption) (small_one (by omega) (by omega) (by omega) (by omega)) ((rangeSize_nat _ _).trans (by omega)) fun I hI => ?_)
  refine range_ind (I := I) [Str.ofString "k"] (ScrJ _ _) ?turn ?done scr.length 0 _ _ (Nat.zero_add _) (fun _ _ => rfl) ⟨_, _, _, _, _, _, _, _, _, rfl⟩
  case turn =>
    rintro i n' u h' tk' o tt hi ⟨a, b, c, d, t0, t1, t2, t3, k, rfl⟩ hc' F' N'
    have hIl := cells_ne (o' := cellsO a b c d t0 t1 t2 t3 k) hI
    (k_steps; repeat' (first | ((with_reducible (refine Stop.into ?_; (with_reducible show wpAny _ _ (subscriptTail _ _ (Value.ref _) (Value.int (0 + Nat.cast _) _)) _ _ _); k_dflt (refine' item_scr ?F ?hL ?hi ?hj ?hz ?_; (case F => k_asm); (case hL => with_reducible assumption); (case hi => with_reducible assumption); (case hj => with_reducible assumption); (case hz => omega); intro _ _); (try dsimp only))); k_steps) | ((with_reducible (refine Stop.into ?_; (with_reducible show wpAny _ _ (binaryOp Operator.Mod (Value.int _ _) (Value.int 4 _)) _ _ _); refine mod_four ?_; intro _ _ _ _ _; (try dsimp only))); k_steps) | ((with_reducible (refine Stop.into ?_; (with_reducible show wpAny _ _ (getItem (Value.ref _) (Value.int _ _)) _ _ _); k_dflt (refine' get_cells ?N ?hm ?h0 ?h3 ?_; (case N => k_asm); (case hm => first | (with_reducible assumption) | exact List.Mem.tail _ (List.Mem.head _) | exact List.Mem.head _); (case h0 => omega); (case h3 => omega); intro _ _); (try dsimp only))); k_steps) | ((with_reducible (refine Stop.into ?_; (with_reducible show wpAny _ _ (setItem (Value.ref _) (Value.int _ _) _) _ _ _); k_dflt (refine' set_cells ?F ?N ?hI ?hB ?h0 ?h3 ?_; (case F => k_asm); (case N => k_asm); (case hI => with_reducible assumption); (case hB => exact allC4 ⟨_, by with_reducible assumption⟩ ⟨_, by with_reducible assumption⟩ ⟨_, by with_reducible assumption⟩ ⟨_, by with_reducible assumption⟩); (case h0 => omega); (case h3 => omega); intro _ _ _ _ _ _ _ _ _ _ _); (try dsimp only))); k_steps) | ((with_reducible refine Stop.into ?_); (with_reducible show wpAny _ _ _ _ _ _); (fail_if_success (with_reducible show wpAny _ _ (pyIter _) _ _ _)); (fail_if_success (with_reducible show wpAny _ _ (eval (Expr.ListComp _ _ _ _) _) _ _ _)); (fail_if_success (with_reducible show wpAny _ _ (exec (Stmt.Assign [Expr.Name (Str.ofString "kept") _] (Expr.ListComp _ _ _ _) _) _) _ _ _)); (fail_if_success (with_reducible show wpAny _ _ (compareOp CmpOp.Eq (Value.ref _) (Value.ref _)) _ _ _)); (fail_if_success (with_reducible show wpAny _ _ (call (Value.ref _) _ _) _ _ _)); (fail_if_success (with_reducible show wpAny _ _ (setItem (Value.ref _) (Value.int (Nat.cast (Fin.val _)) _) _) _ _ _)); (fail_if_success (with_reducible show wpAny _ _ (exec (Stmt.If (Expr.BoolOp BoolOp.And _ _) _ _ _) _) _ _ _)); (fail_if_success (with_reducible show wpAny _ _ (exec (Stmt.If (Expr.Compare _ _ _ _) _ _ _) _) _ _ _)); have hNS : NoStop := noStop; walk1; all_goals clear hNS; k_steps) | fail))
    refine Stop.into (turn_end (by k_asm) (by k_asm) (List.mem_cons_self ..) (fun p hp => List.mem_cons_of_mem _ hp) (cells_ne hI) ⟨trivial, ?_, ⟨_, _, _, _, _, _, _, _, _, rfl⟩⟩)
    (intro z hz; (try dsimp only); (repeat' (first | exact ovr_off hz | refine (off_if hz (by simp)).trans ?_)))
  case done =>
    rintro n' u h' tk' ⟨a, b, c, d, t0, t1, t2, t3, k, rfl⟩ F' N'
    (k_steps; repeat' (first | ((with_reducible (refine Stop.into ?_; (with_reducible show wpAny _ _ (subscriptTail (Expr.Name _ _) (Expr.Constant _ _ _) (Value.ref _) (Value.int _ _)) _ _ _); k_dflt (refine' item_cells ?N ?hm ?h0 ?h3 ?_; (case N => k_asm); (case hm => (iterate 14 try (first | (with_reducible assumption) | (with_reducible exact List.mem_cons_self ..) | refine List.mem_cons_of_mem _ ?_))); (case h0 => omega); (case h3 => omega); intro _ _); (try dsimp only))); k_steps) | ((with_reducible (refine Stop.into ?_; (with_reducible show wpAny _ _ (binaryOp Operator.Add (Value.int 1 _) (Value.int (Nat.cast _) _)) _ _ _); refine add_size (by with_reducible assumption) ?_; intro _ _ _ _ _; (try dsimp only))); k_steps) | ((with_reducible (refine Stop.into ?_; (with_reducible show wpAny _ _ (binaryOp Operator.Mod (Value.int _ _) (Value.int 3 _)) _ _ _); refine mod_size ?_; intro _ _ _ _; (try dsimp only))); k_steps) | fail))
    refine Stop.into ?_
    k_dflt (refine' ck_useN (new_c (mg := _) (mb := _) (mean := _)) ?kk ?_)
    case kk => (refine' CkAt.mk ?k1 ?k2 ?k3 ?k4 ?k5 ?kK ?kd ?ku; (case k1 => k_asm); (case k2 => k_asm); (case k3 => k_asm); (case k4 => k_asm); (case k5 => k_asm); (case kK => first | exact rfl | with_reducible assumption); (case kd => first | omega | ktr_room | k_room); (case ku => first | omega | ktr_units | k_units))
    rintro xf lf h1 tk1 news1 F1 N1 ⟨hH1, hS1, hD1⟩
    obtain ⟨n1, N2, a1, a2, a3, a4, hmv1, hsub1, hadr1⟩ := ren_all N1 ⟨_, by with_reducible assumption⟩ ⟨_, by with_reducible assumption⟩ ⟨_, by with_reducible assumption⟩ ⟨_, by with_reducible assumption⟩
      (hS1 _ (.tail _ (.tail _ (.tail _ (.tail _ (.head _)))))) (hS1 _ (.tail _ (.tail _ (.tail _ (.head _))))) (hS1 _ (.tail _ (.tail _ (.head _)))) (hS1 _ (.tail _ (.head _)))
    have hc1 := hmv1 _ (hS1 _ (.head _)) not_cell_list
    have hf1 := hH1.movC hmv1
    have hlc := hD1 _ (.head _)
    clear N1
    try dsimp only
    k_steps
    refine Stop.into ?_
    k_dflt (refine' ck_useN (new_c (mg := _) (mb := _) (mean := _)) ?kk ?_)
    case kk => (refine' CkAt.mk ?k1 ?k2 ?k3 ?k4 ?k5 ?kK ?kd ?ku; (case k1 => k_asm); (case k2 => k_asm); (case k3 => k_asm); (case k4 => k_asm); (case k5 => k_asm); (case kK => first | exact rfl | with_reducible assumption); (case kd => first | omega | ktr_room | k_room); (case ku => first | omega | ktr_units | k_units))
    rintro xF lF h2 tk2 news2 F2 N3 ⟨hH2, hS2, hD2⟩
    obtain ⟨n2, N4, b1, b2, b3, b4, hmv2, hsub2, hadr2⟩ := ren_all N3 ⟨_, by with_reducible assumption⟩ ⟨_, by with_reducible assumption⟩ ⟨_, by with_reducible assumption⟩ ⟨_, by with_reducible assumption⟩
      (hS2 _ (.tail _ (.tail _ (.tail _ (.head _))))) (hS2 _ (.tail _ (.tail _ (.head _)))) (hS2 _ (.tail _ (.head _))) (hS2 _ (.head _))
    have hup2 : ∀ p ∈ n1, ¬ IsC p.2 → p ∈ n2 := fun p hp hn => hmv2 p (hS2 p (.tail _ (.tail _ (.tail _ (.tail _ hp))))) hn
    have hne2 : ∀ p ∈ n1, p.1 ≠ lF := fun p hp => hD2 p (.tail _ (.tail _ (.tail _ (.tail _ hp))))
    have hc2 := hup2 _ hc1 not_cell_list
    have hf2 := hf1.movC hup2
    have hF2 := hH2.movC hmv2
    have hlf : lf ≠ lF := let ⟨_, _, h3⟩ := hf1.lst; hne2 _ h3
    have hlC := hne2 _ hc1
    clear N3
    try dsimp only
    k_steps
    rename _ < _ ∧ _ < _ ∧ _ < _ ∧ _ < _ ∧ _ < _ ∧ AllLt _ n2 => qDl
    rename _ < _ ∧ _ < _ ∧ _ < _ ∧ _ < _ ∧ _ < _ ∧ _ < _ ∧ AllLt _ n2 => qDa
    rename _ < _ ∧ _ < _ ∧ _ < _ ∧ _ < _ ∧ _ < _ ∧ _ < _ ∧ _ < _ ∧ AllLt _ n2 => qDk
    rename News _ _ _ _ => lN
    rename 1 ≤ _ => hS1'
    have hS4 : natOf hS1' ≤ 4 := by have := natOf_eq hS1'; omega
    obtain ⟨n0, N5, z1, z2, z3, z4, hmv0, hsub0, hadr0⟩ := ren_all lN ⟨_, by with_reducible assumption⟩ ⟨_, by with_reducible assumption⟩ ⟨_, by with_reducible assumption⟩ ⟨_, by with_reducible assumption⟩
      (.tail _ (.tail _ (.tail _ (.tail _ (.tail _ (.tail _ (.tail _ (.tail _ (.head _))))))))) (.tail _ (.tail _ (.tail _ (.tail _ (.tail _ (.tail _ (.tail _ (.head _)))))))) (.tail _ (.tail _ (.tail _ (.tail _ (.tail _ (.tail _ (.head _))))))) (.tail _ (.tail _ (.tail _ (.tail _ (.tail _ (.head _))))))
    have hup0 : ∀ p ∈ n2, ¬ IsC p.2 → p ∈ n0 := fun p hp hn => hmv0 p (.tail _ (.tail _ (.tail _ (.tail _ (.tail _ (.tail _ (.tail _ (.tail _ (.tail _ hp))))))))) hn
    have hlt2 : ∀ D, AllLt D n2 → lf ≠ D ∧ lF ≠ D ∧ _ ≠ D := fun D h => ⟨let ⟨_, _, h3⟩ := hf2.lst; Nat.ne_of_lt (allLt_mem h _ h3), let ⟨_, _, h3⟩ := hF2.lst; Nat.ne_of_lt (allLt_mem h _ h3), Nat.ne_of_lt (allLt_mem h _ hc2)⟩
    obtain ⟨p1, p2, p3⟩ := hlt2 _ qDl.2.2.2.2.2
    obtain ⟨p4, p5, p6⟩ := hlt2 _ qDa.2.2.2.2.2.2
    obtain ⟨p7, p8, p9⟩ := hlt2 _ qDk.2.2.2.2.2.2.2
    have hLB := (show LB _ n0 xf lf xF lF _ _ _ _ _ [] [] [0, 0, 0, 0, 0] [] [] [] from ⟨hf2.movC hup0, hF2.movC hup0, ⟨_, _, _, _, _, _, _, _, _, hup0 _ hc2 not_cell_list⟩,
      ⟨[_, _, _, _, _], 0, hmv0 _ (.tail _ (.tail _ (.tail _ (.head _)))) not_cell_list, .cons (n := 0) (.cons (n := 0) (.cons (n := 0) (.cons (n := 0) (.cons (n := 0) .nil))))⟩,
      ⟨[], 0, hmv0 _ (.tail _ (.tail _ (.head _))) not_cell_list, .nil⟩, ⟨[], 0, hmv0 _ (.tail _ (.head _)) not_cell_list, .nil⟩, ⟨[], 0, hmv0 _ (.tail _ (.tail _ (.head _))) not_cell_list, .nil⟩,
      ⟨hlf, hlc.symm, p1, p4, p7, p4⟩, ⟨hlC.symm, p2, p5, p8, p5⟩, ⟨p3.symm, Nat.ne_of_lt qDa.1, Nat.ne_of_lt qDk.2.1, Nat.ne_of_lt qDa.1⟩⟩)
    refine Stop.into (iter_rangeT (n := 3) rfl (by k_asm) N5 (by with_reducible assumption) (by decide) (by rfl) fun I2 hI2 => ?_)
    refine range_indM (I := I2) [Str.ofString "k", Str.ofString "row", Str.ofString "j", Str.ofString "flag", Str.ofString "kept", Str.ofString "rounds", Str.ofString "last"] (LawK _ (natOf hS1') xf lf xF lF _ _ _ _ _) ?turn ?done 3 0 _ _ (Nat.zero_add _) (fun _ _ => rfl)
      ⟨_, _, ⟨n0, _, _, _, _, _, 0, _, _, _, _, _, _, rfl, by with_reducible assumption, ⟨_, by with_reducible assumption⟩, ⟨_, by with_reducible assumption⟩, ⟨_, by with_reducible assumption⟩, z1, z2, z3, z4, hLB, Inv.start, by decide, Nat.zero_le _, by rfl, by rfl, by rfl⟩⟩
    case turn =>
      rintro k n' u h' tk' oI tt hk3 ⟨Dr0, row0, ⟨n, o1, o2, o3, o4, left, r, last, kept, Dl, Da, Dk, t, rfl, d1, ⟨v2, d2⟩, ⟨v3, d3⟩, ⟨v4, d4⟩, y1, y2, y3, y4, hB, hInv, hcb, hrb, mk, ml, mr⟩⟩ hcI F N
      rw [ovr_known3 mk ml mr (by simp) (by simp) (by simp)] at F
      obtain ⟨a, b, c, d, t0, t1, t2, t3, kc, hcell⟩ := hB.cells
      refine gen_turn (fun QK hQK => ?_)
      (k_steps; repeat' (first | ((with_reducible (refine Stop.into ?_; (with_reducible show wpAny _ _ (subscriptTail (Expr.Name _ _) (Expr.Name _ _) (Value.ref _) (Value.int _ _)) _ _ _); k_dflt (refine' item_cells ?N ?hm ?h0 ?h3 ?_; (case N => k_asm); (case hm => (iterate 14 try (first | (with_reducible assumption) | (with_reducible exact List.mem_cons_self ..) | refine List.mem_cons_of_mem _ ?_))); (case h0 => omega); (case h3 => omega); intro _ _); (try dsimp only))); k_steps) | fail))
      refine Stop.into ?_
      k_dflt (refine' ck_useF (flags_c (mg := _) (mb := _) (mean := _)) ?kk ?_)
      case kk => (refine' CkAt.mk ?k1 ?k2 ?k3 ?k4 ?k5 ?kK ?kd ?ku; (case k1 => k_asm); (case k2 => k_asm); (case k3 => k_asm); (case k4 => k_asm); (case k5 => k_asm); (case kK => first | exact rfl | with_reducible assumption); (case kd => first | omega | ktr_room | k_room); (case ku => first | omega | ktr_units | k_units))
      rintro Dr ysr kr row h5 tk5 news5 F5 N6 ⟨hmr, hLr, hlr, hS5, hD5⟩
      obtain ⟨n5, N7, x1, x2, x3, x4, hmv5, hsub5, hadr5⟩ := ren_all N6 ⟨_, d1⟩ ⟨_, d2⟩ ⟨_, d3⟩ ⟨_, d4⟩
        (hS5 _ (.tail _ (.tail _ (.tail _ (.tail _ (.head _)))))) (hS5 _ (.tail _ (.tail _ (.tail _ (.head _))))) (hS5 _ (.tail _ (.tail _ (.head _)))) (hS5 _ (.tail _ (.head _)))
      have hup5 : ∀ p ∈ n, ¬ IsC p.2 → p ∈ n5 := fun p hp hn => hmv5 p (hS5 p (.tail _ (.tail _ (.tail _ (.tail _ (.tail _ hp)))))) hn
      have hIo := hadr5 _ (hS5 _ (.head _)) (Nat.ne_of_gt (hI2 _ (.tail _ (.tail _ (.tail _ (.head _)))))) (Nat.ne_of_gt (hI2 _ (.tail _ (.tail _ (.head _))))) (Nat.ne_of_gt (hI2 _ (.tail _ (.head _)))) (Nat.ne_of_gt (hI2 _ (.head _)))
      have hB5 := hB.newRow (fun p hp => hD5 p (.tail _ (.tail _ (.tail _ (.tail _ (.tail _ hp)))))) (hmv5 _ hmr not_cell_list) hup5 (hLr.movC hmv5)
      have hmr5 := hmv5 _ hmr not_cell_list
      have hsz5 : ysr.toArray.size = 4 := by rw [List.size_toArray, hLr.len, hlr]
      have hysr : ysr.length = 4 := by rw [hLr.len, hlr]
      clear N6 N
      try dsimp only
      (k_steps; repeat' (first | ((with_reducible (refine Stop.into ?_; (with_reducible show wpAny _ _ (call (Value.builtin "len") [Value.ref _]) _ _ _); k_dflt (refine' len_lst ?N ?hl ?hf ?_; (case N => k_asm); (case hl => (iterate 14 try (first | (with_reducible assumption) | (with_reducible exact List.mem_cons_self ..) | refine List.mem_cons_of_mem _ ?_))); (case hf => (simp only [List.size_toArray]; omega))); (try dsimp only))); k_steps) | fail))
      rename News _ _ _ _ => lN7
      refine Stop.into (iter_rangeT (n := 4) rfl (by k_asm) lN7 (by with_reducible assumption) (small_one (by omega) (by omega) (by omega) (by omega)) ((rangeSize_nat _ _).trans (by omega)) fun J hJ => ?_)
      have hIJ : I2 ≠ J := Nat.ne_of_lt (hJ _ (.tail _ (.tail _ (.tail _ (.tail _ hIo)))))
      refine range_indM (I := J) [Str.ofString "j", Str.ofString "flag", Str.ofString "kept", Str.ofString "rounds", Str.ofString "last"] (LawI _ (natOf hS1') (4 * k) xf lf xF lF _ Dr _ _ _ _ row I2 oI) ?turn2 ?done2 4 0 _ _ (Nat.zero_add _) (fun _ _ => rfl)
        ⟨⟨n5, _, _, _, _, _, _, _, _, _, _, _, _, rfl, d1, ⟨_, d2⟩, ⟨_, d3⟩, ⟨_, d4⟩, x1, x2, x3, x4, hB5, hInv, hcb, hrb, by rfl, by rfl, by rfl⟩, .tail _ (.tail _ (.tail _ (.tail _ hIo)))⟩
      case turn2 =>
        rintro j n' u h' tk' oJ tt hj4 ⟨⟨n, o1, o2, o3, o4, left, r, last, kept, Dl, Da, Dk, t, rfl, d1, ⟨v2, d2⟩, ⟨v3, d3⟩, ⟨v4, d4⟩, y1, y2, y3, y4, hB, hInv, hcb, hrb, mk, ml, mr⟩, hIo⟩ hcJ F N
        rw [ovr_known3 mk ml mr (by simp) (by simp) (by simp)] at F
        obtain ⟨n6, N8, w1, w2, w3, w4, hmv6, hsub6, hadr6⟩ := ren_all N ⟨_, d1⟩ ⟨_, d2⟩ ⟨_, d3⟩ ⟨_, d4⟩ (.tail _ (.tail _ (.tail _ (.tail _ (.head _))))) (.tail _ (.tail _ (.tail _ (.head _)))) (.tail _ (.tail _ (.head _))) (.tail _ (.head _))
        have hJ6 := hadr6 _ (.head _) (Nat.ne_of_gt (hJ _ (.tail _ (.tail _ (.tail _ (.head _)))))) (Nat.ne_of_gt (hJ _ (.tail _ (.tail _ (.head _))))) (Nat.ne_of_gt (hJ _ (.tail _ (.head _)))) (Nat.ne_of_gt (hJ _ (.head _)))
        have hIo6 := hadr6 _ (.tail _ hIo) (Nat.ne_of_gt (hI2 _ (.tail _ (.tail _ (.tail _ (.head _)))))) (Nat.ne_of_gt (hI2 _ (.tail _ (.tail _ (.head _))))) (Nat.ne_of_gt (hI2 _ (.tail _ (.head _)))) (Nat.ne_of_gt (hI2 _ (.head _)))
        have hB6 := hB.mono fun p hp hn => hmv6 p (.tail _ (.tail _ (.tail _ (.tail _ (.tail _ hp))))) hn
        clear N hB
        obtain ⟨a, b, c, d, t0, t1, t2, t3, kc, hcell⟩ := hB6.cells
        obtain ⟨ysl, kl, hleft, hcl⟩ := hB6.left
        obtain ⟨ysa, ka, hlast, hca⟩ := hB6.last
        obtain ⟨ysk, kk, hkept, hck⟩ := hB6.kept
        obtain ⟨ysr, kr, hrow, hcr⟩ := hB6.row
        have hrj : j < row.length := by omega
        have hbj : 4 * k + j + 1 ≤ 12 := by omega
        have hbj2 : (4 * k + j) + (4 * k + j) ≤ 800 := by omega
        have hbj3 : 4 * k + j ≤ 900 := by omega
        have hSeq := natOf_eq hS1'
        have hkall := hInv.all
        have hkall2 : kept.length ≤ 4 := by omega
        have hlenk := hck.len
        have hlena := hca.len
        have h5 := hInv.len
        refine gen_turn (fun QJ hQJ => ?_)
        (k_steps; repeat' (first | ((with_reducible (refine Stop.into ?_; (with_reducible show wpAny _ _ (subscriptTail (Expr.Name _ _) (Expr.Constant _ _ _) (Value.ref _) (Value.int _ _)) _ _ _); k_dflt (refine' item_cells ?N ?hm ?h0 ?h3 ?_; (case N => k_asm); (case hm => (iterate 14 try (first | (with_reducible assumption) | (with_reducible exact List.mem_cons_self ..) | refine List.mem_cons_of_mem _ ?_))); (case h0 => omega); (case h3 => omega); intro _ _); (try dsimp only))); k_steps) | ((with_reducible (refine Stop.into ?_; (with_reducible show wpAny _ _ (subscriptTail _ _ (Value.ref _) (Value.int (0 + Nat.cast _) _)) _ _ _); k_dflt (refine' item_row ?N ?hm ?hL ?hj ?hz ?_; (case N => k_asm); (case hm => (iterate 14 try (first | (with_reducible assumption) | (with_reducible exact List.mem_cons_self ..) | refine List.mem_cons_of_mem _ ?_))); (case hL => with_reducible assumption); (case hj => with_reducible assumption); (case hz => omega); intro _ _ _ _ _ _); (try dsimp only))); k_steps) | ((with_reducible (refine Stop.into ?_; (with_reducible show wpAny _ _ (binaryOp Operator.FloorDiv (Value.int _ _) (Value.int _ _)) _ _ _); refine div_pick (by first | with_reducible assumption | decide) (by first | with_reducible assumption | decide) ?_; intro _ _ _; (try dsimp only))); k_steps) | ((with_reducible (refine Stop.into ?_; (with_reducible show wpAny _ _ (binaryOp Operator.Mod (Value.int _ _) (Value.int 12 _)) _ _ _); refine mod_pick ?_; intro _ _ _; (try dsimp only))); k_steps) | ((with_reducible (refine Stop.into ?_; (with_reducible show wpAny _ _ (binaryOp Operator.Pow (Value.int 12 _) (Value.int _ _)) _ _ _); refine pow_tw (by omega) (by omega) ?_; intro _ _ _ _ _; (try dsimp only))); k_steps) | ((with_reducible refine Stop.into ?_); (with_reducible show wpAny _ _ _ _ _ _); (fail_if_success (with_reducible show wpAny _ _ (pyIter _) _ _ _)); (fail_if_success (with_reducible show wpAny _ _ (eval (Expr.ListComp _ _ _ _) _) _ _ _)); (fail_if_success (with_reducible show wpAny _ _ (exec (Stmt.Assign [Expr.Name (Str.ofString "kept") _] (Expr.ListComp _ _ _ _) _) _) _ _ _)); (fail_if_success (with_reducible show wpAny _ _ (compareOp CmpOp.Eq (Value.ref _) (Value.ref _)) _ _ _)); (fail_if_success (with_reducible show wpAny _ _ (call (Value.ref _) _ _) _ _ _)); (fail_if_success (with_reducible show wpAny _ _ (setItem (Value.ref _) (Value.int (Nat.cast (Fin.val _)) _) _) _ _ _)); (fail_if_success (with_reducible show wpAny _ _ (exec (Stmt.If (Expr.BoolOp BoolOp.And _ _) _ _ _) _) _ _ _)); (fail_if_success (with_reducible show wpAny _ _ (exec (Stmt.If (Expr.Compare _ _ _ _) _ _ _) _) _ _ _)); have hNS : NoStop := noStop; walk1; all_goals clear hNS; k_steps) | fail))
        rename Fr _ _ _ _ => lF1
        rename News _ _ _ _ => lN1
        rename Fin 5 => x
        rename Bool => b
        rename Int => pick
        have hszk : ysk.toArray.size ≤ sizeLine := by
          rw [sizeLine_eq, List.size_toArray]; omega
        have hszk2 : ysk.toArray.size = kept.length := by rw [List.size_toArray, hlenk]
        refine Stop.into (join1 lF1 hB6 lN1 hIo6 hJ6 (kept1 (natOf hS1') left kept x pick) ?body ?cont)
        case body =>
          refine gen_q (fun QB hQB => ?_)
          (have hNS : NoStop := noStop; walk1; all_goals clear hNS)
          (k_steps; repeat' (first | ((with_reducible (refine Stop.into ?_; (with_reducible show wpAny _ _ (compareOp CmpOp.NotIn (Value.int _ _) (Value.ref _)) _ _ _); k_dflt (refine' notin_kept ?N ?hm ?hk ?_; (case N => k_asm); (case hm => (iterate 14 try (first | (with_reducible assumption) | (with_reducible exact List.mem_cons_self ..) | refine List.mem_cons_of_mem _ ?_))); (case hk => with_reducible assumption)); (try dsimp only))); k_steps) | ((with_reducible (refine Stop.into ?_; (with_reducible show wpAny _ _ (call (Value.builtin "len") [Value.ref _]) _ _ _); k_dflt (refine' len_lst ?N ?hl ?hf ?_; (case N => k_asm); (case hl => (iterate 14 try (first | (with_reducible assumption) | (with_reducible exact List.mem_cons_self ..) | refine List.mem_cons_of_mem _ ?_))); (case hf => (simp only [List.size_toArray]; omega))); (try dsimp only))); k_steps) | ((with_reducible refine Stop.into ?_); (with_reducible show wpAny _ _ _ _ _ _); (fail_if_success (with_reducible show wpAny _ _ (pyIter _) _ _ _)); (fail_if_success (with_reducible show wpAny _ _ (eval (Expr.ListComp _ _ _ _) _) _ _ _)); (fail_if_success (with_reducible show wpAny _ _ (exec (Stmt.Assign [Expr.Name (Str.ofString "kept") _] (Expr.ListComp _ _ _ _) _) _) _ _ _)); (fail_if_success (with_reducible show wpAny _ _ (compareOp CmpOp.Eq (Value.ref _) (Value.ref _)) _ _ _)); (fail_if_success (with_reducible show wpAny _ _ (call (Value.ref _) _ _) _ _ _)); (fail_if_success (with_reducible show wpAny _ _ (setItem (Value.ref _) (Value.int (Nat.cast (Fin.val _)) _) _) _ _ _)); (fail_if_success (with_reducible show wpAny _ _ (exec (Stmt.If (Expr.BoolOp BoolOp.And _ _) _ _ _) _) _ _ _)); (fail_if_success (with_reducible show wpAny _ _ (exec (Stmt.If (Expr.Compare _ _ _ _) _ _ _) _) _ _ _)); have hNS : NoStop := noStop; walk1; all_goals clear hNS; k_steps) | fail))
          · rename x ∈ kept => hxk
            subst hQB
            refine ⟨rfl, _, _, _, n6, _, Dk, rfl, by k_asm, fun _ _ => rfl, by rfl, by k_asm, ⟨_, d4⟩, ⟨w1, w2, w3, w4⟩, ?_, hIo6, hJ6⟩
            unfold kept1
            rw [if_neg (fun h => h.1 hxk)]
            exact hB6
          · rename ¬ x ∈ kept => hxk
            refine Stop.into (LCt.ListComp_T (F₀ := by k_asm) (by with_unfolding_all rfl) (by decide) (by rfl) (by decide) (by rfl) ?_)
            k_steps
            refine Stop.into (LCt.CompSrcT.ledger (its := ysk.toArray) (by rfl) (by k_asm) (by k_asm) (by (iterate 14 try (first | (with_reducible assumption) | (with_reducible exact List.mem_cons_self ..) | refine List.mem_cons_of_mem _ ?_))) hszk fun g => ?_)
            refine compT_indC (n := ysk.toArray.size) (J := fun i zs => Kepts zs ((kept.take i).filter fun y => cnt left y == 0)) ?turn3 ?fin3 _ _ _ (Nat.zero_add _) .nil
            case turn3 =>
              intro i v zs I oI C oC D m₂ h tk E' hi hP hJ hC hx F N off ne
              obtain ⟨y, ty, rfl, hky⟩ := hck.get (by simpa using hP)
              have hi2 : i < kept.length := by omega
              (k_steps; repeat' (first | ((with_reducible (refine Stop.into ?_; (with_reducible show wpAny _ _ (subscriptTail _ _ (Value.ref _) (Value.int (Nat.cast (Fin.val _)) _)) _ _ _); k_dflt (refine' item_cnt ?N ?hm ?hk ?h5 ?_; (case N => k_asm); (case hm => (iterate 14 try (first | (with_reducible assumption) | (with_reducible exact List.mem_cons_self ..) | refine List.mem_cons_of_mem _ ?_))); (case hk => with_reducible assumption); (case h5 => with_reducible assumption); intro _); (try dsimp only))); k_steps) | fail))
              · rename (_ : Int) = 0 => hq
                have hq2 : (cnt left y == 0) = true := by rw [beq_iff_eq]; omega
                refine Stop.into (LCg.CompEnd.intro (by k_asm) (by k_asm) _ (fun p hp => hp) off (.inr ⟨_, by k_mem, rfl, _, rfl⟩) ⟨rfl, ?_⟩)
                rw [List.take_add_one, hky, List.filter_append]
                refine Kepts.append ?_ hJ
                simp only [Option.toList_some, List.filter_cons, hq2, if_true, List.filter_nil]
                exact .cons .nil
              · rename ¬ (_ : Int) = 0 => hq
                have hq2 : (cnt left y == 0) = false := by rw [beq_eq_false_iff_ne]; omega
                refine Stop.into (LCg.CompEnd.intro (by k_asm) (by k_asm) _ (fun p hp => hp) off (.inr ⟨_, by k_mem, rfl, _, rfl⟩) ⟨rfl, ?_⟩)
                rw [List.take_add_one, hky, List.filter_append]
                simp only [Option.toList_some, List.filter_cons, hq2, Bool.false_eq_true, if_false, List.filter_nil, List.append_nil]
                exact hJ
            case fin3 =>
              intro zs hJ
              intro D h tk F N o1
              rw [hszk2, List.take_length] at hJ
              have hJ' : Kepts zs (freeOf left kept) := hJ
              have hfl := hJ'.len
              have hflb : (freeOf left kept).length ≤ 4 := Nat.le_trans (List.length_filter_le _ _) hkall2
              have hzl4 : zs.length ≤ 4 := by rw [hfl]; exact hflb
              have hlt : natOf hS1' < kept.length := by omega
              have hfp := hInv.free hlt
              have hzl : 0 < zs.length := by omega
              obtain ⟨hm0, hm1⟩ := fmod_pos (a := pick) hzl
              have hm2 : pick.fmod (zs.length : Nat) < (freeOf left kept).length := by omega
              have hv : (freeOf left kept).getD (pick.fmod (zs.length : Nat)).toNat 0 = victim left kept pick := by
                unfold victim
                rw [hfl]
              have o2 := off1_mem o1
              change News _ _ h ((D, listOf zs.toArray zs.length) :: _) at N
              have hzs : zs.toArray.size = zs.length := List.size_toArray
              have hzl2 : 0 < zs.toArray.size := by omega
              have hn0 : 0 ≤ pick.fmod (zs.toArray.size : Nat) := by rw [hzs]; exact hm0
              have hn2 : pick.fmod (zs.toArray.size : Nat) < (freeOf left kept).length := by rw [hzs]; exact hm2
              have hv2 : (freeOf left kept).getD (pick.fmod (zs.toArray.size : Nat)).toNat 0 = victim left kept pick := by rw [hzs]; exact hv
              k_steps
              refine Stop.into (LCt.Assign_ListComp_T (F₀ := by k_asm) (by rfl) (by with_unfolding_all rfl) (by with_unfolding_all rfl) (by decide) (by rfl) (by decide) (by rfl) (by rfl) (by rfl) ?_)
              k_steps
              refine Stop.into (LCt.CompSrcT.ledger (its := ysk.toArray) (by rfl) (by k_asm) (by k_asm) (by (iterate 14 try (first | (with_reducible assumption) | (with_reducible exact List.mem_cons_self ..) | refine List.mem_cons_of_mem _ ?_))) hszk fun g => ?_)
              refine compT_indC (n := ysk.toArray.size) (J := fun i zs => Kepts zs ((kept.take i).filter fun y => !(y == victim left kept pick))) ?turn4 ?fin4 _ _ _ (Nat.zero_add _) .nil
              case turn4 =>
                intro i v zs2 I oI C oC D m₂ h tk E' hi hP hJ hC hx F N off ne
                obtain ⟨y, ty, rfl, hky⟩ := hck.get (by simpa using hP)
                have hi2 : i < kept.length := by omega
                (k_steps; repeat' (first | ((with_reducible (refine Stop.into ?_; (with_reducible show wpAny _ _ (subscriptTail (Expr.Name _ _) (Expr.BinOp _ _ _ _) (Value.ref _) (Value.int _ _)) _ _ _); k_dflt (refine' item_kept ?N ?hm ?hK ?h0 ?h1 ?hz ?_; (case N => k_asm); (case hm => (iterate 14 try (first | (with_reducible assumption) | (with_reducible exact List.mem_cons_self ..) | refine List.mem_cons_of_mem _ ?_))); (case hK => with_reducible assumption); (case h0 => with_reducible assumption); (case h1 => with_reducible assumption); (case hz => omega); intro _); (try dsimp only))); k_steps) | ((with_reducible (refine Stop.into ?_; (with_reducible show wpAny _ _ (binaryOp Operator.Mod (Value.int _ _) (Value.int (Nat.cast _) _)) _ _ _); refine mod_len (by with_reducible assumption) ?_; intro _ _; (try dsimp only))); k_steps) | ((with_reducible (refine Stop.into ?_; (with_reducible show wpAny _ _ (call (Value.builtin "len") [Value.ref _]) _ _ _); k_dflt (refine' len_lst ?N ?hl ?hf ?_; (case N => k_asm); (case hl => (iterate 14 try (first | (with_reducible assumption) | (with_reducible exact List.mem_cons_self ..) | refine List.mem_cons_of_mem _ ?_))); (case hf => (simp only [List.size_toArray]; omega))); (try dsimp only))); k_steps) | fail))
                all_goals rw [hv2] at *
                · rename ¬ ((Fin.val y : Nat) : Int) = _ => hq
                  have hq2 : (!(y == victim left kept pick)) = true := by
                    have : y ≠ victim left kept pick := fun e => hq (by rw [e])
                    simp [this]
                  refine Stop.into (LCg.CompEnd.intro (by k_asm) (by k_asm) _ (fun p hp => hp) off (.inr ⟨_, by k_mem, rfl, _, rfl⟩) ⟨rfl, ?_⟩)
                  rw [List.take_add_one, hky, List.filter_append]
                  refine Kepts.append ?_ hJ
                  simp only [Option.toList_some, List.filter_cons, hq2, if_true, List.filter_nil]
                  exact .cons .nil
                · rename ((Fin.val y : Nat) : Int) = _ => hq
                  have hq2 : (!(y == victim left kept pick)) = false := by
                    have : y = victim left kept pick := Fin.ext (by omega)
                    simp [this]
                  refine Stop.into (LCg.CompEnd.intro (by k_asm) (by k_asm) _ (fun p hp => hp) off (.inr ⟨_, by k_mem, rfl, _, rfl⟩) ⟨rfl, ?_⟩)
                  rw [List.take_add_one, hky, List.filter_append]
                  simp only [Option.toList_some, List.filter_cons, hq2, Bool.false_eq_true, if_false, List.filter_nil, List.append_nil]
                  exact hJ
              case fin4 =>
                intro zs2 hJ
                intro D2 h tk F N o3
                rw [hszk2, List.take_length] at hJ
                have o4 := off1_mem o3
                k_steps
                rename News _ _ _ _ => lN4
                obtain ⟨n9, N9, g1, g2, g3, g4, hmv9, _, hadr9⟩ := ren_all lN4 ⟨_, d1⟩ ⟨_, by with_reducible assumption⟩ ⟨_, by with_reducible assumption⟩ ⟨_, by with_reducible assumption⟩ (.tail _ (.tail _ (.tail _ (.tail _ (.tail _ (.head _)))))) (.tail _ (.tail _ (.tail _ (.tail _ (.head _))))) (.tail _ (.tail _ (.tail _ (.head _)))) (.tail _ (.tail _ (.head _)))
                have hup9 : ∀ p ∈ n6, ¬ IsC p.2 → p ∈ n9 := fun p hp hn => hmv9 p (.tail _ (.tail _ (.tail _ (.tail _ (.tail _ (.tail _ hp)))))) hn
                have hIo9 := hadr9 _ (.tail _ (.tail _ (.tail _ (.tail _ (.tail _ (.tail _ hIo6)))))) (w1 _ hIo6) (w2 _ hIo6) (w3 _ hIo6) (w4 _ hIo6)
                have hJ9 := hadr9 _ (.tail _ (.tail _ (.tail _ (.tail _ (.tail _ (.tail _ hJ6)))))) (w1 _ hJ6) (w2 _ hJ6) (w3 _ hJ6) (w4 _ hJ6)
                subst hQB
                refine ⟨rfl, _, _, _, n9, _, D2, rfl, by k_asm, ?_, by rfl, N9, ⟨_, by with_reducible assumption⟩, ⟨g1, g2, g3, g4⟩, ?_, hIo9, hJ9⟩
                · intro z hz
                  exact if_neg hz
                · unfold kept1
                  rw [if_pos ⟨hxk, hlt⟩]
                  exact hB6.newKept (fun p hp => o4 p (.tail _ (.tail _ (.tail _ (.tail _ (.tail _ hp)))))) (hmv9 _ (.head _) not_cell_list) hup9 hJ
          · rename ¬ x ∈ kept => hxk
            subst hQB
            refine ⟨rfl, _, _, _, n6, _, Dk, rfl, by k_asm, fun _ _ => rfl, by rfl, by k_asm, ⟨_, d4⟩, ⟨w1, w2, w3, w4⟩, ?_, hIo6, hJ6⟩
            unfold kept1
            rw [if_neg (fun h => by have := h.2; omega)]
            exact hB6
        case cont =>
          rintro h7 tk7 n7 o4' Dk' F7 N7 ⟨v4', d4'⟩ u1 u2 u3 u4 hB7 hI7 hJ7
          clear lN1 lF1
          dsimp only
          obtain ⟨ysk, kk, hkept, hck⟩ := hB7.kept
          obtain ⟨ysl, kl, hleft, hcl⟩ := hB7.left
          obtain ⟨ysa, ka, hlast, hca⟩ := hB7.last
          obtain ⟨Q1, hQ1, _⟩ := hInv.k1 x pick
          have hk14 : (kept1 (natOf hS1') left kept x pick).length ≤ 4 := by
            rw [hQ1]; exact Nat.le_trans (List.length_filter_le _ _) hkall2
          have hlenk := hck.len
          have hszk2 : ysk.toArray.size = (kept1 (natOf hS1') left kept x pick).length := by rw [List.size_toArray, hlenk]
          have hszk : ysk.toArray.size ≤ sizeLine := by
            rw [sizeLine_eq, hszk2]; omega
          k_steps
          refine Stop.into (LCt.ListComp_T (F₀ := by k_asm) (by with_unfolding_all rfl) (by decide) (by rfl) (by decide) (by rfl) ?_)
          k_steps
          refine Stop.into (LCt.CompSrcT.ledger (its := ysk.toArray) (by rfl) (by k_asm) (by k_asm) (by (iterate 14 try (first | (with_reducible assumption) | (with_reducible exact List.mem_cons_self ..) | refine List.mem_cons_of_mem _ ?_))) hszk fun g => ?_)
          refine compT_indC (n := ysk.toArray.size) (J := fun i zs => Kepts zs (((kept1 (natOf hS1') left kept x pick).take i).filter fun y => !(y == x))) ?turn5 ?fin5 _ _ _ (Nat.zero_add _) .nil
          case turn5 =>
            intro i v zs2 I oI C oC D m₂ h tk E' hi hP hJ hC hx F N off ne
            obtain ⟨y, ty, rfl, hky⟩ := hck.get (by simpa using hP)
            have hi2 : i < ysk.toArray.size := hi
            k_steps
            · rename ¬ ((Fin.val y : Nat) : Int) = _ => hq
              have hq2 : (!(y == x)) = true := by
                have : y ≠ x := fun e => hq (by rw [e])
                simp [this]
              refine Stop.into (LCg.CompEnd.intro (by k_asm) (by k_asm) _ (fun p hp => hp) off (.inr ⟨_, by k_mem, rfl, _, rfl⟩) ⟨rfl, ?_⟩)
              rw [List.take_add_one, hky, List.filter_append]
              refine Kepts.append ?_ hJ
              simp only [Option.toList_some, List.filter_cons, hq2, if_true, List.filter_nil]
              exact .cons .nil
            · rename ((Fin.val y : Nat) : Int) = _ => hq
              have hq2 : (!(y == x)) = false := by
                have : y = x := Fin.ext (by omega)
                simp [this]
              refine Stop.into (LCg.CompEnd.intro (by k_asm) (by k_asm) _ (fun p hp => hp) off (.inr ⟨_, by k_mem, rfl, _, rfl⟩) ⟨rfl, ?_⟩)
              rw [List.take_add_one, hky, List.filter_append]
              simp only [Option.toList_some, List.filter_cons, hq2, Bool.false_eq_true, if_false, List.filter_nil, List.append_nil]
              exact hJ
          case fin5 =>
            intro zs hJ
            intro D h tk F N o3
            rw [hszk2, List.take_length] at hJ
            have hzl4 : zs.length ≤ 4 := by rw [hJ.len]; exact Nat.le_trans (List.length_filter_le _ _) hk14
            (k_steps; repeat' (first | ((with_reducible (refine Stop.into ?_; (with_reducible show wpAny _ _ (binaryOp Operator.Add (Value.ref _) (Value.ref _)) _ _ _); k_dflt (refine' cat_lists ?F ?N ?ha ?hb ?hz ?_; (case F => k_asm); (case N => k_asm); (case ha => (iterate 14 try (first | (with_reducible assumption) | (with_reducible exact List.mem_cons_self ..) | refine List.mem_cons_of_mem _ ?_))); (case hb => (iterate 14 try (first | (with_reducible assumption) | (with_reducible exact List.mem_cons_self ..) | refine List.mem_cons_of_mem _ ?_))); (case hz => ((try simp only [List.length_cons, List.length_nil]); omega)); intro _ _ _ _ _); (try dsimp only))); k_steps) | ((with_reducible (refine Stop.into ?_; (with_reducible show wpAny _ _ (inplaceOp Operator.Add (Value.int (Nat.cast _) _) (Value.int 1 _)) _ _ _); refine iadd_one ?_; intro _ _; (try dsimp only))); k_steps) | ((with_reducible (refine Stop.into ?_; (with_reducible show wpAny _ _ (getItem (Value.ref _) (Value.int (Nat.cast (Fin.val _)) _)) _ _ _); k_dflt (refine' get_cnt ?N ?hm ?hk ?h5 ?_; (case N => k_asm); (case hm => (iterate 14 try (first | (with_reducible assumption) | (with_reducible exact List.mem_cons_self ..) | refine List.mem_cons_of_mem _ ?_))); (case hk => with_reducible assumption); (case h5 => with_reducible assumption); intro _); (try dsimp only))); k_steps) | fail))
            rename ∀ (p : Addr × Obj), p ∈ _ → p.1 < _ => hDf
            rename News _ _ _ _ => lNA
            have hxl : ((x.val : Nat) : Int) < ysl.length := by have := hcl.len; have := x.isLt; omega
            have hyl4 : ysl.length ≤ 1000 := by have := hcl.len; omega
            have hm9 := headMem lNA
            have hB8 := hB7.newKept (fun p hp => Nat.ne_of_lt (hDf p (.tail _ (.tail _ (.tail _ (.tail _ (.tail _ (.tail _ hp)))))))) hm9 (fun p hp _ => .tail _ (.tail _ (.tail _ (.tail _ (.tail _ (.tail _ (.tail _ hp))))))) (Kepts.append (lb := [x]) (.cons (x := x) .nil) hJ)
            refine Stop.into (set_M (by k_asm) lNA (by (iterate 14 try (first | (with_reducible assumption) | (with_reducible exact List.mem_cons_self ..) | refine List.mem_cons_of_mem _ ?_))) (Int.natCast_nonneg _) hxl hyl4 fun h8 news8 F8 N8 hm8 hk8 => ?_)
            obtain ⟨n10, N10, e1, e2, e3, e4, hmv10, _, hadr10⟩ := ren_all N8 ⟨_, d1⟩ ⟨_, by with_reducible assumption⟩ ⟨_, by with_reducible assumption⟩ ⟨_, d4'⟩
              (hk8 _ (.tail _ (.tail _ (.tail _ (.tail _ (.tail _ (.tail _ (.head _))))))) (fun e => u1 _ hleft e.symm)) (hk8 _ (.tail _ (.tail _ (.tail _ (.tail _ (.tail _ (.head _)))))) (fun e => u2 _ hleft e.symm)) (hk8 _ (.tail _ (.tail _ (.tail _ (.tail _ (.head _))))) (fun e => u3 _ hleft e.symm)) (hk8 _ (.tail _ (.tail _ (.tail _ (.head _)))) (fun e => u4 _ hleft e.symm))
            have hup10 : ∀ p ∈ n7, p.1 ≠ Dl → p ∈ n10 := fun p hp hq => hadr10 p (hk8 p (.tail _ (.tail _ (.tail _ (.tail _ (.tail _ (.tail _ (.tail _ hp))))))) hq) (u1 p hp) (u2 p hp) (u3 p hp) (u4 p hp)
            rw [Int.toNat_natCast] at hm8
            have hB10 := hB8.setLeft (left' := inc left x) lNA (fun p hp hn hq => hmv10 p (hk8 p hp hq) hn) (hmv10 _ hm8 not_cell_list) (hcl.set x.val)
            have hIl := it_ne lNA (.tail _ (.tail _ (.tail _ (.tail _ (.tail _ (.tail _ (.tail _ hI7))))))) (.tail _ (.tail _ (.tail _ (.tail _ (.tail _ (.tail _ (.tail _ hleft))))))) hcI
            have hJl := it_ne lNA (.tail _ (.tail _ (.tail _ (.tail _ (.tail _ (.tail _ (.tail _ hJ7))))))) (.tail _ (.tail _ (.tail _ (.tail _ (.tail _ (.tail _ (.tail _ hleft))))))) hcJ
            have hI10 := hup10 _ hI7 hIl
            have hJ10 := hup10 _ hJ7 hJl
            clear N8 lNA
            try dsimp only
            k_steps
            rename Fr _ _ _ _ => lF2
            rename News _ _ _ _ => lN2
            obtain ⟨ysl2, kl2, hleft2, hcl2⟩ := hB10.left
            have hlen5 : (inc left x).length = 5 := by rw [len_inc]; exact h5
            have hly2 : ysl2.length = 5 := by rw [hcl2.len]; exact hlen5
            have hsl2 : ysl2.toArray.size = (inc left x).length := by rw [List.size_toArray, hcl2.len]
            have hsz2 : ysl2.toArray.size ≤ sizeLine := by rw [sizeLine_eq, hsl2, hlen5]; decide
            refine Stop.into (join2 lF2 hB10 lN2 hI10 hJ10 (leftT (natOf hS1') left x) (rT (natOf hS1') left r x) ?body2 ?cont2)
            case body2 =>
              refine gen_q (fun QB hQB => ?_)
              (have hNS : NoStop := noStop; walk1; all_goals clear hNS)
              k_steps
              refine Stop.into (LCt.ListComp_T (F₀ := by k_asm) (by with_unfolding_all rfl) (by decide) (by rfl) (by decide) (by rfl) ?_)
              k_steps
              refine Stop.into (LCt.CompSrcT.ledger (its := ysl2.toArray) (by rfl) (by k_asm) (by k_asm) (by (iterate 14 try (first | (with_reducible assumption) | (with_reducible exact List.mem_cons_self ..) | refine List.mem_cons_of_mem _ ?_))) hsz2 fun g => ?_)
              refine compT_indC (n := ysl2.toArray.size) (J := fun i zs => Cnts zs (((inc left x).take i).filter fun c => decide (0 < c))) ?turn6 ?fin6 _ _ _ (Nat.zero_add _) .nil
              case turn6 =>
                intro i v zs2 I oI C oC D m₂ h tk E' hi hP hJ hC hx F N off ne
                obtain ⟨q0, tc, rfl, hky⟩ := hcl2.get (by simpa using hP)
                k_steps
                · rename (0 : Int) < _ => hq
                  have hq2 : decide (0 < q0) = true := decide_eq_true (by omega)
                  refine Stop.into (LCg.CompEnd.intro (by k_asm) (by k_asm) _ (fun p hp => hp) off (.inr ⟨_, by k_mem, rfl, _, rfl⟩) ⟨rfl, ?_⟩)
                  rw [List.take_add_one, hky, List.filter_append]
                  refine Cnts.append ?_ hJ
                  simp only [Option.toList_some, List.filter_cons, hq2, if_true, List.filter_nil]
                  exact .cons .nil
                · rename ¬ (0 : Int) < _ => hq
                  have hq2 : decide (0 < q0) = false := decide_eq_false (by omega)
                  refine Stop.into (LCg.CompEnd.intro (by k_asm) (by k_asm) _ (fun p hp => hp) off (.inr ⟨_, by k_mem, rfl, _, rfl⟩) ⟨rfl, ?_⟩)
                  rw [List.take_add_one, hky, List.filter_append]
                  simp only [Option.toList_some, List.filter_cons, hq2, Bool.false_eq_true, if_false, List.filter_nil, List.append_nil]
                  exact hJ
              case fin6 =>
                intro zs hJ
                intro D h tk F N o3
                rw [hsl2, List.take_length] at hJ
                have hzp : zs.length = poss (inc left x) := by rw [hJ.len]; exact List.countP_eq_length_filter.symm
                have hzl5 : zs.length ≤ 5 := by rw [hJ.len]; exact Nat.le_trans (List.length_filter_le _ _) (Nat.le_of_eq hlen5)
                have o4 := off1_mem o3
                have hzs5 : zs.toArray.size = zs.length := List.size_toArray
                (k_steps; repeat' (first | ((with_reducible (refine Stop.into ?_; (with_reducible show wpAny _ _ (call (Value.builtin "len") [Value.ref _]) _ _ _); k_dflt (refine' len_lst ?N ?hl ?hf ?_; (case N => k_asm); (case hl => (iterate 14 try (first | (with_reducible assumption) | (with_reducible exact List.mem_cons_self ..) | refine List.mem_cons_of_mem _ ?_))); (case hf => (simp only [List.size_toArray]; omega))); (try dsimp only))); k_steps) | ((with_reducible refine Stop.into ?_); (with_reducible show wpAny _ _ _ _ _ _); (fail_if_success (with_reducible show wpAny _ _ (pyIter _) _ _ _)); (fail_if_success (with_reducible show wpAny _ _ (eval (Expr.ListComp _ _ _ _) _) _ _ _)); (fail_if_success (with_reducible show wpAny _ _ (exec (Stmt.Assign [Expr.Name (Str.ofString "kept") _] (Expr.ListComp _ _ _ _) _) _) _ _ _)); (fail_if_success (with_reducible show wpAny _ _ (compareOp CmpOp.Eq (Value.ref _) (Value.ref _)) _ _ _)); (fail_if_success (with_reducible show wpAny _ _ (call (Value.ref _) _ _) _ _ _)); (fail_if_success (with_reducible show wpAny _ _ (setItem (Value.ref _) (Value.int (Nat.cast (Fin.val _)) _) _) _ _ _)); (fail_if_success (with_reducible show wpAny _ _ (exec (Stmt.If (Expr.BoolOp BoolOp.And _ _) _ _ _) _) _ _ _)); (fail_if_success (with_reducible show wpAny _ _ (exec (Stmt.If (Expr.Compare _ _ _ _) _ _ _) _) _ _ _)); have hNS : NoStop := noStop; walk1; all_goals clear hNS; k_steps) | fail))
                · have hrd : natOf hS1' < poss (inc left x) := by omega
                  refine Stop.into (LCg.ListComp_U (F₀ := by k_asm) (by with_unfolding_all rfl) (by decide) (by rfl) (by decide) (by rfl) ?_)
                  k_steps
                  refine Stop.into (LCg.CompSrc.ledger (its := ysl2.toArray) (by rfl) (by k_asm) (by k_asm) (by (iterate 14 try (first | (with_reducible assumption) | (with_reducible exact List.mem_cons_self ..) | refine List.mem_cons_of_mem _ ?_))) hsz2 fun g => ?_)
                  refine compU_indC (n := ysl2.toArray.size) (J := fun i zs => Cnts zs (((inc left x).take i).map fun c => c - 1)) ?turn7 ?fin7 _ _ _ (Nat.zero_add _) .nil
                  case turn7 =>
                    intro i v zs2 I oI C oC D m₂ h tk E' hi hP hJ hC hx F N off ne
                    obtain ⟨q0, tc, rfl, hky⟩ := hcl2.get (by simpa using hP)
                    k_steps
                    refine Stop.into (LCg.CompEnd.intro (by k_asm) (by k_asm) _ (fun p hp => hp) off (.inr ⟨_, by k_mem, rfl, _, rfl⟩) ⟨rfl, ?_⟩)
                    rw [List.take_add_one, hky, List.map_append]
                    refine Cnts.append ?_ hJ
                    show Cnts [_] [q0 - 1]
                    exact cnt_one (by first | omega | (split <;> omega))
                  case fin7 =>
                    intro zs2 hJ
                    intro D2 h tk F N o5
                    rw [hsl2, List.take_length] at hJ
                    have o6 := off1_mem o5
                    (k_steps; repeat' (first | ((with_reducible (refine Stop.into ?_; (with_reducible show wpAny _ _ (inplaceOp Operator.Add (Value.int (Nat.cast _) _) (Value.int 1 _)) _ _ _); refine iadd_one ?_; intro _ _; (try dsimp only))); k_steps) | fail))
                    have hrT : rT (natOf hS1') left r x = r + 1 := by unfold rT; rw [if_pos hrd]
                    have hlT : leftT (natOf hS1') left x = (inc left x).map fun c => c - 1 := by unfold leftT; rw [if_pos hrd]
                    rename News _ _ _ _ => lN5
                    subst hQB
                    rw [hrT, hlT]
                    obtain ⟨n11, N11, g1, g2, g3, g4, hmv11, _, hadr11⟩ := ren_all lN5 ⟨_, by with_reducible assumption⟩ ⟨_, by with_reducible assumption⟩ ⟨_, by with_reducible assumption⟩ ⟨_, d4'⟩ (.tail _ (.tail _ (.tail _ (.tail _ (.tail _ (.head _)))))) (.tail _ (.tail _ (.tail _ (.tail _ (.head _))))) (.tail _ (.tail _ (.tail _ (.head _)))) (.tail _ (.tail _ (.head _)))
                    have hup11 : ∀ p ∈ n10, ¬ IsC p.2 → p ∈ n11 := fun p hp hn => hmv11 p (.tail _ (.tail _ (.tail _ (.tail _ (.tail _ (.tail _ hp)))))) hn
                    have hI11 := hadr11 _ (.tail _ (.tail _ (.tail _ (.tail _ (.tail _ (.tail _ hI10)))))) (e1 _ hI10) (e2 _ hI10) (e3 _ hI10) (e4 _ hI10)
                    have hJ11 := hadr11 _ (.tail _ (.tail _ (.tail _ (.tail _ (.tail _ (.tail _ hJ10)))))) (e1 _ hJ10) (e2 _ hJ10) (e3 _ hJ10) (e4 _ hJ10)
                    have hm11 := hmv11 _ (headMem lN5) not_cell_list
                    have hB11 := hB10.newLeft (fun p hp => o6 p (.tail _ (.tail _ (.tail _ (.tail _ (.tail _ hp)))))) hm11 hup11 hJ
                    refine ⟨rfl, _, _, _, n11, _, D2, _, rfl, by k_asm, fun z hz => if_neg hz, by rfl, N11, by with_reducible assumption, ⟨g1, g2, g3, g4⟩, hB11, hI11, hJ11⟩
                · have hrd : ¬ natOf hS1' < poss (inc left x) := by omega
                  have hrT : rT (natOf hS1') left r x = r := by unfold rT; rw [if_neg hrd]
                  have hlT : leftT (natOf hS1') left x = inc left x := by unfold leftT; rw [if_neg hrd]
                  rename News _ _ _ _ => lN5
                  subst hQB
                  rw [hrT, hlT]
                  refine ⟨rfl, _, _, _, n10, _, Dl, _, rfl, by k_asm, fun _ _ => rfl, by rfl, fun p hp => lN5 p (.tail _ hp), d1, ⟨e1, e2, e3, e4⟩, hB10, hI10, hJ10⟩
            case cont2 =>
              rintro h9 tk9 n9 o1' Dl' t9 F9 N9 d1' y1' y2' y3' y4' hB9 hI9 hJ9
              clear lN2 lF2
              dsimp only
              obtain ⟨ysa, ka, hlast, hca⟩ := hB9.last
              have hla5 := hInv.last_len
              have hlena := hca.len
              have hsza : ysa.toArray.size ≤ sizeLine := by rw [sizeLine_eq, List.size_toArray]; omega
              k_steps
              have hsza2 : ysa.toArray.size = last.length := by rw [List.size_toArray, hlena]
              refine Stop.into (LCt.ListComp_T (F₀ := by k_asm) (by with_unfolding_all rfl) (by decide) (by rfl) (by decide) (by rfl) ?_)
              k_steps
              refine Stop.into (LCt.CompSrcT.ledger (its := ysa.toArray) (by rfl) (by k_asm) (by k_asm) (by (iterate 14 try (first | (with_reducible assumption) | (with_reducible exact List.mem_cons_self ..) | refine List.mem_cons_of_mem _ ?_))) hsza fun g => ?_)
              refine compT_indC (n := ysa.toArray.size) (J := fun i zs => Lasts n9 zs ((last.take i).filter fun p => !(p.1 == x))) ?turn8 ?fin8 _ _ _ (Nat.zero_add _) .nil
              case turn8 =>
                intro i v zs2 I oI C oC D m₂ h tk E' hi hP hJ hC hx F N off ne
                obtain ⟨ap, y, uy, t1, t2, rfl, hky, hmp⟩ := hca.get (by simpa using hP)
                (k_steps; repeat' (first | ((with_reducible (refine Stop.into ?_; (with_reducible show wpAny _ _ (subscriptTail _ _ (Value.ref _) (Value.int 0 _)) _ _ _); k_dflt (refine' item_fst ?N ?hm ?_; (case N => k_asm); (case hm => (iterate 14 try (first | (with_reducible assumption) | (with_reducible exact List.mem_cons_self ..) | refine List.mem_cons_of_mem _ ?_)))); (try dsimp only))); k_steps) | fail))
                · rename ¬ ((Fin.val y : Nat) : Int) = _ => hq
                  have hq2 : (!(y == x)) = true := by
                    have : y ≠ x := fun e => hq (by rw [e])
                    simp [this]
                  refine Stop.into (LCg.CompEnd.intro (by k_asm) (by k_asm) _ (fun p hp => hp) off (.inr ⟨_, by k_mem, rfl, _, rfl⟩) ⟨rfl, ?_⟩)
                  rw [List.take_add_one, hky, List.filter_append]
                  refine Lasts.append ?_ hJ
                  simp only [Option.toList_some, List.filter_cons, hq2, if_true, List.filter_nil]
                  exact .cons hmp .nil
                · rename ((Fin.val y : Nat) : Int) = _ => hq
                  have hq2 : (!(y == x)) = false := by
                    have : y = x := Fin.ext (by omega)
                    simp [this]
                  refine Stop.into (LCg.CompEnd.intro (by k_asm) (by k_asm) _ (fun p hp => hp) off (.inr ⟨_, by k_mem, rfl, _, rfl⟩) ⟨rfl, ?_⟩)
                  rw [List.take_add_one, hky, List.filter_append]
                  simp only [Option.toList_some, List.filter_cons, hq2, Bool.false_eq_true, if_false, List.filter_nil, List.append_nil]
                  exact hJ
              case fin8 =>
                intro zs hJ
                intro D h tk F N o3
                rw [hsza2, List.take_length] at hJ
                have hzl5 : zs.length ≤ 5 := by rw [hJ.len]; exact Nat.le_trans (List.length_filter_le _ _) hla5
                have o4 := off1_mem o3
                (k_steps; repeat' (first | ((with_reducible (refine Stop.into ?_; (with_reducible show wpAny _ _ (binaryOp Operator.Add (Value.ref _) (Value.ref _)) _ _ _); k_dflt (refine' cat_lists ?F ?N ?ha ?hb ?hz ?_; (case F => k_asm); (case N => k_asm); (case ha => (iterate 14 try (first | (with_reducible assumption) | (with_reducible exact List.mem_cons_self ..) | refine List.mem_cons_of_mem _ ?_))); (case hb => (iterate 14 try (first | (with_reducible assumption) | (with_reducible exact List.mem_cons_self ..) | refine List.mem_cons_of_mem _ ?_))); (case hz => ((try simp only [List.length_cons, List.length_nil]); omega)); intro _ _ _ _ _); (try dsimp only))); k_steps) | fail))
                rename News _ _ _ _ => lNB
                rename ∀ (p : Addr × Obj), p ∈ _ → p.1 < _ => hDg
                obtain ⟨n12, N12, s1, s2, s3, s4, hmv12, _, hadr12⟩ := ren_all lNB ⟨_, d1'⟩ ⟨_, by with_reducible assumption⟩ ⟨_, by with_reducible assumption⟩ ⟨_, d4'⟩ (.tail _ (.tail _ (.tail _ (.tail _ (.tail _ (.tail _ (.tail _ (.head _)))))))) (.tail _ (.tail _ (.tail _ (.tail _ (.tail _ (.tail _ (.head _))))))) (.tail _ (.tail _ (.tail _ (.tail _ (.tail _ (.head _)))))) (.tail _ (.tail _ (.tail _ (.tail _ (.head _)))))
                have hup12 : ∀ p ∈ n9, ¬ IsC p.2 → p ∈ n12 := fun p hp hn => hmv12 p (.tail _ (.tail _ (.tail _ (.tail _ (.tail _ (.tail _ (.tail _ (.tail _ hp)))))))) hn
                have hI12 := hadr12 _ (.tail _ (.tail _ (.tail _ (.tail _ (.tail _ (.tail _ (.tail _ (.tail _ hI9)))))))) (y1' _ hI9) (y2' _ hI9) (y3' _ hI9) (y4' _ hI9)
                have hJ12 := hadr12 _ (.tail _ (.tail _ (.tail _ (.tail _ (.tail _ (.tail _ (.tail _ (.tail _ hJ9)))))))) (y1' _ hJ9) (y2' _ hJ9) (y3' _ hJ9) (y4' _ hJ9)
                have hmt := hmv12 _ (headMem2 lNB) not_cell_tupL
                have hB12 := hB9.newLast (fun p hp => Nat.ne_of_lt (hDg p (.tail _ (.tail _ (.tail _ (.tail _ (.tail _ (.tail _ (.tail _ hp))))))))) (hmv12 _ (headMem lNB) not_cell_list) hup12 (Lasts.append (lb := [(x, b)]) (.cons hmt .nil) (hJ.movC hup12))
                clear lNB
                refine Stop.into ?_
                k_dflt (refine' ck_useH (few_c (mg := _) (mb := _) (mean := _) (hB12.few.mono (subTop4 N12)) (Nat.le_trans hInv.few_len hS4) (fun p hp => ⟨(few_rows_le hcb p hp).1, Nat.le_trans (few_rows_le hcb p hp).2 hbj3⟩)) ?kk ?_)
                case kk => (refine' CkAt.mk ?k1 ?k2 ?k3 ?k4 ?k5 ?kK ?kd ?ku; (case k1 => k_asm); (case k2 => k_asm); (case k3 => k_asm); (case k4 => k_asm); (case k5 => k_asm); (case kK => first | exact rfl | with_reducible assumption); (case kd => first | omega | ktr_room | k_room); (case ku => first | omega | ktr_units | k_units))
                intro h13 tk13 news13 F13 N13 hH13 hK13
                rw [hInv.few_turn x b] at hH13
                obtain ⟨n14, N14, f1, f2, f3, f4, hB14, hI14, hJ14⟩ := hB12.few_ren N12 ⟨_, d1'⟩ ⟨_, by with_reducible assumption⟩ ⟨_, by with_reducible assumption⟩ ⟨_, d4'⟩ N13 hK13 hH13 hI12 hcI hJ12 hcJ s1 s2 s3 s4
                clear N13 hK13 hH13
                try dsimp only
                (k_steps; repeat' (first | ((with_reducible refine Stop.into ?_); (with_reducible show wpAny _ _ _ _ _ _); (fail_if_success (with_reducible show wpAny _ _ (pyIter _) _ _ _)); (fail_if_success (with_reducible show wpAny _ _ (eval (Expr.ListComp _ _ _ _) _) _ _ _)); (fail_if_success (with_reducible show wpAny _ _ (exec (Stmt.Assign [Expr.Name (Str.ofString "kept") _] (Expr.ListComp _ _ _ _) _) _) _ _ _)); (fail_if_success (with_reducible show wpAny _ _ (compareOp CmpOp.Eq (Value.ref _) (Value.ref _)) _ _ _)); (fail_if_success (with_reducible show wpAny _ _ (call (Value.ref _) _ _) _ _ _)); (fail_if_success (with_reducible show wpAny _ _ (setItem (Value.ref _) (Value.int (Nat.cast (Fin.val _)) _) _) _ _ _)); (fail_if_success (with_reducible show wpAny _ _ (exec (Stmt.If (Expr.BoolOp BoolOp.And _ _) _ _ _) _) _ _ _)); (fail_if_success (with_reducible show wpAny _ _ (exec (Stmt.If (Expr.Compare _ _ _ _) _ _ _) _) _ _ _)); have hNS : NoStop := noStop; walk1; all_goals clear hNS; k_steps) | fail))
                refine Stop.into ?_
                have hcx : ∀ y, cnt (leftT (natOf hS1') left x) y ≤ 4 * k + j + 1 := cnt_turn hInv hcb
                have hrx : rT (natOf hS1') left r x ≤ 4 * k + j + 1 := r_turn hrb
                have hInv2 := hInv.turn x b pick
                k_dflt (refine' ck_useH (full_c (mg := _) (mb := _) (mean := _) (hB14.full.mono (subTop4 N14)) (Nat.le_trans (Nat.le_of_eq hInv.full_len) (Nat.le_trans hkall2 (by decide))) (fun p hp => Nat.le_trans (full_rows_le (n := 800) (fun y => Nat.le_trans (Nat.add_le_add (hcb y) hrb) hbj2) p hp) (by decide)) (Int.natCast_nonneg _)) ?kk ?_)
                case kk => (refine' CkAt.mk ?k1 ?k2 ?k3 ?k4 ?k5 ?kK ?kd ?ku; (case k1 => k_asm); (case k2 => k_asm); (case k3 => k_asm); (case k4 => k_asm); (case k5 => k_asm); (case kK => first | exact rfl | with_reducible assumption); (case kd => first | omega | ktr_room | k_room); (case ku => first | omega | ktr_units | k_units))
                intro h15 tk15 news15 F15 N15 hH15 hK15
                rw [hInv.full_turn x b pick] at hH15
                obtain ⟨n16, N16, r1, r2, r3, r4, hB16, hI16, hJ16⟩ := hB14.full_ren N14 ⟨_, d1'⟩ ⟨_, by with_reducible assumption⟩ ⟨_, by with_reducible assumption⟩ ⟨_, d4'⟩ N15 hK15 hH15 hI14 hcI hJ14 hcJ f1 f2 f3 f4
                clear N15 hK15 hH15
                try dsimp only
                (k_steps; repeat' (first | ((with_reducible refine Stop.into ?_); (with_reducible show wpAny _ _ _ _ _ _); (fail_if_success (with_reducible show wpAny _ _ (pyIter _) _ _ _)); (fail_if_success (with_reducible show wpAny _ _ (eval (Expr.ListComp _ _ _ _) _) _ _ _)); (fail_if_success (with_reducible show wpAny _ _ (exec (Stmt.Assign [Expr.Name (Str.ofString "kept") _] (Expr.ListComp _ _ _ _) _) _) _ _ _)); (fail_if_success (with_reducible show wpAny _ _ (compareOp CmpOp.Eq (Value.ref _) (Value.ref _)) _ _ _)); (fail_if_success (with_reducible show wpAny _ _ (call (Value.ref _) _ _) _ _ _)); (fail_if_success (with_reducible show wpAny _ _ (setItem (Value.ref _) (Value.int (Nat.cast (Fin.val _)) _) _) _ _ _)); (fail_if_success (with_reducible show wpAny _ _ (exec (Stmt.If (Expr.BoolOp BoolOp.And _ _) _ _ _) _) _ _ _)); (fail_if_success (with_reducible show wpAny _ _ (exec (Stmt.If (Expr.Compare _ _ _ _) _ _ _) _) _ _ _)); have hNS : NoStop := noStop; walk1; all_goals clear hNS; k_steps) | fail))
                refine Stop.into ?_
                k_dflt (refine' ck_use0 (hB16.lines (mg := _) (mb := _) (mean := _) (subTop4 N16) hInv2.len (Nat.le_trans hInv2.last_len (by decide)) (fun y => Nat.le_trans (hcx y) (Nat.le_trans hbj (by decide))) (Nat.le_trans hrx (Nat.le_trans hbj (by decide))) rfl rfl) ?kk ?_)
                case kk => (refine' CkAt.mk ?k1 ?k2 ?k3 ?k4 ?k5 ?kK ?kd ?ku; (case k1 => k_asm); (case k2 => k_asm); (case k3 => k_asm); (case k4 => k_asm); (case k5 => k_asm); (case kK => first | exact rfl | with_reducible assumption); (case kd => first | omega | ktr_room | k_room); (case ku => first | omega | ktr_units | k_units))
                intro h17 tk17 F17 N17
                try dsimp only
                k_steps
                subst hQJ
                refine (turn_end (by k_asm) N17 (subTop4 N17 _ hJ16) sub4cut (ne4cut hJ16 r1 r2 r3 r4) ⟨trivial, ?_, LawS.cut hB16 N17 d1' ⟨_, by with_reducible assumption⟩ ⟨_, by with_reducible assumption⟩ ⟨_, d4'⟩ r1 r2 r3 r4 hJ16 hcJ hInv2 hcx hrx (by rfl) (by rfl) (by rfl), .tail _ (.tail _ (.tail _ (.tail _ (cut_mem _ hI16 hIJ))))⟩)
                (intro z hz; (try dsimp only); (repeat' (first | exact ovr_off hz | refine (off_if hz (by simp)).trans ?_)))
      case done2 =>
        rintro n' u' h' tk' ⟨⟨n, o1, o2, o3, o4, left, r, last, kept, Dl, Da, Dk, t, rfl, d1, ⟨v2, d2⟩, ⟨v3, d3⟩, ⟨v4, d4⟩, y1, y2, y3, y4, hB, hInv, hcb, hrb, mk, ml, mr⟩, hIo⟩ F N
        rw [ovr_known3 mk ml mr (by simp) (by simp) (by simp)] at F
        obtain ⟨ysr, kr, hrow, hcr⟩ := hB.row
        (k_steps; repeat' (first | ((with_reducible refine Stop.into ?_); (with_reducible show wpAny _ _ _ _ _ _); (fail_if_success (with_reducible show wpAny _ _ (pyIter _) _ _ _)); (fail_if_success (with_reducible show wpAny _ _ (eval (Expr.ListComp _ _ _ _) _) _ _ _)); (fail_if_success (with_reducible show wpAny _ _ (exec (Stmt.Assign [Expr.Name (Str.ofString "kept") _] (Expr.ListComp _ _ _ _) _) _) _ _ _)); (fail_if_success (with_reducible show wpAny _ _ (compareOp CmpOp.Eq (Value.ref _) (Value.ref _)) _ _ _)); (fail_if_success (with_reducible show wpAny _ _ (call (Value.ref _) _ _) _ _ _)); (fail_if_success (with_reducible show wpAny _ _ (setItem (Value.ref _) (Value.int (Nat.cast (Fin.val _)) _) _) _ _ _)); (fail_if_success (with_reducible show wpAny _ _ (exec (Stmt.If (Expr.BoolOp BoolOp.And _ _) _ _ _) _) _ _ _)); (fail_if_success (with_reducible show wpAny _ _ (exec (Stmt.If (Expr.Compare _ _ _ _) _ _ _) _) _ _ _)); have hNS : NoStop := noStop; walk1; all_goals clear hNS; k_steps) | fail))
        refine Stop.into (eq_row_nil (nn := n) (by k_asm) (fun p hp => .tail _ (.tail _ (.tail _ (.tail _ (.tail _ hp))))) (.tail _ (.tail _ (.tail _ (.tail _ (.tail _ hrow))))) hcr (by intro e; rw [e] at hlr; cases hlr) (List.mem_cons_self ..) (by first | omega | ktr_units | k_units) ?_)
        k_steps
        rename News _ _ _ _ => lN22
        refine Stop.into ?_
        k_dflt (refine' ck_use0 (hB.baredL (mg := _) (mb := _) (mean := _) (subTop5 lN22) hInv.len (Nat.le_trans hInv.last_len (by decide)) (fun y => Nat.le_trans (hcb y) (by omega)) (Nat.le_trans hrb (by omega)) hInv.bared) ?kk ?_)
        case kk => (refine' CkAt.mk ?k1 ?k2 ?k3 ?k4 ?k5 ?kK ?kd ?ku; (case k1 => k_asm); (case k2 => k_asm); (case k3 => k_asm); (case k4 => k_asm); (case k5 => k_asm); (case kK => first | exact rfl | with_reducible assumption); (case kd => first | omega | ktr_room | k_room); (case ku => first | omega | ktr_units | k_units))
        intro h20 tk20 F20 N20
        try dsimp only
        k_steps
        have N21 := fun p hp => N20 p (List.mem_cons_of_mem _ hp)
        have hIn := mem4 hIo (Nat.ne_of_gt (hI2 _ (.head _))) (Nat.ne_of_gt (hI2 _ (.tail _ (.head _)))) (Nat.ne_of_gt (hI2 _ (.tail _ (.tail _ (.head _))))) (Nat.ne_of_gt (hI2 _ (.tail _ (.tail _ (.tail _ (.head _))))))
        subst hQK
        refine (turn_end (by k_asm) N21 (subTop4 N21 _ hIn) sub4cut (ne4cut hIn y1 y2 y3 y4) ⟨trivial, ?_, Dr, row, LawS.cut hB N21 d1 ⟨_, d2⟩ ⟨_, d3⟩ ⟨_, d4⟩ y1 y2 y3 y4 hIn hcI hInv (fun y => Nat.le_trans (hcb y) (Nat.le_of_eq (Nat.mul_succ 4 k).symm)) (Nat.le_trans hrb (Nat.le_of_eq (Nat.mul_succ 4 k).symm)) (by rfl) (by rfl) (by rfl)⟩)
        (intro z hz; (try dsimp only); (repeat' (first | exact ovr_off hz | refine (off_if hz (by simp)).trans ?_)))
    case done =>
      rintro n' u' h' tk' ⟨Dr0, row0, ⟨n, o1, o2, o3, o4, left, r, last, kept, Dl, Da, Dk, t, rfl, d1, ⟨v2, d2⟩, ⟨v3, d3⟩, ⟨v4, d4⟩, y1, y2, y3, y4, hB, hInv, hcb, hrb, mk, ml, mr⟩⟩ F N
      rw [ovr_known3 mk ml mr (by simp) (by simp) (by simp)] at F
      k_steps)
end
end Mine
set_option maxHeartbeats 40000000 in
theorem PySem.Challenge.cw_yf0024_01_holds : PySem.Challenge.rw_yf0024_01.Holds := by
  exact Mine.law_c
