import PyProof.Rows.All
import Wide.All
import OpenK.AllK
import Wide.FinOn
import KE.BitLaws
import KE.KListLetter
import PyProof.WalkInts
import PyProof.Rows.WhileInv
import PyProof.Rows.StrSplitMax
import PyProof.Rows.StrCase
import Lean
import PySem.Challenge.RW_pg0256_01
open PySem PySem.W PyProof.Rows
set_option Elab.async false
set_option linter.all false
set_option compiler.extract_closed false
set_option maxRecDepth 100000

/- part Hd -/
section PartHd
open PySem PySem.W PyProof.Rows
set_option Elab.async false
set_option maxRecDepth 100000
set_option maxHeartbeats 8000000
namespace Mine
open_top hd for PySem.Challenge.rw_pg0256_01
end Mine
end PartHd

/- part Rules -/
section PartRules
open PySem PySem.W PyProof.Rows
set_option maxRecDepth 100000
namespace Mine
open PySem PySem.Builtin PySem.Builtin.Str
def find4 (x y : Str) (i j : Int) : Int := match occurrences x y (fromIndex x.length i) (min (fromIndex x.length j) x.length) 1 with | k :: _ => (k : Int) | [] => -1
def rfind4 (x y : Str) (i j : Int) : Int := match lastOccurrence x y (fromIndex x.length i) (min (fromIndex x.length j) x.length) with | some k => (k : Int) | none => -1
theorem gives_find4 (x y : Str) (i j : Int) (t u v z : Tok) : Gives («str.find» ⟨[.str x t, .str y u, .int i v, .int j z], []⟩) (.int (find4 x y i j)) := by
  show Gives (match occurrences x y (fromIndex x.length i) (min (fromIndex x.length j) x.length) 1 with | k :: _ => retInt k | [] => (do rule "str.find.not-found"; retInt (-1))) _
  unfold find4
  cases occurrences x y (fromIndex x.length i) (min (fromIndex x.length j) x.length) 1 with
  | nil => exact .rule (.of_eq rfl)
  | cons k _ => exact .of_eq rfl
theorem gives_rfind4 (x y : Str) (i j : Int) (t u v z : Tok) : Gives («str.rfind» ⟨[.str x t, .str y u, .int i v, .int j z], []⟩) (.int (rfind4 x y i j)) := by
  show Gives (match lastOccurrence x y (fromIndex x.length i) (min (fromIndex x.length j) x.length) with | some k => retInt k | none => (do rule "str.rfind.not-found"; retInt (-1))) _
  unfold rfind4
  cases lastOccurrence x y (fromIndex x.length i) (min (fromIndex x.length j) x.length) with
  | none => exact .rule (.of_eq rfl)
  | some k => exact .of_eq rfl
section
variable {prog : Program} {w : World} {A : Around} {E : Value → Shared → Prop} {s : Shared} {x y : Str} {t u v z : Tok} {i j : Int} {Q : Value → Shared → Prop}
theorem call_find4 (hq : Q (.int (find4 x y i j) s.toks) { s with toks := s.toks + 1 }) : wpAny (model prog w) A (call (.builtin "str.find") [.str x t, .str y u, .int i v, .int j z]) Q E s :=
  call_gives F.slot_str_find (typeIs_str _ _ _) F.entry_str_find (F.args_str_find_4 _ _ _ _) (gives_find4 x y i j t u v z) hq
theorem call_rfind4 (hq : Q (.int (rfind4 x y i j) s.toks) { s with toks := s.toks + 1 }) : wpAny (model prog w) A (call (.builtin "str.rfind") [.str x t, .str y u, .int i v, .int j z]) Q E s :=
  call_gives F.slot_str_rfind (typeIs_str _ _ _) F.entry_str_rfind (F.args_str_rfind_4 _ _ _ _) (gives_rfind4 x y i j t u v z) hq
end
end Mine
end PartRules

/- part Regex -/
section PartRegex
open PySem PySem.W PyProof.Rows
set_option maxRecDepth 100000
namespace Mine
open PySem PySem.Calls PySem.Spec PySem.W PyProof.Rows PySem.Builtin PySem.Builtin.Re

theorem slot_search : Slot "re.Pattern" "search" "re.Pattern.search" :=
  .of (owner := "re.Pattern") (n := "search") (by rw [typeLookup_type, builtinLookup_eq_fast]; kernel_rfl) (by decide +kernel) (by decide +kernel) (by decide +kernel)
    (by first | exact .inl (by decide +kernel) | exact .inr (by decide +kernel)) (by rw [isSubtype_type]; kernel_rfl)
theorem type_search : typeOf (.builtin "re.Pattern.search") = pure (.type "method_descriptor") := by show builtinType _ = _; rw [builtinType_eq_fast]; kernel_rfl
theorem entry_search : entryFor table "re.Pattern.search" = some Builtin.«re.Pattern.search» := entryFor_of_tree (by kernel_rfl)
theorem args_search (a b : Value) : argsOk "re.Pattern.search" ⟨[a, b], []⟩ := by unfold argsOk; kernel_rfl
theorem plainAttrs_pattern : PlainAttrs "re.Pattern" :=
  ⟨⟨"object.__getattribute__", by rw [typeLookup_type, builtinLookup_eq_fast]; kernel_rfl, by decide +kernel⟩, by rw [typeLookup_type, builtinLookup_eq_fast]; kernel_rfl⟩

/-- no sign of the text lies in the set that the code opens with -/
def SetOff (code : Array Nat) (c : Nat) : Prop := ∀ seen, ∃ seen', Sre.inSet code c code.size 5 true seen = .ok (false, seen')
theorem admitted_none (m : Sre.M) (h : ∀ i, i < m.lim → SetOff m.code (m.text.getD i 0)) : ∀ (fuel s : Nat) (seen : Sre.Seen), ∃ seen', m.admitted fuel s seen = .ok (none, seen')
  | 0, _, seen => ⟨seen, rfl⟩
  | fuel + 1, s, seen => by
    unfold Sre.M.admitted
    by_cases hs : s ≥ m.lim
    · rw [if_pos hs]; exact ⟨seen, rfl⟩
    · rw [if_neg hs]
      obtain ⟨seen', e⟩ := h s (Nat.lt_of_not_le hs) seen
      rw [e]
      exact admitted_none m h fuel (s + 1) seen'
theorem attempt_no (m : Sre.M) (hs : m.hasFirstSet = true) (h : ∀ i, i < m.lim → SetOff m.code (m.text.getD i 0)) (hf : m.frames = []) (ho : m.outcome = none) (s : Nat) (b : Bool) :
    (m.attemptFrom s b).answer = some false ∧ (m.attemptFrom s b).frames = [] ∧ (m.attemptFrom s b).outcome = none := by
  unfold Sre.M.attemptFrom
  rw [hs]
  obtain ⟨seen', e2⟩ := admitted_none m h (m.lim + 1 - s) s m.seen
  simp only [Bool.not_true, Bool.false_eq_true, if_false]
  rw [e2]
  exact ⟨rfl, hf, ho⟩
/-- the search says no before a step is taken -/
theorem search_no {code text : Array Nat} (hf : ((match Sre.ops[code.getD 0 0]? with | some .INFO => true | _ => false) && code.getD 2 0 == 4) = true)
    (h : ∀ i, i < text.size → SetOff code (text.getD i 0)) :
    (Sre.forSearch code text 0 0 text.size false).answer = some false ∧ (Sre.forSearch code text 0 0 text.size false).frames = [] ∧ (Sre.forSearch code text 0 0 text.size false).outcome = none := by
  unfold Sre.forSearch
  dsimp only
  split
  · exact ⟨rfl, rfl, rfl⟩
  · refine attempt_no _ ?_ h rfl rfl _ _
    exact hf
theorem runFor_no {m : Sre.M} (h1 : m.answer = some false) (h2 : m.frames = []) (h3 : m.outcome = none) (n : Nat) : (m.runFor (n + 1)).outcome = some .failed := by
  have e : m.step.outcome = some .failed := by
    unfold Sre.M.step
    rw [h3, h1, h2]
    rfl
  have e2 : ∀ k, (m.step.runFor k).outcome = some .failed := by
    intro k
    cases k with
    | zero => exact e
    | succ k =>
      unfold Sre.M.runFor
      rw [e]
      exact e
  unfold Sre.M.runFor
  rw [h3]
  exact e2 n
section
variable {prog : Program} {w : World} {A : Around} {E : Value → Shared → Prop} {s : Shared}
theorem wp_rules (l : List Nat) (f : Nat → Bool) (g : Nat → String) {Q : PUnit → Shared → Prop} (h : Q ⟨⟩ s) :
    wpAny (model prog w) A (forIn l PUnit.unit fun i _ => (if f i = true then do rule (g i); pure (ForInStep.yield PUnit.unit) else pure (ForInStep.yield PUnit.unit) : Sem (ForInStep PUnit))) Q E s := by
  induction l with
  | nil => exact wpAny_pure h
  | cons i r ih =>
    rw [List.forIn_cons]
    cases f i with
    | true => exact wpAny_bind (wpAny_bind (wpAny_rule (wpAny_pure ih)))
    | false => exact wpAny_bind (wpAny_pure ih)
theorem drive_no {m : Sre.M} (h : (m.runFor 4).outcome = some .failed) (n : Nat) : reDrive (n + 1) m = pure (m.runFor 4) := by
  unfold reDrive
  show (if (m.runFor 4).outcome.isSome = true then _ else _) = _
  rw [h]
  rfl
theorem run_no {m : Sre.M} (h1 : m.answer = some false) (h2 : m.frames = []) (h3 : m.outcome = none) {Q : Option Sre.M → Shared → Prop} (h : Q none s) : wpAny (model prog w) A (reRunToEnd m) Q E s := by
  unfold reRunToEnd
  have e := runFor_no h1 h2 h3 3
  have e4 : (2 : Nat) ^ 64 = (2 ^ 64 - 1) + 1 := by decide
  rw [e4, drive_no e]
  refine wpAny_bind (wpAny_pure (wpAny_bind (wp_rules _ _ _ ?_)))
  rw [e]
  exact wpAny_pure h
theorem getMethod_search {a : Addr} {o : Obj} {pl : Sem Bool} {Q : Value × List Value → Shared → Prop} (ho : s.heap.get? a = some o) (hc : o.cls = .type "re.Pattern") (hd : o.dict = none)
    (h : Q (.builtin "re.Pattern.search", [.ref a]) s) : wpAny (model prog w) A (getMethod (.ref a) "search" pl) Q E s :=
  getMethod_builtin (T := "re.Pattern") ⟨o, ho, hc⟩ plainAttrs_pattern slot_search type_search (fun b e => by cases e; exact ⟨o, ho, hd⟩) h
theorem call_search {a c : Addr} {o oc : Obj} {vs items : Array Value} {n : Nat} {x : Str} {t : Tok} {Q : Value → Shared → Prop} (ho : s.heap.get? a = some o) (hc : o.cls = .type "re.Pattern") (hd : o.data = .fields vs)
    (h6 : reRawNat (vs.getD 6 .none) = 0) (h2 : reRawNat (vs.getD 2 .none) = 0) (h5 : vs.getD 5 .none = .ref c) (hoc : s.heap.get? c = some oc) (hdc : oc.data = .seq items n)
    (hf : ((match (Sre.ops[((items.map reRawOf).map (·.toNat)).getD 0 0]? : Option Sre.Op) with | some .INFO => true | _ => false) && ((items.map reRawOf).map (·.toNat)).getD 2 0 == 4) = true)
    (hx : x.cps.size ≤ 2 ^ 20) (h : ∀ i, i < x.cps.size → SetOff ((items.map reRawOf).map (·.toNat)) (x.cps.getD i 0))
    (hq : Q .none s) : wpAny (model prog w) A (call (.builtin "re.Pattern.search") [.ref a, .str x t]) Q E s := by
  refine wpAny_call (codeAny_call_builtin slot_search.plain entry_search (slot_search.check _ _ _ _ _ _ _ _ ⟨o, ho, hc⟩ (args_search _ _) ?_))
  unfold «re.Pattern.search»
  refine wpAny_bind ?_
  unfold reTarget
  have hn : reNamed "re.Pattern.search" "search" ["string", "pos", "endpos"] 1 [.str x t] [] = pure [some (.str x t), none, none] := by kernel_rfl
  dsimp only
  rw [hn]
  refine wpAny_bind (wpAny_pure ?_)
  dsimp only
  refine wpAny_bind (wpAny_pure (wpAny_bind (wpAny_pure (wpAny_bind (wpAny_fieldsOf ho hd (wpAny_bind ?_))))))
  unfold reTextOf
  refine wpAny_bind (wpAny_pure ?_)
  dsimp only
  refine wpAny_pure ?_
  dsimp only
  rw [h6, h2, h5]
  have z1 : ((0 == 0 && 0 == 1 : Bool) = true) = False := by decide
  have z2 : ((0 == 1 && 0 == 0 : Bool) = true) = False := by decide
  simp only [z1, z2, if_false]
  refine wpAny_bind ?_
  unfold reNoCollectionInside
  refine wpAny_pure ?_
  unfold reRawItems
  refine wpAny_bind (wpAny_bind (wpAny_seqItems hoc hdc (wpAny_pure (wpAny_pure ?_))))
  dsimp only
  have e1 : min (Int.toNat 0) x.cps.size = 0 := by simp
  have e2 : min (Int.toNat (2 ^ 63 - 1)) x.cps.size = x.cps.size := by
    have : Int.toNat (2 ^ 63 - 1) = 9223372036854775807 := by decide
    rw [this]
    omega
  rw [e1, e2]
  obtain ⟨a1, a2, a3⟩ := search_no (text := x.cps) hf h
  unfold reAnswer
  refine wpAny_bind (run_no a1 a2 a3 ?_)
  exact wpAny_pure hq
end

def okc (c : Nat) : Bool := c == 46 || (65 ≤ c && c ≤ 72) || (97 ≤ c && c ≤ 104)
def okList : List Nat := [46, 65, 66, 67, 68, 69, 70, 71, 72, 97, 98, 99, 100, 101, 102, 103, 104]
theorem okc_mem {c : Nat} (h : okc c = true) : c ∈ okList := by
  have hb : c < 105 := by
    unfold okc at h
    simp only [Bool.or_eq_true, Bool.and_eq_true, beq_iff_eq, decide_eq_true_eq] at h
    rcases h with (h | h) | h
    · rw [h]; decide
    · exact Nat.lt_of_le_of_lt h.2 (by decide)
    · exact Nat.lt_of_le_of_lt h.2 (by decide)
  have key : ∀ c, c < 105 → okc c = true → c ∈ okList := by decide +kernel
  exact key c hb h
def codeN : Array Nat := #[14, 10, 4, 1, 1, 22, 0, 31, 16, 127, 0, 13, 7, 22, 0, 31, 16, 127, 0, 1]
def codeV : Array Nat := #[14, 14, 4, 1, 1, 9, 4294966783, 0, 0, 2147483648, 0, 0, 0, 0, 0, 13, 11, 9, 4294966783, 0, 0, 2147483648, 0, 0, 0, 0, 0, 1]
theorem off_N {c : Nat} (h : okc c = true) : SetOff codeN c := by
  have h1 : ∀ c ∈ okList, SetOff codeN c := by
    unfold okList
    simp only [List.forall_mem_cons, List.not_mem_nil, false_implies, implies_true, and_true]
    refine ⟨?_, ?_, ?_, ?_, ?_, ?_, ?_, ?_, ?_, ?_, ?_, ?_, ?_, ?_, ?_, ?_, ?_⟩ <;> exact fun seen => ⟨_, rfl⟩
  exact h1 c (okc_mem h)
theorem off_V {c : Nat} (h : okc c = true) : SetOff codeV c := by
  have h1 : ∀ c ∈ okList, SetOff codeV c := by
    unfold okList
    simp only [List.forall_mem_cons, List.not_mem_nil, false_implies, implies_true, and_true]
    refine ⟨?_, ?_, ?_, ?_, ?_, ?_, ?_, ?_, ?_, ?_, ?_, ?_, ?_, ?_, ?_, ?_, ?_⟩ <;> exact fun seen => ⟨_, rfl⟩
  exact h1 c (okc_mem h)
end Mine
end PartRegex

/- part Loops -/
section PartLoops
open PySem PySem.W PyProof.Rows
set_option maxRecDepth 100000
namespace Mine
open PySem PySem.Calls PySem.Spec PySem.W PyProof.Rows

def JEnd (h₀ : Heap) (L I : Addr) (it : Obj) (J : (Str → Option Value) → List (Addr × Obj) → Prop) (s₁ s₂ : Shared) : Prop :=
  ∃ h' tk m' nw, s₂ = { s₁ with heap := h', toks := tk } ∧ Fr h₀ L h' m' ∧ News h₀ L h' ((I, it) :: nw) ∧ (∀ p ∈ nw, p.1 ≠ I) ∧ J m' nw
def JPost (h₀ : Heap) (L I : Addr) (it : Obj) (J : (Str → Option Value) → List (Addr × Obj) → Prop) (s₁ : Shared) (Q : Flow → Shared → Prop) (f : Flow) (s₂ : Shared) : Prop :=
  match f with
  | .ret v => Q (.ret v) s₂
  | .brk => Q .next s₂
  | _ => JEnd h₀ L I it J s₁ s₂
theorem JEnd.intro {h₀ : Heap} {L I : Addr} {it : Obj} {J : (Str → Option Value) → List (Addr × Obj) → Prop} {s₁ : Shared} {h' : Heap} {tk : Nat} {m' : Str → Option Value} {all nw : List (Addr × Obj)} (F : Fr h₀ L h' m') (N : News h₀ L h' all)
    (hI : (I, it) ∈ all) (hs : ∀ p ∈ nw, p ∈ all) (ho : ∀ p ∈ nw, p.1 ≠ I) (hj : J m' nw) : JEnd h₀ L I it J s₁ { s₁ with heap := h', toks := tk } :=
  ⟨h', tk, m', nw, rfl, F, fun p hp => by
    rcases List.mem_cons.mp hp with rfl | hp
    · exact N _ hI
    · exact N _ (hs p hp), ho, hj⟩

section
variable {prog : Program} {w : World} {A : Around} {E : Value → Shared → Prop} {s : Shared} {env : Env} {h₀ : Heap} {target : Expr} {body : List Stmt} {Q : Flow → Shared → Prop}

theorem j_core {I : Addr} {fp : List Addr} {n : Nat} {P : Nat → Value → Prop} {St : Nat → Heap → Prop} {m₀ : Str → Option Value} {news : List (Addr × Obj)} {hp : Heap} {tk0 : Nat} (J : Nat → (Str → Option Value) → List (Addr × Obj) → Prop)
    (W : Walks prog w A I fp [I] n P St) (hgo : ∀ i v (s : Shared) (Q : Unit → Shared → Prop) (E : Value → Shared → Prop), St i s.heap → Q () s → wpAny (model prog w) A (letOwnedTupleGo target (.ref I) v) Q E s)
    (hfp : ∀ b ∈ fp, b = I ∨ (∃ o, ∀ i m nw, J i m nw → (b, o) ∈ nw)) (hit : ∀ i h, St i h → ∃ o, h.get? I = some o) (hI : h₀.get? I = none)
    (hLf : env.locals ∉ fp) (hnw : ∀ p ∈ news, p.1 ≠ I) (hst : St 0 hp) (F : Fr h₀ env.locals hp m₀) (N : News h₀ env.locals hp news) (hj : J 0 m₀ news)
    (turn : ∀ i v m₁ nw ito h tk, i < n → P i v → J i m₁ nw → (∀ p ∈ nw, p.1 ≠ I) → Fr h₀ env.locals h m₁ → News h₀ env.locals h ((I, ito) :: nw) →
      wpAny (model prog w) A (assign target env v) (fun _ s₃ => wpAny (model prog w) A (execs body env) (JPost h₀ env.locals I ito (J (i + 1)) s Q) E s₃) E { s with heap := h, toks := tk })
    (done : ∀ m₁ nw h tk, J n m₁ nw → Fr h₀ env.locals h m₁ → News h₀ env.locals h nw → Q .next { s with heap := h, toks := tk }) :
    TurnsAt prog w A h₀ env target body Q E (.ref I) { s with heap := hp, toks := tk0 } := by
  have W' := KTurns.ofWalks (target := target) W hgo
  refine ⟨I, fp, [I], n, _, _, St, m₀, news, J, rfl, W', hLf, ?_, ?_, hst, F, N, hj, ?_, ?_⟩
  · intro b hb
    rw [List.mem_singleton.mp hb]
    exact hI
  · intro p hp hq
    exact hnw p hp (List.mem_singleton.mp hq)
  · intro i v m₁ nw h tk own hin hP hJ hoff hown hget hall hst₁ F₁ N₁
    obtain ⟨ito, hIo⟩ := hit _ _ hst₁
    have hIf : I ∈ fp := W.sub I (List.mem_singleton.mpr rfl)
    have hIown : (I, ito) ∈ own := hall I hIf hI _ hIo
    have ho : ∀ p ∈ nw, p.1 ≠ I := fun p hp e => hoff p hp (List.mem_singleton.mpr e)
    have N₂ : News h₀ env.locals h ((I, ito) :: nw) := fun p hp => by
      rcases List.mem_cons.mp hp with rfl | hp
      · exact N₁ _ (List.mem_append_left _ hIown)
      · exact N₁ _ (List.mem_append_right _ hp)
    have fin : ∀ s₃, JEnd h₀ env.locals I (ito) (J (i + 1)) s s₃ → LoopStepU h₀ env.locals [I] own (J (i + 1)) { s with heap := h, toks := tk } .next s₃ := by
      rintro s₃ ⟨h', tk', m', nw', rfl, F', N', ho', hj'⟩
      refine ⟨rfl, h', tk', m', nw', rfl, F', ?_, fun p hp hq => ho' p hp (List.mem_singleton.mp hq), hj'⟩
      intro p hp
      rcases List.mem_append.mp hp with hp | hp
      · obtain ⟨pa, po⟩ := p
        have h2 : h.get? pa = some po := hget _ hp
        rcases hfp pa (hown _ hp) with e | ⟨o, e⟩
        · subst e
          rw [hIo] at h2
          cases h2
          exact N' _ (.head _)
        · have e1 := e i m₁ nw hJ
          have e2 := (N₁ _ (List.mem_append_right _ e1)).1
          have e3 : o = po := Option.some.inj (e2.symm.trans h2)
          subst e3
          exact N' _ (.tail _ (e _ _ _ hj'))
      · exact N' _ (.tail _ hp)
    refine wpAny_mono (turn i v m₁ nw ito h tk hin hP hJ ho F₁ N₂) (fun _ s₂ h₂ => wpAny_mono h₂ (fun f s₃ p => ?_) fun _ _ e => e) fun _ _ e => e
    cases f with
    | ret v => exact .ret p
    | brk => exact .brk p
    | next => exact .next (fin _ p)
    | cont => exact .cont (fin _ p)
  · intro h' tk m' nw' F' N' _ hJ
    exact done m' nw' h' tk hJ F' N'

/-- a list of the ledger's, its target any -/
theorem iter_listJ {l : Addr} {vs : List Value} {n : Nat} {m₀ : Str → Option Value} {news : List (Addr × Obj)} (J : Nat → (Str → Option Value) → List (Addr × Obj) → Prop)
    (hh : A.handled = none) (F : Fr h₀ env.locals s.heap m₀) (N : News h₀ env.locals s.heap news) (hJl : ∀ i m nw, J i m nw → (l, listOf vs.toArray n) ∈ nw) (hj : J 0 m₀ news)
    (turn : ∀ i v m₁ nw I ito h tk, vs[i]? = some v → J i m₁ nw → (∀ p ∈ nw, p.1 ≠ I) → Fr h₀ env.locals h m₁ → News h₀ env.locals h ((I, ito) :: nw) →
      wpAny (model prog w) A (assign target env v) (fun _ s₃ => wpAny (model prog w) A (execs body env) (JPost h₀ env.locals I ito (J (i + 1)) s Q) E s₃) E { s with heap := h, toks := tk })
    (done : ∀ m₁ nw h tk, J vs.length m₁ nw → Fr h₀ env.locals h m₁ → News h₀ env.locals h nw → Q .next { s with heap := h, toks := tk }) :
    wpAny (model prog w) A (pyIter (.ref l)) (fun it s₂ => TurnsAt prog w A h₀ env target body Q E it s₂) E s := by
  have hm := hJl 0 _ _ hj
  have hlN := N _ hm
  have hlo := hlN.1
  have hl : s.heap.IsList l vs.toArray := ⟨_, hlo, rfl, n, rfl⟩
  have hlt : l < s.heap.objs.size := Heap.lt_size hlo
  have hne : l ≠ s.heap.objs.size := Nat.ne_of_lt hlt
  refine wpAny_pyIter_list hl ?_
  have W := Walks.list (prog := prog) (w := w) hh s.heap.objs.size l hne vs.toArray
  have hsz : vs.toArray.size = vs.length := List.size_toArray
  rw [hsz] at W
  refine j_core (tk0 := s.toks) J W (fun i v s Q E st q => letGo_listiter st.1 q) ?_ ?_ (next_is_new F) ?_ ?_ ?_ (F.push _) (fun p hp => ⟨Heap.get?_push_of_some _ (N p hp).1, (N p hp).2⟩) hj ?_ done
  · intro b hb
    rcases List.mem_cons.mp hb with e | hb
    · exact .inl e
    · rw [List.mem_singleton.mp hb]
      exact .inr ⟨_, hJl⟩
  · intro i h st
    obtain ⟨it, hit, _⟩ := st.1
    exact ⟨it, hit⟩
  · intro hI
    rcases List.mem_cons.mp hI with e | hI
    · exact absurd F.ns.lt (e ▸ Nat.lt_irrefl _)
    · exact hlN.2.1 (List.mem_singleton.mp hI).symm
  · intro p hp hI
    exact absurd (Heap.lt_size (N p hp).1) (hI ▸ Nat.lt_irrefl _)
  · exact ⟨⟨_, Heap.get?_push_size _ rfl, rfl, rfl⟩, hl.at fun o e => Heap.get?_push_of_some _ e⟩
  · intro i v m₁ nw ito h tk hi hv hJ ho F₁ N₁
    exact turn i v m₁ nw _ ito h tk (by simpa using hv) hJ ho F₁ N₁

theorem letGo_rangeiter {E : Value → Shared → Prop} {target : Expr} {I : Addr} {x left step : Int} {v : Value} {Q' : Unit → Shared → Prop} {s' : Shared} (hit : IsRangeIter s'.heap I x left step) (h : Q' () s') :
    wpAny (model prog w) A (letOwnedTupleGo target (.ref I) v) Q' E s' := by
  unfold letOwnedTupleGo
  cases target <;> first
    | exact wpAny_pure h
    | (cases v <;> first
        | exact wpAny_pure h
        | (refine wpAny_bind (wpAny_load hit ?_)
           exact wpAny_pure h))
/-- a range by ones, its target any -/
theorem iter_rangeJ {r : Addr} {a₀ b₀ : Int} {t₀ u₀ v₀ : Tok} {n : Nat} {m₀ : Str → Option Value} {news : List (Addr × Obj)} (J : Nat → (Str → Option Value) → List (Addr × Obj) → Prop)
    (hh : A.handled = none) (hr : IsRange s.heap r a₀ b₀ 1 t₀ u₀ v₀) (hsmall : Builtin.Range.small a₀ b₀ 1 = true) (hn : Builtin.Range.rangeSize a₀ b₀ 1 = (n : Int)) (F : Fr h₀ env.locals s.heap m₀) (N : News h₀ env.locals s.heap news) (hj : J 0 m₀ news)
    (turn : ∀ i t m₁ nw I ito h tk, i < n → J i m₁ nw → (∀ p ∈ nw, p.1 ≠ I) → Fr h₀ env.locals h m₁ → News h₀ env.locals h ((I, ito) :: nw) →
      wpAny (model prog w) A (assign target env (.int (a₀ + (i : Int)) t)) (fun _ s₃ => wpAny (model prog w) A (execs body env) (JPost h₀ env.locals I ito (J (i + 1)) s Q) E s₃) E { s with heap := h, toks := tk })
    (done : ∀ m₁ nw h tk, J n m₁ nw → Fr h₀ env.locals h m₁ → News h₀ env.locals h nw → Q .next { s with heap := h, toks := tk }) :
    wpAny (model prog w) A (pyIter (.ref r)) (fun it s₂ => TurnsAt prog w A h₀ env target body Q E it s₂) E s := by
  refine wpAny_pyIter_range hr hsmall ?_
  have W : Walks prog w A s.heap.objs.size [s.heap.objs.size] [s.heap.objs.size] n (fun i v => i < n ∧ ∃ t, v = .int (a₀ + i * 1) t)
      (fun i h => IsRangeIter h s.heap.objs.size (a₀ + (i : Nat) * 1) ((n : Int) - (i : Nat)) 1) := (Walks.range hh _ a₀ 1 n).bound
  refine j_core (tk0 := s.toks) J W (fun i v s Q E st q => letGo_rangeiter st q) ?_ ?_ (next_is_new F) ?_ ?_ (by show IsRangeIter _ _ _ _ _; rw [hn]; simpa using Heap.get?_push_size _ rfl) (F.push _) (fun p hp => ⟨Heap.get?_push_of_some _ (N p hp).1, (N p hp).2⟩) hj ?_ done
  · intro b hb
    exact .inl (List.mem_singleton.mp hb)
  · intro i h st
    exact ⟨_, st⟩
  · intro hI
    exact absurd F.ns.lt ((List.mem_singleton.mp hI) ▸ Nat.lt_irrefl _)
  · intro p hp hI
    exact absurd (Heap.lt_size (N p hp).1) (hI ▸ Nat.lt_irrefl _)
  · rintro i v m₁ nw ito h tk hi ⟨_, t, rfl⟩ hJ ho F₁ N₁
    rw [Int.mul_one]
    exact turn i t m₁ nw _ ito h tk hi hJ ho F₁ N₁
end
end Mine
namespace Mine
section
variable {prog : Program} {w : World} {A : Around} {E : Value → Shared → Prop} {s : Shared} {env : Env} {h₀ : Heap} {target : Expr} {body : List Stmt} {Q : Flow → Shared → Prop}
theorem iter_listNil {l : Addr} {n : Nat} {m₀ : Str → Option Value} {news : List (Addr × Obj)} (hm : (l, listOf [].toArray n) ∈ news)
    (hh : A.handled = none) (F : Fr h₀ env.locals s.heap m₀) (N : News h₀ env.locals s.heap news)
    (done : ∀ h tk, Fr h₀ env.locals h m₀ → News h₀ env.locals h news → Q .next { s with heap := h, toks := tk }) :
    wpAny (model prog w) A (pyIter (.ref l)) (fun it s₂ => TurnsAt prog w A h₀ env target body Q E it s₂) E s := by
  refine iter_listJ (l := l) (vs := []) (n := n) (fun _ m nw => m = m₀ ∧ nw = news) hh F N ?_ ⟨rfl, rfl⟩ ?_ ?_
  · rintro _ _ _ ⟨_, rfl⟩
    exact hm
  · intro i v _ _ _ _ _ _ hv
    cases hv
  · rintro _ _ h tk ⟨rfl, rfl⟩ F2 N2
    exact done h tk F2 N2
end
theorem fr_say {h₀ h : Heap} {L : Addr} {m : Str → Option Value} {x : Str} {v : Value} (F : Fr h₀ L h m) (hx : m x = some v) : Fr h₀ L h (fun y => if y = x then some v else m y) := by
  have e : (fun y => if y = x then some v else m y) = m := by
    funext y
    by_cases h : y = x
    · rw [if_pos h, h, hx]
    · rw [if_neg h]
  rw [e]; exact F
def Hold (P : Prop) : Prop := P
theorem Hold.out {P : Prop} (h : Hold P) : P := h
theorem Hold.into {P : Prop} (h : P) : Hold P := h
theorem Hold.ne {a b : Nat} (h : Hold (@Ne Nat a b)) : @Ne Nat a b := h
theorem Hold.ne' {a b : Nat} (h : Hold (@Ne Nat b a)) : @Ne Nat a b := Ne.symm h
theorem slimG {G : Prop} (h : (G → False) → False) : G := Classical.byContradiction h
theorem genT {M : Model} {A : Around} {α β : Type} {t : Sem α} {t2 : Sem β} {P : β → Shared → Prop} {E : Value → Shared → Prop} {s : Shared}
    (h : ∀ (P' : β → Shared → Prop), (∀ a s', P a s' → P' a s') → wpAny M A t (fun _ s₃ => wpAny M A t2 P' E s₃) E s) : wpAny M A t (fun _ s₃ => wpAny M A t2 P E s₃) E s :=
  h P (fun _ _ h => h)
theorem genQ {M : Model} {A : Around} {α : Type} {t : Sem α} {Q : α → Shared → Prop} {E : Value → Shared → Prop} {s : Shared}
    (h : ∀ (Q' : α → Shared → Prop) (E' : Value → Shared → Prop), (∀ a s', Q a s' → Q' a s') → (∀ e s', E e s' → E' e s') → wpAny M A t Q' E' s) : wpAny M A t Q E s :=
  h Q E (fun _ _ h => h) (fun _ _ h => h)
theorem off_cons {I a : Addr} {o : Obj} {l : List (Addr × Obj)} (h : @Ne Nat a I) (t : ∀ p ∈ l, p.1 ≠ I) : ∀ p ∈ (a, o) :: l, p.1 ≠ I := fun p hp =>
  (List.mem_cons.mp hp).elim (fun e => by rw [e]; exact h) (t p)
theorem sub_cons {α : Type} {a : α} {l l' : List α} (h : a ∈ l') (t : ∀ p ∈ l, p ∈ l') : ∀ p ∈ a :: l, p ∈ l' := fun p hp =>
  (List.mem_cons.mp hp).elim (fun e => by rw [e]; exact h) (t p)
theorem off1 {I a : Addr} {o : Obj} {l : List (Addr × Obj)} (h : ∀ p ∈ (a, o) :: l, p.1 ≠ I) : Hold (@Ne Nat a I) := h _ (.head _)
theorem off2 {I a : Addr} {o : Obj} {l : List (Addr × Obj)} (h : ∀ p ∈ (a, o) :: l, p.1 ≠ I) : ∀ p ∈ l, p.1 ≠ I := fun p hp => h p (.tail _ hp)
theorem offs4 {I a b c d : Addr} {oa ob oc od : Obj} {l : List (Addr × Obj)} {G : Prop} (h : ∀ p ∈ (a, oa) :: (b, ob) :: (c, oc) :: (d, od) :: l, p.1 ≠ I) (y : Hold (@Ne Nat a I) → Hold (@Ne Nat b I) → Hold (@Ne Nat c I) → Hold (@Ne Nat d I) → (∀ p ∈ l, p.1 ≠ I) → G) : G :=
  y (off1 h) (off1 (off2 h)) (off1 (off2 (off2 h))) (off1 (off2 (off2 (off2 h)))) (off2 (off2 (off2 (off2 h))))
theorem offs5 {I a b c d e : Addr} {oa ob oc od oe : Obj} {l : List (Addr × Obj)} {G : Prop} (h : ∀ p ∈ (a, oa) :: (b, ob) :: (c, oc) :: (d, od) :: (e, oe) :: l, p.1 ≠ I) (y : Hold (@Ne Nat a I) → Hold (@Ne Nat b I) → Hold (@Ne Nat c I) → Hold (@Ne Nat d I) → Hold (@Ne Nat e I) → (∀ p ∈ l, p.1 ≠ I) → G) : G :=
  y (off1 h) (off1 (off2 h)) (off1 (off2 (off2 h))) (off1 (off2 (off2 (off2 h)))) (off1 (off2 (off2 (off2 (off2 h))))) (off2 (off2 (off2 (off2 (off2 h)))))
theorem offs6 {I a b c d e f : Addr} {oa ob oc od oe of : Obj} {l : List (Addr × Obj)} {G : Prop} (h : ∀ p ∈ (a, oa) :: (b, ob) :: (c, oc) :: (d, od) :: (e, oe) :: (f, of) :: l, p.1 ≠ I) (y : Hold (@Ne Nat a I) → Hold (@Ne Nat b I) → Hold (@Ne Nat c I) → Hold (@Ne Nat d I) → Hold (@Ne Nat e I) → Hold (@Ne Nat f I) → (∀ p ∈ l, p.1 ≠ I) → G) : G :=
  y (off1 h) (off1 (off2 h)) (off1 (off2 (off2 h))) (off1 (off2 (off2 (off2 h)))) (off1 (off2 (off2 (off2 (off2 h))))) (off1 (off2 (off2 (off2 (off2 (off2 h)))))) (off2 (off2 (off2 (off2 (off2 (off2 h))))))
theorem offs7 {I a b c d e f g : Addr} {oa ob oc od oe of og : Obj} {l : List (Addr × Obj)} {G : Prop} (h : ∀ p ∈ (a, oa) :: (b, ob) :: (c, oc) :: (d, od) :: (e, oe) :: (f, of) :: (g, og) :: l, p.1 ≠ I) (y : Hold (@Ne Nat a I) → Hold (@Ne Nat b I) → Hold (@Ne Nat c I) → Hold (@Ne Nat d I) → Hold (@Ne Nat e I) → Hold (@Ne Nat f I) → Hold (@Ne Nat g I) → (∀ p ∈ l, p.1 ≠ I) → G) : G :=
  y (off1 h) (off1 (off2 h)) (off1 (off2 (off2 h))) (off1 (off2 (off2 (off2 h)))) (off1 (off2 (off2 (off2 (off2 h))))) (off1 (off2 (off2 (off2 (off2 (off2 h)))))) (off1 (off2 (off2 (off2 (off2 (off2 (off2 h))))))) (off2 (off2 (off2 (off2 (off2 (off2 (off2 h)))))))
theorem offs8 {I a b c d e f g i : Addr} {oa ob oc od oe of og oi : Obj} {l : List (Addr × Obj)} {G : Prop} (h : ∀ p ∈ (a, oa) :: (b, ob) :: (c, oc) :: (d, od) :: (e, oe) :: (f, of) :: (g, og) :: (i, oi) :: l, p.1 ≠ I) (y : Hold (@Ne Nat a I) → Hold (@Ne Nat b I) → Hold (@Ne Nat c I) → Hold (@Ne Nat d I) → Hold (@Ne Nat e I) → Hold (@Ne Nat f I) → Hold (@Ne Nat g I) → Hold (@Ne Nat i I) → (∀ p ∈ l, p.1 ≠ I) → G) : G :=
  y (off1 h) (off1 (off2 h)) (off1 (off2 (off2 h))) (off1 (off2 (off2 (off2 h)))) (off1 (off2 (off2 (off2 (off2 h))))) (off1 (off2 (off2 (off2 (off2 (off2 h)))))) (off1 (off2 (off2 (off2 (off2 (off2 (off2 h))))))) (off1 (off2 (off2 (off2 (off2 (off2 (off2 (off2 h)))))))) (off2 (off2 (off2 (off2 (off2 (off2 (off2 (off2 h))))))))
theorem offs10 {I a b c d e f g i j k : Addr} {oa ob oc od oe of og oi oj ok : Obj} {l : List (Addr × Obj)} {G : Prop} (h : ∀ p ∈ (a, oa) :: (b, ob) :: (c, oc) :: (d, od) :: (e, oe) :: (f, of) :: (g, og) :: (i, oi) :: (j, oj) :: (k, ok) :: l, p.1 ≠ I) (y : Hold (@Ne Nat a I) → Hold (@Ne Nat b I) → Hold (@Ne Nat c I) → Hold (@Ne Nat d I) → Hold (@Ne Nat e I) → Hold (@Ne Nat f I) → Hold (@Ne Nat g I) → Hold (@Ne Nat i I) → Hold (@Ne Nat j I) → Hold (@Ne Nat k I) → (∀ p ∈ l, p.1 ≠ I) → G) : G :=
  y (off1 h) (off1 (off2 h)) (off1 (off2 (off2 h))) (off1 (off2 (off2 (off2 h)))) (off1 (off2 (off2 (off2 (off2 h))))) (off1 (off2 (off2 (off2 (off2 (off2 h)))))) (off1 (off2 (off2 (off2 (off2 (off2 (off2 h))))))) (off1 (off2 (off2 (off2 (off2 (off2 (off2 (off2 h)))))))) (off1 (off2 (off2 (off2 (off2 (off2 (off2 (off2 (off2 h))))))))) (off1 (off2 (off2 (off2 (off2 (off2 (off2 (off2 (off2 (off2 h)))))))))) (off2 (off2 (off2 (off2 (off2 (off2 (off2 (off2 (off2 (off2 h))))))))))
theorem cut4 {a b c d G : Prop} (h : a ∧ b ∧ c ∧ d) (y : a → b → c → d → G) : G :=
  y h.1 h.2.1 h.2.2.1 h.2.2.2
theorem cut5 {a b c d e G : Prop} (h : a ∧ b ∧ c ∧ d ∧ e) (y : a → b → c → d → e → G) : G :=
  y h.1 h.2.1 h.2.2.1 h.2.2.2.1 h.2.2.2.2
theorem cut6 {a b c d e f G : Prop} (h : a ∧ b ∧ c ∧ d ∧ e ∧ f) (y : a → b → c → d → e → f → G) : G :=
  y h.1 h.2.1 h.2.2.1 h.2.2.2.1 h.2.2.2.2.1 h.2.2.2.2.2
theorem cut7 {a b c d e f g G : Prop} (h : a ∧ b ∧ c ∧ d ∧ e ∧ f ∧ g) (y : a → b → c → d → e → f → g → G) : G :=
  y h.1 h.2.1 h.2.2.1 h.2.2.2.1 h.2.2.2.2.1 h.2.2.2.2.2.1 h.2.2.2.2.2.2
theorem cut9 {a b c d e f g i j G : Prop} (h : a ∧ b ∧ c ∧ d ∧ e ∧ f ∧ g ∧ i ∧ j) (y : a → b → c → d → e → f → g → i → j → G) : G :=
  y h.1 h.2.1 h.2.2.1 h.2.2.2.1 h.2.2.2.2.1 h.2.2.2.2.2.1 h.2.2.2.2.2.2.1 h.2.2.2.2.2.2.2.1 h.2.2.2.2.2.2.2.2
theorem cut10 {a b c d e f g i j k G : Prop} (h : a ∧ b ∧ c ∧ d ∧ e ∧ f ∧ g ∧ i ∧ j ∧ k) (y : a → b → c → d → e → f → g → i → j → k → G) : G :=
  y h.1 h.2.1 h.2.2.1 h.2.2.2.1 h.2.2.2.2.1 h.2.2.2.2.2.1 h.2.2.2.2.2.2.1 h.2.2.2.2.2.2.2.1 h.2.2.2.2.2.2.2.2.1 h.2.2.2.2.2.2.2.2.2
end Mine
end PartLoops

/- part Comps -/
section PartComps
open PySem PySem.W PyProof.Rows
set_option maxRecDepth 100000
namespace Mine
open PySem PySem.Calls PySem.Spec PySem.W PyProof.Rows
section
variable {prog : Program} {w : World} {A : Around} {E : Value → Shared → Prop} {s : Shared} {env : Env} {h₀ : Heap} {L : Addr}
abbrev CompTests (prog : Program) (w : World) (A : Around) (scope : Scope) (cl : List (Str × Addr)) (env : Env) (x : Str) (ifs : List Expr) (p : Value → Bool) (vs : List Value) (h₁ : Heap) : Prop :=
  ∀ (C : Addr) (v : Value) (s₂ : Shared) (m₂ : Str → Option Value) (E' : Value → Shared → Prop), v ∈ vs → s₂.heap.Ns (compEnvC scope cl C env).locals m₂ → m₂ x = some v → (∀ b o, h₁.get? b = some o → s₂.heap.get? b = some o) →
    wpAny (model prog w) A (forIn ifs true fun c r => if r = true then do let ok ← isTrue c (compEnvC scope cl C env) (eval c (compEnvC scope cl C env)); pure (ForInStep.yield ok) else pure (ForInStep.yield r))
      (fun ok s₃ => Hold (ok = p v ∧ Keeps s₂ s₃)) E' s₂
abbrev CompElts (prog : Program) (w : World) (A : Around) (scope : Scope) (cl : List (Str × Addr)) (env : Env) (x : Str) (elt : Expr) (p : Value → Bool) (G : Value → Value → Prop) (vs : List Value) (h₁ : Heap) : Prop :=
  ∀ (C : Addr) (v : Value) (s₂ : Shared) (m₂ : Str → Option Value) (E' : Value → Shared → Prop), v ∈ vs → p v = true → s₂.heap.Ns (compEnvC scope cl C env).locals m₂ → m₂ x = some v → (∀ b o, h₁.get? b = some o → s₂.heap.get? b = some o) →
    wpAny (model prog w) A (eval elt (compEnvC scope cl C env)) (fun y s₃ => Hold (G v y ∧ Keeps s₂ s₃)) E' s₂

theorem comp_L {elt iter : Expr} {x : Str} {px : Pos} {ifs : List Expr} {scope : Scope} {cl : List (Str × Addr)} {pos : Pos} {Q : Value → Shared → Prop} {m0 : Str → Option Value} (p : Value → Bool) (G : Value → Value → Prop) (_F : Fr h₀ L s.heap m0)
    (hh : A.handled = none) (hclos : closureFor scope env = pure cl) (hcell : ∀ y ∈ scope.names, y.2 ≠ .cell) (hkind : scope.kind = .function)
    (hnames : ∀ y ∈ scope.names, y.2 = .local → scope.names.lookup y.1 = some .local) (hx : scope.names.lookup x = some .local)
    (h : wpAny (model prog w) A (eval iter env) (fun xv s₁ => Hold (∃ l vs n m news, xv = .ref l ∧ Fr h₀ L s₁.heap m ∧ News h₀ L s₁.heap news ∧ (l, listOf vs.toArray n) ∈ news ∧ vs.length ≤ 1000 ∧
      CompTests prog w A scope cl env x ifs p vs s₁.heap ∧ CompElts prog w A scope cl env x elt p G vs s₁.heap ∧
      (∀ D (ys : List Value) k h' tk, Fr h₀ L h' m → News h₀ L h' ((D, listOf ys.toArray k) :: news) → (∀ q ∈ news, q.1 ≠ D) → Paired G (vs.filter p) ys → Q (.ref D) { s₁ with heap := h', toks := tk }))) E s)
    (hs : ∀ x, foldedSetIterable iter env x = pure x) :
    wpAny (model prog w) A (eval (.ListComp elt [⟨.Name x px, iter, ifs, 0⟩] scope pos) env) Q E s := by
  refine wpAny_ListComp_free p G hclos hcell hkind hnames hx (wpAny_mono h (fun xv s₁ h₁ => ?_) fun _ _ e => e) hs
  obtain ⟨l, vs, n, m, news, rfl, F, N, hm, hsz, htests, helt, hQ⟩ := h₁
  have hlo := (N _ hm).1
  have hl : s₁.heap.IsList l vs.toArray := ⟨_, hlo, rfl, n, rfl⟩
  have hlt : l < s₁.heap.objs.size := Heap.lt_size hlo
  have up : ∀ (s₃ : Shared), (∀ b o, b ∉ [s₁.heap.objs.size] → (s₁.heap.push { cls := .type "list_iterator", data := .fields #[.ref l, .int 0 0] }).get? b = some o → s₃.heap.get? b = some o) → ∀ b o, s₁.heap.get? b = some o → s₃.heap.get? b = some o :=
    fun s₃ hk b o e => hk b o (fun hm => by rcases List.mem_cons.mp hm with rfl | hm; exact Nat.lt_irrefl _ (Heap.lt_size e); cases hm) (Heap.get?_push_of_some _ e)
  refine wpAny_pyIter_list hl ⟨s₁.heap.objs.size, [s₁.heap.objs.size, l], [s₁.heap.objs.size], vs.toArray.size, _, _, rfl, Walks.list hh _ _ (Nat.ne_of_lt hlt) vs.toArray, (by rw [List.size_toArray, sizeLine_eq]; omega), ⟨⟨_, Heap.get?_push_size _ rfl, rfl, rfl⟩, hl.push _⟩, ?_, ⟨?_, ?_⟩, ?_⟩
  · intro b hb
    show b < (s₁.heap.push _).objs.size
    rw [Heap.size_push]
    rcases List.mem_cons.mp hb with rfl | hb
    · exact Nat.lt_succ_self _
    · rcases List.mem_cons.mp hb with rfl | hb
      · exact Nat.lt_succ_of_lt hlt
      · cases hb
  · intro C i v s₃ m₃ E' hC hP hn hm hk _
    exact htests C v s₃ m₃ E' (by simpa using Array.mem_of_getElem? hP) hn hm (up s₃ hk)
  · intro C i v s₃ m₃ E' hC hP hp hn hm hk _
    exact helt C v s₃ m₃ E' (by simpa using Array.mem_of_getElem? hP) hp hn hm (up s₃ hk)
  · intro D h' tk ys vs' hnew hlD hplD hlen hP hF hk
    have e : vs' = vs := by simpa using list_of_places hlen hP
    subst e
    have keep : ∀ b o, s₁.heap.get? b = some o → h'.get? b = some o := up { s₁ with heap := h' } hk
    have hD0 : ∀ b o, s₁.heap.get? b = some o → b ≠ D := fun b o e q => by rw [← q, Heap.get?_push_of_some _ e] at hnew; cases hnew
    obtain ⟨k, hk2⟩ := hplD
    refine hQ D ys.toList k h' tk (F.keeps keep) ?_ (fun q hq => hD0 _ _ (N q hq).1) hF
    intro q hq
    rcases List.mem_cons.mp hq with rfl | hq
    · refine ⟨by rw [Array.toArray_toList]; exact hk2, ?_, ?_⟩
      · obtain ⟨oL, _, _, ho, _⟩ := F.ns
        exact fun e => hD0 _ _ ho e.symm
      · cases e : h₀.get? D with
        | none => rfl
        | some o' => exact absurd rfl (hD0 _ _ (F.keep _ _ e))
    · exact N.grown keep q hq

theorem comp_LA {elt iter : Expr} {x y : Str} {px py : Pos} {ifs : List Expr} {scope : Scope} {cl : List (Str × Addr)} {pos spos : Pos} {Q : Flow → Shared → Prop} {m0 : Str → Option Value} (p : Value → Bool) (G : Value → Value → Prop) (_F : Fr h₀ L s.heap m0)
    (hsw : swapsWith (.ListComp elt [⟨.Name x px, iter, ifs, 0⟩] scope pos) (some (.Name y py)) spos.line env = pure true) (hL : env.locals = L)
    (hh : A.handled = none) (hclos : closureFor scope env = pure cl) (hcell : ∀ z ∈ scope.names, z.2 ≠ .cell) (hkind : scope.kind = .function)
    (hnames : ∀ z ∈ scope.names, z.2 = .local → scope.names.lookup z.1 = some .local) (hx : scope.names.lookup x = some .local)
    (hy : env.kindOf y = some .local) (hp : (env.scope.kind == .class || (env.scope.kind == .module && env.locals != env.globals)) = false)
    (h : wpAny (model prog w) A (eval iter env) (fun xv s₁ => Hold (∃ l vs n m news, xv = .ref l ∧ Fr h₀ L s₁.heap m ∧ News h₀ L s₁.heap news ∧ (l, listOf vs.toArray n) ∈ news ∧ vs.length ≤ 1000 ∧
      CompTests prog w A scope cl env x ifs p vs s₁.heap ∧ CompElts prog w A scope cl env x elt p G vs s₁.heap ∧
      (∀ D (ys : List Value) k h' tk, Fr h₀ L h' (fun z => if z = y then some (.ref D) else m z) → News h₀ L h' ((D, listOf ys.toArray k) :: news) → (∀ q ∈ news, q.1 ≠ D) → Paired G (vs.filter p) ys → Q .next { s₁ with heap := h', toks := tk }))) E s)
    (hs : ∀ x, foldedSetIterable iter env x = pure x) :
    wpAny (model prog w) A (exec (.Assign [.Name y py] (.ListComp elt [⟨.Name x px, iter, ifs, 0⟩] scope pos) spos) env) Q E s := by
  subst hL
  refine wpAny_Assign_ListComp_free p G hsw hclos hcell hkind hnames hx hy hp (wpAny_mono h (fun xv s₁ h₁ => ?_) fun _ _ e => e) hs
  obtain ⟨l, vs, n, m, news, rfl, F, N, hm, hsz, htests, helt, hQ⟩ := h₁
  have hlo := (N _ hm).1
  have hl : s₁.heap.IsList l vs.toArray := ⟨_, hlo, rfl, n, rfl⟩
  have hlt : l < s₁.heap.objs.size := Heap.lt_size hlo
  have up : ∀ (s₃ : Shared), (∀ b o, b ∉ [s₁.heap.objs.size] → (s₁.heap.push { cls := .type "list_iterator", data := .fields #[.ref l, .int 0 0] }).get? b = some o → s₃.heap.get? b = some o) → ∀ b o, s₁.heap.get? b = some o → s₃.heap.get? b = some o :=
    fun s₃ hk b o e => hk b o (fun hm => by rcases List.mem_cons.mp hm with rfl | hm; exact Nat.lt_irrefl _ (Heap.lt_size e); cases hm) (Heap.get?_push_of_some _ e)
  refine wpAny_pyIter_list hl ⟨s₁.heap.objs.size, [s₁.heap.objs.size, l], [s₁.heap.objs.size], vs.toArray.size, _, _, m, rfl, Walks.list hh _ _ (Nat.ne_of_lt hlt) vs.toArray, (by rw [List.size_toArray, sizeLine_eq]; omega), ⟨⟨_, Heap.get?_push_size _ rfl, rfl, rfl⟩, hl.push _⟩, ?_, ?_, F.ns.push _, ⟨?_, ?_⟩, ?_⟩
  · intro b hb
    show b < (s₁.heap.push _).objs.size
    rw [Heap.size_push]
    rcases List.mem_cons.mp hb with rfl | hb
    · exact Nat.lt_succ_self _
    · rcases List.mem_cons.mp hb with rfl | hb
      · exact Nat.lt_succ_of_lt hlt
      · cases hb
  · intro hm
    rcases List.mem_cons.mp hm with e | hm
    · exact Nat.lt_irrefl _ (e ▸ F.ns.lt)
    · cases hm
  · intro C i v s₃ m₃ E' hC hP hn hm hk _
    exact htests C v s₃ m₃ E' (by simpa using Array.mem_of_getElem? hP) hn hm (up s₃ hk)
  · intro C i v s₃ m₃ E' hC hP hp hn hm hk _
    exact helt C v s₃ m₃ E' (by simpa using Array.mem_of_getElem? hP) hp hn hm (up s₃ hk)
  · intro D h' tk ys vs' hnew hlD hplD hlen hP hF hn' hk
    have e : vs' = vs := by simpa using list_of_places hlen hP
    subst e
    have keep : ∀ b o, b ≠ env.locals → s₁.heap.get? b = some o → h'.get? b = some o := fun b o hb e =>
      hk b o hb (fun hm => by rcases List.mem_cons.mp hm with rfl | hm; exact Nat.lt_irrefl _ (Heap.lt_size e); cases hm) (Heap.get?_push_of_some _ e)
    have hD0 : ∀ b o, s₁.heap.get? b = some o → b ≠ D := fun b o e q => by rw [← q, Heap.get?_push_of_some _ e] at hnew; cases hnew
    obtain ⟨k, hk2⟩ := hplD
    refine hQ D ys.toList k h' tk ⟨hn', fun b o e => keep b o (Nat.ne_of_lt (Nat.lt_of_lt_of_le (Heap.lt_size e) F.above)) (F.keep b o e), F.above⟩ ?_ (fun q hq => hD0 _ _ (N q hq).1) hF
    intro q hq
    rcases List.mem_cons.mp hq with rfl | hq
    · refine ⟨by rw [Array.toArray_toList]; exact hk2, ?_, ?_⟩
      · obtain ⟨oL, _, _, ho, _⟩ := F.ns
        exact fun e => hD0 _ _ ho e.symm
      · cases e : h₀.get? D with
        | none => rfl
        | some o' => exact absurd rfl (hD0 _ _ (F.keep _ _ e))
    · exact ⟨keep _ _ (N q hq).2.1 (N q hq).1, (N q hq).2⟩
end
theorem compI {h₀ : Heap} {L : Addr} {h : Heap} {T El : List Value → Prop} {K : List Value → (Str → Option Value) → List (Addr × Obj) → Prop} {l : Addr} {vs : List Value} {n : Nat} {m : Str → Option Value} {news : List (Addr × Obj)}
    (F : Fr h₀ L h m) (N : News h₀ L h news) (hm : (l, listOf vs.toArray n) ∈ news) (hl : vs.length ≤ 1000) (ht : T vs) (he : El vs) (hk : K vs m news) :
    ∃ l' vs n m news, Value.ref l = .ref l' ∧ Fr h₀ L h m ∧ News h₀ L h news ∧ (l', listOf vs.toArray n) ∈ news ∧ vs.length ≤ 1000 ∧ T vs ∧ El vs ∧ K vs m news :=
  ⟨l, vs, n, m, news, rfl, F, N, hm, hl, ht, he, hk⟩
end Mine
end PartComps

/- part Regex2 -/
section PartRegex2
open PySem PySem.W PyProof.Rows
set_option maxRecDepth 100000
namespace Mine
open PySem PySem.Calls PySem.Spec PySem.W PyProof.Rows PySem.Builtin PySem.Builtin.Re
section
variable {prog : Program} {w : World} {A : Around} {E : Value → Shared → Prop} {s : Shared} {K : Frag} {h₀ : Heap} {L : Addr} {m : Str → Option Value}
theorem getMethod_searchK {a : Addr} {dat : Data} {sl : Array (Option Value)} {pl : Sem Bool} {Q : Value × List Value → Shared → Prop} (F : Fr h₀ L s.heap m) (X : K.In h₀) (hl : K.lookup a = some ⟨.type "re.Pattern", none, dat, sl⟩)
    (h : Q (.builtin "re.Pattern.search", [.ref a]) s) : wpAny (model prog w) A (getMethod (.ref a) "search" pl) Q E s :=
  getMethod_search (F.keep _ _ (X _ _ hl)) rfl rfl h
theorem call_searchK {a c : Addr} {vs items : Array Value} {n : Nat} {sl sl2 : Array (Option Value)} {x : Str} {t : Tok} {code : Array Nat} {Q : Value → Shared → Prop} (F : Fr h₀ L s.heap m) (X : K.In h₀)
    (hl : K.lookup a = some ⟨.type "re.Pattern", none, .fields vs, sl⟩) (h5 : vs.getD 5 .none = .ref c) (hlc : K.lookup c = some ⟨.type "tuple", none, .seq items n, sl2⟩)
    (h6 : reRawNat (vs.getD 6 .none) = 0) (h2 : reRawNat (vs.getD 2 .none) = 0) (hcode : (items.map reRawOf).map (·.toNat) = code)
    (hf : ((match (Sre.ops[code.getD 0 0]? : Option Sre.Op) with | some .INFO => true | _ => false) && code.getD 2 0 == 4) = true)
    (hx : x.length ≤ 4096) (h : ∀ i, i < x.cps.size → SetOff code (x.cps.getD i 0)) (hq : Q .none s) : wpAny (model prog w) A (call (.builtin "re.Pattern.search") [.ref a, .str x t]) Q E s := by
  subst hcode
  have hx2 : x.cps.size ≤ 4096 := hx
  exact call_search (F.keep _ _ (X _ _ hl)) rfl rfl h6 h2 h5 (F.keep _ _ (X _ _ hlc)) rfl hf (by omega) h hq
end
def okS (x : Str) : Prop := x.length ≤ 4096 ∧ ∀ i, i < x.cps.size → okc (x.cps.getD i 0) = true
end Mine
end PartRegex2

/- part Strs -/
section PartStrs
open PySem PySem.W PyProof.Rows
set_option maxRecDepth 100000
namespace Mine
section
variable {prog : Program} {w : World} {A : Around} {E : Value → Shared → Prop} {s : Shared} {h₀ : Heap} {L : Addr} {m : Str → Option Value} {news : List (Addr × Obj)}
theorem join_N {D : Addr} {vs : List Value} {n : Nat} {ys : List Str} {x : Str} {t : Tok} {Q : Value → Shared → Prop} (N : News h₀ L s.heap news) (hm : (D, listOf vs.toArray n) ∈ news) (hi : StrsAre vs ys)
    (hsep : x.length ≤ 16) (hw : (ys.map (·.length)).sum + ys.length ≤ 1048576) (h : ∀ t' k, Q (.str (Txt.join x ys) t') { s with toks := k }) : wpAny (model prog w) A (call (.builtin "str.join") [.str x t, .ref D]) Q E s :=
  join_listW (News.isList N hm) (by simpa using hi) hsep hw h
theorem txt_join_one (x y : Str) : Txt.join x [y] = y := rfl
theorem join_one {D : Addr} {y : Str} {u : Tok} {n : Nat} {x : Str} {t : Tok} {Q : Value → Shared → Prop} (N : News h₀ L s.heap news) (hm : (D, listOf [Value.str y u].toArray n) ∈ news)
    (hsep : x.length ≤ 16) (hy : y.length ≤ 4096) (h : ∀ t' k, Q (.str y t') { s with toks := k }) : wpAny (model prog w) A (call (.builtin "str.join") [.str x t, .ref D]) Q E s := by
  refine join_N N hm (ys := [y]) ?_ hsep (by simp only [List.map_cons, List.map_nil, List.sum_cons, List.sum_nil, List.length_cons, List.length_nil]; omega) ?_
  · exact StrsAre.cons _ _ StrsAre.nil
  · rw [txt_join_one]; exact h
end
end Mine
end PartStrs

/- part Fmt -/
section PartFmt
open PySem PySem.W PyProof.Rows
set_option maxRecDepth 100000
set_option maxHeartbeats 4000000
namespace Mine
open PySem.Builtin PySem.Calls
local macro_rules | `(tactic| kpt_piece) => `(tactic| first | (refine KPc.after_str0 (by kpc_g) (by kpt_len) (by kpc_obj) ?_; intro _ _) | (refine KPc.after_str (by kpc_g) (by kpt_len) (by kpc_obj) ?_; intro _ _))
theorem fmt_meets (b : Addr) (k v : Str) (t u tk : Tok) (hk : k.length ≤ 4096) (hv : v.length ≤ 4096) : ∃ T, T = k ++ (⟨#[58, 32]⟩ : Str) ++ v ∧
    Meets («str.__mod__» ⟨[.str ⟨#[37, 115, 58, 32, 37, 115]⟩ tk, .ref b], []⟩) (fun _ R s => IsTup s.heap b #[.str k t, .str v u] ∧ ∀ t' k', R (.ok (.ret (.str T t'))) { s with toks := k' }) := by
  have hk2 : k.length ≤ 1000000 := by omega
  have hv2 : v.length ≤ 1000000 := by omega
  refine ⟨?T, ?e, ?m⟩
  case m =>
    kpt_run
  case e => rfl
end Mine
end PartFmt

/- part Seqs -/
section PartSeqs
open PySem PySem.W PyProof.Rows
set_option maxRecDepth 100000
namespace Mine
open PySem PySem.Calls PySem.Spec PySem.W PyProof.Rows
section
variable {prog : Program} {w : World} {A : Around} {E : Value → Shared → Prop} {s : Shared} {env : Env} {h₀ : Heap} {L : Addr} {m : Str → Option Value} {news : List (Addr × Obj)}
theorem name_comp {scope : Scope} {cl : List (Str × Addr)} {C : Addr} {env : Env} {m₂ : Str → Option Value} {x : Str} {pos : Pos} {v : Value} {Q : Value → Shared → Prop}
    (hn : s.heap.Ns (compEnvC scope cl C env).locals m₂) (hv : m₂ x = some v) (h : Q v s) (hk : scope.kind = .function := by rfl) (hl : (compEnvC scope cl C env).kindOf x = some .local := by rfl) (hd : (x == ("__debug__" : Str)) = false := by decide) :
    wpAny (model prog w) A (eval (.Name x pos) (compEnvC scope cl C env)) Q E s := wpAny_Name (wpAny_loadName_local hk hl hn hv h) hd
theorem add_LL {a b : Addr} {vs ws : List Value} {k1 k2 : Nat} {Q : Value → Shared → Prop} (F : Fr h₀ L s.heap m) (N : News h₀ L s.heap news) (ha : (a, listOf vs.toArray k1) ∈ news) (hb : (b, listOf ws.toArray k2) ∈ news) (hz : vs.length + ws.length ≤ 1000)
    (h : ∀ D h', Fr h₀ L h' m → News h₀ L h' ((D, listOf (vs ++ ws).toArray 0) :: news) → (∀ p ∈ news, p.1 < D) → Q (.ref D) { s with heap := h' }) : wpAny (model prog w) A (binaryOp .Add (.ref a) (.ref b)) Q E s :=
  add_lists F N (N.isList ha) (N.isList hb) (fun h' F' N' => h _ h' F' N' fun p hp => Heap.lt_size (N p hp).1) (by rw [sizeLine_eq]; omega)
theorem mul_L1 {a : Addr} {v : Value} {k1 : Nat} {x : Int} {u : Tok} {Q : Value → Shared → Prop} (F : Fr h₀ L s.heap m) (N : News h₀ L s.heap news) (ha : (a, listOf [v].toArray k1) ∈ news) (h0 : 0 ≤ x) (h1 : x ≤ 64)
    (h : ∀ D h', Fr h₀ L h' m → News h₀ L h' ((D, listOf (List.replicate x.toNat v).toArray 0) :: news) → (∀ p ∈ news, p.1 < D) → Q (.ref D) { s with heap := h' }) : wpAny (model prog w) A (binaryOp .Mult (.ref a) (.int x u)) Q E s :=
  KMa.mul F N (N.isList ha) (by omega) (by omega) (by simp only [List.length_cons, List.length_nil]; omega) (by simp) h
/-- '%s: %s' % kv, of a pair of texts -/
theorem mod_pair {b : Addr} {k v : Str} {t u tk : Tok} {n : Nat} {Q : Value → Shared → Prop} (hb : s.heap.get? b = some { cls := .type "tuple", data := .seq [Value.str k t, Value.str v u].toArray n }) (hk : k.length ≤ 4096) (hv : v.length ≤ 4096)
    (h : ∀ t' k', Q (.str (k ++ (⟨#[58, 32]⟩ : Str) ++ v) t') { s with toks := k' }) : wpAny (model prog w) A (binaryOp .Mod (.str (Str.ofString "%s: %s") tk) (.ref b)) Q E s := by
  have e : (Str.ofString "%s: %s") = ⟨#[37, 115, 58, 32, 37, 115]⟩ := by decide +kernel
  rw [e]
  obtain ⟨T, rfl, hm⟩ := fmt_meets b k v t u tk hk hv
  have hT : s.TypeIs (.ref b) "tuple" := ⟨_, hb, rfl⟩
  have ht : IsTup s.heap b #[.str k t, .str v u] := ⟨_, hb, rfl, n, rfl⟩
  exact KPt.bin_left (T := "str") (U := "tuple") (op := .Mod) (by decide) (typeIs_str s _ tk) hT F.fills_str_mod KPt.fills_tuple F.slot_str_mod
    (call_meets F.slot_str_mod (typeIs_str s _ tk) F.entry_str_mod (F.args_str_mod_2 _ _) hm ⟨ht, fun t' k => ⟨(fun e => nomatch e), h t' k⟩⟩)
theorem comp_test1 {c : Expr} {cenv : Env} {R : Bool → Shared → Prop} (h : wpAny (model prog w) A (isTrue c cenv (eval c cenv)) R E s) :
    wpAny (model prog w) A (forIn [c] true fun c r => if r = true then do let ok ← isTrue c cenv (eval c cenv); pure (ForInStep.yield ok) else pure (ForInStep.yield r)) R E s := by
  rw [List.forIn_cons]
  refine wpAny_bind ?_
  rw [if_pos rfl]
  refine wpAny_bind (wpAny_mono h (fun ok s₃ hR => ?_) fun _ _ e => e)
  exact wpAny_pure (wpAny_pure hR)
theorem ne_above {L : Nat} {im : List (Addr × Obj)} (h : AllLt L im) : ∀ p ∈ im, @Ne Nat p.1 (L + 1) := fun p hp =>
  Nat.ne_of_lt (Nat.lt_succ_of_lt (ktn_ltOf h p hp))
end
end Mine
end PartSeqs

/- part SetAll -/
section PartSetAll
open PySem PySem.W PyProof.Rows
set_option maxRecDepth 100000
namespace Mine
open PySem PySem.Calls PySem.Spec PySem.W PyProof.Rows PySem.Builtin PySem.Builtin.List
section
variable {prog : Program} {w : World} {A : Around} {E : Value → Shared → Prop} {s : Shared}
theorem mapSeq_is (f : Array Value → Array Value) {its : Array Value} {n : Nat} : ∃ k, Obj.mapSeq f { cls := .type "list", data := .seq its n } = { cls := .type "list", data := .seq (f its) k } := ⟨_, rfl⟩
/-- self[:] = another list -/
theorem setItem_all {l S D : Addr} {xs ys : Array Value} {n : Nat} {Q : Unit → Shared → Prop} (hl : s.heap.get? l = some { cls := .type "list", data := .seq xs n }) (hS : s.heap.IsSliceOf S .none .none .none)
    (hD : s.heap.IsList D ys) (hne : l ≠ D) (hx : xs.size ≤ 1000) (hy : ys.size ≤ 1000)
    (h : ∀ h' k, Heap.SameBut l s.heap h' → h'.get? l = some { cls := .type "list", data := .seq ys k } → Q () { s with heap := h' }) :
    wpAny (model prog w) A (setItem (.ref l) (.ref S) (.ref D)) Q E s := by
  have hlT : s.TypeIs (.ref l) "list" := ⟨_, hl, rfl⟩
  have hDT : s.TypeIs (.ref D) "list" := by obtain ⟨o, ho, hc, _⟩ := hD; exact ⟨o, ho, hc⟩
  obtain ⟨oD, hoD, _, nD, hdD⟩ := hD
  obtain ⟨oS, hoS, hcS, hdS⟩ := hS
  have hST : s.TypeIs (.ref S) "slice" := ⟨_, hoS, hcS⟩
  unfold setItem
  try with_reducible refine wpAny_holding ?_
  first | refine wpAny_bind (wpAny_pure ?_) | skip
  refine wpAny_bind (wpAny_sequenceKey hlT (by decide) ?_)
  refine wpAny_bind (wpAny_callSpecial?_slot (name := Str.ofString "__setitem__") hlT slot_list_setitem
    (wpAny_call_entry slot_list_setitem hlT entry_list_setitem ?_ (args_list_setitem _ _ _)))
  show wpAny _ _ (listSubscript? (.ref S) >>= _) _ _ s
  unfold listSubscript?
  refine wpAny_bind (wpAny_bind (wpAny_specialOf hST slice_no_index ?_))
  simp only [Option.isNone_none, if_true]
  refine wpAny_pure ?_
  refine wpAny_bind (wpAny_typeOf hST ?_)
  simp only [bne_self_eq_false, Bool.false_eq_true, if_false]
  rw [listSliceParts_eq]
  refine wpAny_bind (wpAny_bind (wpAny_field hoS hdS (x := .none) rfl (wpAny_bind (wpAny_listPart .none ?_))))
  rw [if_neg (show ¬ ((rawPart none == rawInt 0) = true) from Bool.false_ne_true)]
  refine wpAny_bind (wpAny_field hoS hdS (x := .none) rfl (wpAny_bind (wpAny_listPart .none ?_)))
  refine wpAny_bind (wpAny_field hoS hdS (x := .none) rfl (wpAny_bind (wpAny_listPart .none (wpAny_pure ?_))))
  have hsame : listSameRef (.ref l) (.ref D) = false := by simp [listSameRef, hne]
  dsimp only
  rw [hsame]
  simp only [Bool.false_eq_true, if_false]
  refine wpAny_bind ?_
  unfold listAllItems
  refine wpAny_bind (wpAny_typeOf hDT ?_)
  simp only [beq_self_eq_true, Bool.true_or, if_true]
  refine wpAny_listItems hoD hdD (wpAny_bind (wpAny_listItems hl rfl ?_))
  have hsi := sliceIndices_raw none none none xs.size (by simp)
  rw [hsi]
  refine wpAny_bind (wpAny_pure ?_)
  simp only [sliceBounds, Option.getD_none]
  refine wpAny_bind (wpAny_rule ?_)
  have hlong : listTooLong (xs.size + ys.size) = false := by
    unfold listTooLong
    rw [sizeLine_eq]
    exact decide_eq_false (by omega)
  rw [hlong]
  simp only [Bool.false_eq_true, if_false]
  have ef : xs.extract 0 (if (1 : Int) > 0 then 0 else (xs.size : Int) - 1).toNat ++ ys ++ xs.extract (Max.max (if (1 : Int) > 0 then (0 : Int) else (xs.size : Int) - 1) (if (1 : Int) > 0 then (xs.size : Int) else -1)).toNat = ys := by
    simp
  refine wpAny_bind ?_
  show wpAny _ _ (updateSeq l _) _ _ s
  refine wpAny_updateSeq hl rfl ?_ (by rw [sizeLine_eq]; omega) ?_
  · refine wpAny_bind (wpAny_letGo ?_)
    refine wpAny_pure ⟨.none, rfl, wpAny_pure ?_⟩
    obtain ⟨k, hk⟩ := mapSeq_is (fun xs_1 => xs_1.extract 0 (if (1 : Int) > 0 then 0 else (xs.size : Int) - 1).toNat ++ ys ++ xs_1.extract (Max.max (if (1 : Int) > 0 then (0 : Int) else (xs.size : Int) - 1) (if (1 : Int) > 0 then (xs.size : Int) else -1)).toNat) (its := xs) (n := n)
    refine h _ k (Heap.SameBut.update ..) ?_
    rw [Heap.get?_update_self _ hl (by rw [hk]; rfl), hk]
    rw [ef]
  · rw [ef, sizeLine_eq]
    omega
variable {h₀ : Heap} {L : Addr} {m : Str → Option Value}
theorem setItem_allS {l D : Addr} {xs ys : List Value} {n j : Nat} {hh : Heap} {rest : List (Addr × Obj)} {Q : Unit → Shared → Prop} (F : Fr h₀ L hh m) (N : News h₀ L hh ((l, listOf xs.toArray n) :: rest)) (hD : (D, listOf ys.toArray j) ∈ rest)
    (off : ∀ p ∈ rest, p.1 ≠ l) (hx : xs.length ≤ 1000) (hy : ys.length ≤ 1000)
    (h : ∀ h'' k, Fr h₀ L h'' m → News h₀ L h'' ((l, listOf ys.toArray k) :: rest) → Q () { s with heap := h'' }) :
    wpAny (model prog w) A (setItem (.ref l) (.ref hh.objs.size) (.ref D)) Q E { s with heap := hh.push { cls := .type "slice", data := .fields #[.none, .none, .none] } } := by
  have F' := F.push { cls := .type "slice", data := .fields #[.none, .none, .none] }
  have N' : News h₀ L (hh.push { cls := .type "slice", data := .fields #[.none, .none, .none] }) ((l, listOf xs.toArray n) :: rest) := fun p hp => News.push F N { cls := .type "slice", data := .fields #[.none, .none, .none] } rfl p (.tail _ hp)
  have hl := N' _ (.head _)
  refine setItem_all (s := { s with heap := hh.push { cls := .type "slice", data := .fields #[.none, .none, .none] } }) hl.1 ⟨_, Heap.get?_push_size _ rfl, rfl, rfl⟩ (News.isList N' (.tail _ hD)) (fun e => off _ hD e.symm) (by simpa using hx) (by simpa using hy) ?_
  intro h' k hs he
  exact h h' k (F'.change hs hl.2.1 hl.2.2) (N'.setHead off hs he)
end
end Mine
end PartSetAll

/- part Base -/
section PartBase
open PySem PySem.W PyProof.Rows
set_option maxRecDepth 100000
namespace Mine
abbrev P0 : Program := PySem.Challenge.rw_pg0256_01.row.prog
/-- what a call of a def of the text's asks and gives back: `Ret h₀ L m news s Q` says when Q holds -/
abbrev CallC (w : World) (p : Program) (loose : List Str) (mean : ExcName → Option Value) (mg mb : Str → Option Value) (f : Addr) (vs : List Value) (news : List (Addr × Obj)) (dd du : Nat)
    (Ret : Heap → Addr → (Str → Option Value) → Shared → (Value → Shared → Prop) → Prop) : Prop :=
  ∀ (dp un : Nat) (gd : Option (List Code)) (cn : Str) (cs : Scope) (a : Addr) (ccd : Value) (cl : List (Str × Addr)) (outer : List Env) (A₀ : Around) (base h₀ : Heap) (L : Addr) (m : Str → Option Value) (s : Shared) (Q E : Value → Shared → Prop),
    Below A₀ base outer h₀ → Fr h₀ L s.heap m → (hd.heap_39 w.params).In h₀ → News h₀ L s.heap news → Top p loose mean mg mb h₀ → cs.kind = .function → dp + dd < recursionLimit → un + du < cLine →
    Ret h₀ L m s Q →
    wpAny (model P0 w) (ktrTop dp un gd cn cs L a ccd cl outer) (call (.ref f) vs) Q E s
abbrev RetTo (news : List (Addr × Obj)) (Post : Value → Prop) (h₀ : Heap) (L : Addr) (m : Str → Option Value) (s : Shared) (Q : Value → Shared → Prop) : Prop :=
  ∀ r h' tk', Fr h₀ L h' m → News h₀ L h' news → Post r → Q r { s with heap := h', toks := tk' }
end Mine
end PartBase

/- part PI -/
section PartPI
open PySem PySem.W PyProof.Rows
set_option maxRecDepth 100000
namespace Mine
theorem and_high (y k : Nat) : y &&& (y / 2 ^ k * 2 ^ k) = y / 2 ^ k * 2 ^ k := by
  have e : y / 2 ^ k * 2 ^ k = (y >>> k) <<< k := by rw [Nat.shiftLeft_eq, Nat.shiftRight_eq_div_pow]
  rw [e]
  apply Nat.eq_of_testBit_eq
  intro i
  rw [Nat.testBit_and, Nat.testBit_shiftLeft, Nat.testBit_shiftRight]
  by_cases h : k ≤ i
  · have : k + (i - k) = i := by omega
    rw [this]
    simp [h]
  · simp [h]
theorem fdiv_pow (y k : Nat) : Int.fdiv (y : Int) (2 ^ k) = ((y / 2 ^ k : Nat) : Int) := by
  rw [Int.fdiv_eq_ediv_of_nonneg _ (by have : (0 : Int) < 2 ^ k := Int.pow_pos (by decide); omega)]
  push_cast
  rfl
theorem xor_low (y k : Nat) : Builtin.bitXor (y : Int) (Int.fdiv (y : Int) (2 ^ k) * 2 ^ k) = ((y % 2 ^ k : Nat) : Int) := by
  rw [fdiv_pow]
  have e : ((y / 2 ^ k : Nat) : Int) * 2 ^ k = ((y / 2 ^ k * 2 ^ k : Nat) : Int) := by push_cast; rfl
  rw [e, bitXor_and, bitAnd_pp (Int.natCast_nonneg _) (Int.natCast_nonneg _), Int.toNat_natCast, Int.toNat_natCast, and_high]
  have := Nat.div_add_mod y (2 ^ k)
  have h2 : y / 2 ^ k * 2 ^ k + y % 2 ^ k = y := by rw [Nat.mul_comm]; exact this
  omega
theorem mid_eq (a b : Nat) : Int.fdiv ((a : Int) + b) (2 ^ Int.toNat 1) = (((a + b) / 2 : Nat) : Int) := by
  have := fdiv_pow (a + b) 1
  simpa using this
theorem shift_eq (a b n : Nat) (h : a ≤ b) : (((b : Int) - a) * n).toNat = (b - a) * n := by
  have e : ((b : Int) - a) * n = (((b - a) * n : Nat) : Int) := by
    rw [← Int.ofNat_sub h]
    push_cast
    rfl
  rw [e, Int.toNat_natCast]
def dig (n y j len : Nat) : Nat := if j + 1 = len then y >>> (n * j) else (y >>> (n * j)) % 2 ^ n
theorem mod_shift (y a b : Nat) : (y % 2 ^ (a + b)) >>> a = (y >>> a) % 2 ^ b := by
  rw [Nat.shiftRight_eq_div_pow, Nat.shiftRight_eq_div_pow, Nat.pow_add, Nat.mod_mul_right_div_self]
theorem dig_low {n y a b c i : Nat} (h1 : a ≤ i) (h2 : i < b) (h3 : b < c) : dig n (y % 2 ^ ((b - a) * n)) (i - a) (b - a) = dig n y (i - a) (c - a) := by
  unfold dig
  rw [if_neg (show ¬ (i - a + 1 = c - a) by omega)]
  by_cases h : i - a + 1 = b - a
  · rw [if_pos h, ← h]
    have e : (i - a + 1) * n = n * (i - a) + n := by rw [Nat.add_mul, Nat.one_mul, Nat.mul_comm]
    rw [e, mod_shift]
  · rw [if_neg h]
    obtain ⟨k, hk⟩ : ∃ k, b - a = (i - a) + 1 + k := ⟨b - a - (i - a) - 1, by omega⟩
    have e : (b - a) * n = n * (i - a) + (n + n * k) := by rw [hk, Nat.add_mul, Nat.add_mul, Nat.one_mul, Nat.mul_comm (i - a), Nat.mul_comm k]; omega
    rw [e, mod_shift, Nat.pow_add, Nat.mod_mul_right_mod]
theorem dig_high {n y a b c i : Nat} (h0 : a ≤ b) (h1 : b ≤ i) (h2 : i < c) : dig n (y / 2 ^ ((b - a) * n)) (i - b) (c - b) = dig n y (i - a) (c - a) := by
  have e : (y / 2 ^ ((b - a) * n)) >>> (n * (i - b)) = y >>> (n * (i - a)) := by
    rw [← Nat.shiftRight_eq_div_pow, ← Nat.shiftRight_add]
    congr 1
    obtain ⟨k, hk⟩ : ∃ k, i - a = (b - a) + k := ⟨i - a - (b - a), by omega⟩
    have hk2 : i - b = k := by omega
    rw [hk, hk2, Nat.mul_add, Nat.mul_comm n (b - a)]
  unfold dig
  rw [e]
  by_cases h : i - b + 1 = c - b
  · rw [if_pos h, if_pos (by omega)]
  · rw [if_neg h, if_neg (by omega)]
theorem bits_fit (y k : Nat) (hy : y < 2 ^ 60) (hk : k ≤ 100) : (Builtin.Int.intBits (y : Int) : Int) + k ≤ 2 ^ 27 := by
  have h : Builtin.Int.intBits (y : Int) ≤ 61 := by
    unfold Builtin.Int.intBits
    split
    · omega
    · rw [Int.natAbs_natCast]
      by_cases h0 : y = 0
      · subst h0; decide
      · have := (Nat.log2_lt h0).mpr hy
        omega
  omega
end Mine
end PartPI

/- part PV -/
section PartPV
open PySem PySem.W PyProof.Rows
set_option maxRecDepth 100000
namespace Mine
def valD (n : Nat) : List Nat → Nat
  | [] => 0
  | a :: r => a + 2 ^ n * valD n r
theorem valD_append (n : Nat) (l r : List Nat) : valD n (l ++ r) = valD n l + 2 ^ (n * l.length) * valD n r := by
  induction l with
  | nil => simp [valD]
  | cons a l ih =>
    have e : n * (a :: l).length = n + n * l.length := by rw [List.length_cons, Nat.mul_add, Nat.mul_one, Nat.add_comm]
    rw [List.cons_append, valD, valD, ih, e, Nat.pow_add, Nat.mul_add, Nat.mul_assoc, Nat.add_assoc]
theorem valD_lt (n : Nat) (l : List Nat) (h : ∀ a ∈ l, a < 2 ^ n) : valD n l < 2 ^ (n * l.length) := by
  induction l with
  | nil => simp [valD]
  | cons a l ih =>
    have e : n * (a :: l).length = n + n * l.length := by rw [List.length_cons, Nat.mul_add, Nat.mul_one, Nat.add_comm]
    have h1 := h a (List.mem_cons_self ..)
    have h2 := ih fun b hb => h b (List.mem_cons_of_mem _ hb)
    rw [valD, e, Nat.pow_add]
    have h3 : valD n l + 1 ≤ 2 ^ (n * l.length) := h2
    have h4 := Nat.mul_le_mul_left (2 ^ n) h3
    rw [Nat.mul_add, Nat.mul_one] at h4
    omega
abbrev seg (l : List Nat) (a b : Nat) : List Nat := (l.drop a).take (b - a)
theorem seg_split (l : List Nat) {a b c : Nat} (h1 : a ≤ b) (h2 : b ≤ c) : seg l a c = seg l a b ++ seg l b c := by
  unfold seg
  have e : c - a = (b - a) + (c - b) := by omega
  rw [e, List.take_add, List.drop_drop]
  have e2 : a + (b - a) = b := by omega
  rw [e2]
theorem seg_len (l : List Nat) {a b : Nat} (h1 : a ≤ b) (h2 : b ≤ l.length) : (seg l a b).length = b - a := by
  unfold seg
  rw [List.length_take, List.length_drop]
  omega
theorem seg_lt (n : Nat) (l : List Nat) {a b : Nat} (h1 : a ≤ b) (h2 : b ≤ l.length) (h : ∀ x ∈ l, x < 2 ^ n) : valD n (seg l a b) < 2 ^ (n * (b - a)) := by
  have := valD_lt n (seg l a b) fun x hx => h x (List.mem_of_mem_drop (List.mem_of_mem_take hx))
  rwa [seg_len l h1 h2] at this
theorem seg_one (n : Nat) (l : List Nat) {a b : Nat} (h : b = a + 1) (h2 : a < l.length) : valD n (seg l a b) = l[a] := by
  subst h
  unfold seg
  have e : a + 1 - a = 1 := by omega
  rw [e, List.drop_eq_getElem_cons h2]
  show valD n [l[a]] = _
  simp [valD]
theorem seg_all (l : List Nat) : seg l 0 l.length = l := by unfold seg; simp
theorem seg_join (n : Nat) (l : List Nat) {a b c : Nat} (h1 : a ≤ b) (h2 : b ≤ c) (h3 : b ≤ l.length) : (valD n (seg l b c) : Int) * 2 ^ ((b - a) * n) + (valD n (seg l a b) : Int) = (valD n (seg l a c) : Int) := by
  have := valD_append n (seg l a b) (seg l b c)
  rw [← seg_split l h1 h2, seg_len l h1 h3, Nat.mul_comm n] at this
  rw [this]
  push_cast
  rw [Int.mul_comm, Int.add_comm]
theorem bits_fit2 (y k j : Nat) (hy : y < 2 ^ j) (hj : j ≤ 100) (hk : k ≤ 100) : (Builtin.Int.intBits (y : Int) : Int) + k ≤ 2 ^ 27 := by
  have h : Builtin.Int.intBits (y : Int) ≤ 101 := by
    unfold Builtin.Int.intBits
    split
    · omega
    · rw [Int.natAbs_natCast]
      by_cases h0 : y = 0
      · subst h0; decide
      · have := (Nat.log2_lt h0).mpr hy
        omega
  omega
end Mine
end PartPV

/- part W1 -/
section PartW1
open PySem PySem.W PyProof.Rows Mine
set_option Elab.async false
set_option maxRecDepth 100000
set_option maxHeartbeats 4000000
namespace Mine
def stripEnd0 (x : Str) : Int := if 0 ≤ Txt.find x (Str.ofString "\n") then Txt.find x (Str.ofString "\n") else (x.length : Int)
def stripEnd (x : Str) : Int := if 0 ≤ find4 x (Str.ofString ":") 0 (stripEnd0 x) then find4 x (Str.ofString ":") 0 (stripEnd0 x) else stripEnd0 x
def stripS (x : Str) : Str :=
  Txt.slice x (some (if 0 ≤ rfind4 x (Str.ofString ".") 0 (stripEnd x) then rfind4 x (Str.ofString ".") 0 (stripEnd x) + 1 else 0)) (some (stripEnd x))
theorem stripEnd0_of {x : Str} {r : Int} (h : 0 ≤ Txt.find x (Str.ofString "\n") ∧ r = Txt.find x (Str.ofString "\n") ∨ ¬0 ≤ Txt.find x (Str.ofString "\n") ∧ r = ↑x.length) : r = stripEnd0 x := by
  unfold stripEnd0
  rcases h with ⟨a, b⟩ | ⟨a, b⟩
  · rw [if_pos a, b]
  · rw [if_neg a, b]
local macro_rules | `(tactic| walk_at "call builtin:str.find") => `(tactic| refine call_find4 ?_)
local macro_rules | `(tactic| walk_at "call builtin:str.rfind") => `(tactic| refine call_rfind4 ?_)
theorem strip_c : ∀ (w : World) (p : Program) (loose : List Str) (mean : ExcName → Option Value) (mg mb : Str → Option Value) (msg : Str) (tk : Tok) (news : List (Addr × Obj)) (hm : msg.length ≤ 4096)
    (dp un : Nat) (gd : Option (List Code)) (cn : Str) (cs : Scope) (a : Addr) (ccd : Value) (cl : List (Str × Addr)) (outer : List Env) (A₀ : Around) (base h₀ : Heap) (L : Addr) (m : Str → Option Value) (s : Shared) (Q E : Value → Shared → Prop)
    (B : Below A₀ base outer h₀) (F : Fr h₀ L s.heap m) (X : (hd.heap_39 w.params).In h₀) (N : News h₀ L s.heap news) (T : Top p loose mean mg mb h₀) (hk : cs.kind = .function) (hdp : dp + 1 < recursionLimit) (hun : un + 8 < cLine)
    (hret : ∀ t h' tk', Fr h₀ L h' m → News h₀ L h' news → Q (.str (stripS msg) t) { s with heap := h', toks := tk' }),
    wpAny (model PySem.Challenge.rw_pg0256_01.row.prog w) (ktrTop dp un gd cn cs L a ccd cl outer) (call (.ref 59) [.str msg tk]) Q E s := by
  w_top off
  k_fill
  intro w p loose mean mg mb msg tk news hm dp un gd cn cs a ccd cl outer A₀ base h₀ L m s Q E B F X N T hk hdp hun hret
  refine wpAny_call ?_
  k_dflt cell_enter
  k_steps
  all_goals (
    (rename _ ∨ _ => h0)
    (have e0 := stripEnd0_of h0)
    subst e0
    (refine cb_retS hret ?_ (by k_asm) (cb_drop (by assumption) (by kcj_all)))
    unfold stripS stripEnd
    (repeat' split) <;> first | contradiction | (rename (¬ _) => hn9; exact absurd (by with_reducible assumption) hn9) | with_reducible rfl | rfl | (exfalso; simp_all; done))
end Mine
end PartW1

/- part W2 -/
section PartW2
open PySem PySem.W PyProof.Rows Mine
set_option Elab.async false
set_option maxRecDepth 100000
set_option maxHeartbeats 4000000
namespace Mine
abbrev headTab (w : World) (l : Addr) (tk : Tok) : Obj := dictOf [{ hash := PyData.keyHash w.params (Str.ofString "_headers"), key := Value.str (Str.ofString "_headers") tk, val := Value.ref l }] 1
local macro_rules | `(tactic| k_room) => `(tactic| ktr_room)
local macro_rules | `(tactic| walk_at "pyIter ref") => `(tactic| ((with_reducible show wpAny _ _ (pyIter (Value.ref _)) (fun it s₂ => TurnsAt _ _ _ _ _ _ _ _ _ it s₂) _ _); refine Hold.out ?_))
theorem new_c : ∀ (w : World) (p : Program) (loose : List Str) (mean : ExcName → Option Value) (mg mb : Str → Option Value) (l : Addr) (n : Nat) (news : List (Addr × Obj)) (hl : ∀ p ∈ news, p.1 ≠ l)
    (dp un : Nat) (gd : Option (List Code)) (cn : Str) (cs : Scope) (a : Addr) (ccd : Value) (cl : List (Str × Addr)) (outer : List Env) (A₀ : Around) (base h₀ : Heap) (L : Addr) (m : Str → Option Value) (s : Shared) (Q E : Value → Shared → Prop)
    (B : Below A₀ base outer h₀) (F : Fr h₀ L s.heap m) (X : (hd.heap_39 w.params).In h₀) (N : News h₀ L s.heap ((l, listOf [].toArray n) :: news)) (T : Top p loose mean mg mb h₀) (hk : cs.kind = .function) (hdp : dp + 4 < recursionLimit) (hun : un + 30 < cLine)
    (hret : ∀ x d tk h' tk', Fr h₀ L h' m → News h₀ L h' ((x, instObj 203 d) :: (d, headTab w l tk) :: (l, listOf [].toArray n) :: news) → l < d → AllLt d news → d < x → Q (.ref x) { s with heap := h', toks := tk' }),
    wpAny (model PySem.Challenge.rw_pg0256_01.row.prog w) (ktrTop dp un gd cn cs L a ccd cl outer) (call (.ref 203) [.ref l]) Q E s := by
  w_top off
  k_fill
  intro w p loose mean mg mb l n news hl dp un gd cn cs a ccd cl outer A₀ base h₀ L m s Q E B F X N T hk hdp hun hret
  obtain ⟨ck, c2, c3, c4, c5⟩ := cs
  cases (show ck = .function from hk)
  k_steps
  refine For_turns (by k_asm) ?_ (fun _ => rfl) (by passes_own)
  k_steps
  unfold Hold
  refine' iter_listNil ?m rfl ?F ?N ?_
  case F => k_asm
  case N => k_asm
  case m => k_mem
  intro h tk F2 N2
  k_sweep
  k_steps
  exact hret _ _ _ _ _ (by k_asm) (by k_asm) (ltN (by omega)) (by simp_all) (ltN (by omega))
end Mine
end PartW2

/- part W3 -/
section PartW3
open PySem PySem.W PyProof.Rows Mine
set_option Elab.async false
set_option maxRecDepth 100000
set_option maxHeartbeats 4000000
namespace Mine
local macro_rules | `(tactic| k_room) => `(tactic| ktr_room)
local macro_rules | `(tactic| walk_at "getMethod ref") => `(tactic| (k_here; k_dflt (refine' getMethod_searchK ?k1 ?k2 ?k3 ?_; (case k1 => k_asm); (case k2 => k_asm); (case k3 => k_is); k_whole)))
local macro_rules | `(tactic| walk_at "call builtin:re.Pattern.search") => `(tactic| (k_here; (rename okS _ => hOk9); k_dflt (first
  | (refine' call_searchK (code := codeN) ?k1 ?k2 ?k3 ?k4 ?k5 ?k6 ?k7 ?k8 ?k9 hOk9.1 (fun i hi => off_N (hOk9.2 i hi)) ?_; (case k1 => k_asm); (case k2 => k_asm); (case k3 => k_is); (case k4 => exact rfl); (case k5 => k_is); (case k6 => exact rfl); (case k7 => exact rfl); (case k8 => decide +kernel); (case k9 => decide +kernel); k_whole)
  | (refine' call_searchK (code := codeV) ?k1 ?k2 ?k3 ?k4 ?k5 ?k6 ?k7 ?k8 ?k9 hOk9.1 (fun i hi => off_V (hOk9.2 i hi)) ?_; (case k1 => k_asm); (case k2 => k_asm); (case k3 => k_is); (case k4 => exact rfl); (case k5 => k_is); (case k6 => exact rfl); (case k7 => exact rfl); (case k8 => decide +kernel); (case k9 => decide +kernel); k_whole))))
theorem conv_c (b : Bool) : ∀ (w : World) (p : Program) (loose : List Str) (mean : ExcName → Option Value) (mg mb : Str → Option Value) (x : Addr) (v : Str) (t : Tok) (news : List (Addr × Obj)) (hv : okS v)
    (dp un : Nat) (gd : Option (List Code)) (cn : Str) (cs : Scope) (a : Addr) (ccd : Value) (cl : List (Str × Addr)) (outer : List Env) (A₀ : Around) (base h₀ : Heap) (L : Addr) (m : Str → Option Value) (s : Shared) (Q E : Value → Shared → Prop)
    (B : Below A₀ base outer h₀) (F : Fr h₀ L s.heap m) (X : (hd.heap_39 w.params).In h₀) (N : News h₀ L s.heap news) (T : Top p loose mean mg mb h₀) (hk : cs.kind = .function) (hdp : dp + 2 < recursionLimit) (hun : un + 12 < cLine)
    (hret : ∀ h' tk', Fr h₀ L h' m → News h₀ L h' news → Q (.str v t) { s with heap := h', toks := tk' }),
    wpAny (model PySem.Challenge.rw_pg0256_01.row.prog w) (ktrTop dp un gd cn cs L a ccd cl outer) (call (.ref 104) [.ref x, .str v t] [(Str.ofString "name", .bool b)]) Q E s := by
  w_top off
  k_fill
  intro w p loose mean mg mb x v t news hv dp un gd cn cs a ccd cl outer A₀ base h₀ L m s Q E B F X N T hk hdp hun hret
  obtain ⟨ck, c2, c3, c4, c5⟩ := cs
  cases (show ck = .function from hk)
  cases b
  all_goals k_steps
  all_goals exact hret _ _ (by k_asm) (by k_asm)
end Mine
end PartW3

/- part W4 -/
section PartW4
open PySem PySem.W PyProof.Rows Mine
set_option Elab.async false
set_option maxRecDepth 100000
set_option maxHeartbeats 4000000
namespace Mine
abbrev pairOf (k v : Str) (t u : Tok) : Obj := { cls := Value.type "tuple", data := Data.seq [Value.str k t, Value.str v u].toArray }
local macro_rules | `(tactic| k_room) => `(tactic| ktr_room)
local macro_rules | `(tactic| walk_at "call ref") => `(tactic| (k_here; (with_reducible show wpAny _ _ (call (Value.ref 104) _ _) _ _ _); k_dflt (refine' conv_c _ _ _ _ _ _ _ _ _ _ _ ?ko _ _ _ _ _ _ _ _ _ _ _ _ _ _ _ _ _ ?kB ?kF ?kX ?kN ?kT ?kk ?kd ?ku ?_; (case kB => k_asm); (case kF => k_asm); (case kX => k_asm); (case kN => k_asm); (case kT => k_asm); (case kk => exact rfl); (case kd => ktr_room); (case ku => ktr_units); (case ko => assumption); k_whole); intro h' tk' F' N'; (try k_sweep); (try dsimp only)))
local macro_rules | `(tactic| walk_at "call builtin:str.join") => `(tactic| (k_here; (rename okS _ => hOk9); k_dflt (refine' join_one ?k1 ?k2 ?k3 ?k4 ?_; (case k1 => k_asm); (case k2 => k_mem); (case k3 => decide +kernel); (case k4 => exact hOk9.1); k_whole); intro t' k'; (try dsimp only)))
local macro_rules | `(tactic| k_all) => `(tactic| with_reducible assumption)
local macro_rules | `(tactic| walk_at "call builtin:list.append") => `(tactic| (k_here; (with_reducible show wpAny _ _ (call (Value.builtin _) [Value.ref _, Value.ref _]) _ _ _); refine Hold.out ?_))
theorem add_c : ∀ (w : World) (p : Program) (loose : List Str) (mean : ExcName → Option Value) (mg mb : Str → Option Value) (x d l : Addr) (kt : Tok) (vs : List Value) (n : Nat) (k v : Str) (t u : Tok) (im : List (Addr × Obj)) (hk : okS k) (hv : okS v)
    (hvs : vs.length ≤ 1000) (o1 : @Ne Nat x l) (o2 : @Ne Nat d l) (o3 : ∀ p ∈ im, p.1 ≠ l)
    (dp un : Nat) (gd : Option (List Code)) (cn : Str) (cs : Scope) (a : Addr) (ccd : Value) (cl : List (Str × Addr)) (outer : List Env) (A₀ : Around) (base h₀ : Heap) (L : Addr) (m : Str → Option Value) (s : Shared) (Q E : Value → Shared → Prop)
    (B : Below A₀ base outer h₀) (F : Fr h₀ L s.heap m) (X : (hd.heap_39 w.params).In h₀) (N : News h₀ L s.heap ((x, instObj 203 d) :: (d, headTab w l kt) :: (l, listOf vs.toArray n) :: im)) (T : Top p loose mean mg mb h₀) (hcs : cs.kind = .function) (hdp : dp + 4 < recursionLimit) (hun : un + 30 < cLine)
    (hret : ∀ (b : Addr) (t u : Tok) (h' : Heap) (tk' : Nat), Fr h₀ L h' m → News h₀ L h' ((l, listOf (vs ++ [Value.ref b]).toArray (n + 1)) :: (b, pairOf k v t u) :: (x, instObj 203 d) :: (d, headTab w l kt) :: im) → @LT.lt Nat _ l b → AllLt b im → Q Value.none { s with heap := h', toks := tk' }),
    wpAny (model PySem.Challenge.rw_pg0256_01.row.prog w) (ktrTop dp un gd cn cs L a ccd cl outer) (call (.ref 200) [.ref x, .str k t, .str v u]) Q E s := by
  w_top off
  k_fill
  intro w p loose mean mg mb x d l kt vs n k v t u im hk hv hvs o1 o2 o3 dp un gd cn cs a ccd cl outer A₀ base h₀ L m s Q E B F X N T hcs hdp hun hret
  obtain ⟨ck, c2, c3, c4, c5⟩ := cs
  cases (show ck = .function from hcs)
  k_steps
  unfold Hold
  rename News _ _ _ _ => N9
  have N8 := cb_drop (news := (_, { cls := Value.type "tuple", data := Data.seq #[Value.str k t, Value.str v _] }) :: (x, instObj 203 d) :: (d, headTab w l kt) :: (l, listOf vs.toArray n) :: im) N9 (by kcj_all)
  clear N9
  k_dflt (refine' append_K ?k1 N8 ?k3 ?_ ?z; (case k1 => k_asm); (case k3 => k_upd); (case z => size_fits))
  intro h' F' N'
  clear N8
  k_sweep
  (try dsimp only)
  k_steps
  rename News h₀ L _ _ => N9
  simp only [List.push_toArray] at N9
  refine' hret _ _ _ _ _ ?F ?N ?a ?b
  case F => k_asm
  case N => exact cb_drop N9 (by kcj_all)
  case a => exact ltN (by omega)
  case b => simp_all
end Mine
end PartW4

/- part W5 -/
section PartW5
open PySem PySem.W PyProof.Rows Mine
set_option Elab.async false
set_option maxRecDepth 100000
set_option maxHeartbeats 4000000
namespace Mine
inductive PairsAre (im : List (Addr × Obj)) : List Value → List (Str × Str) → Prop
  | nil : PairsAre im [] []
  | cons {b : Addr} {k v : Str} {t u : Tok} {vs : List Value} {rows : List (Str × Str)} : (b, pairOf k v t u) ∈ im → PairsAre im vs rows → PairsAre im (Value.ref b :: vs) ((k, v) :: rows)
theorem PairsAre.all {im : List (Addr × Obj)} {vs : List Value} {rows : List (Str × Str)} (h : PairsAre im vs rows) (hr : ∀ r ∈ rows, r.1.length ≤ 64 ∧ r.2.length ≤ 64) : ∀ v ∈ vs, ∃ b k v' t u, v = Value.ref b ∧ (b, pairOf k v' t u) ∈ im ∧ k.length ≤ 4096 ∧ v'.length ≤ 4096 := by
  induction h with
  | nil => intro v hv; cases hv
  | @cons b k v' t u vs rows hb _ ih =>
    intro z hz
    have h0 := hr _ (List.mem_cons_self ..)
    rcases List.mem_cons.mp hz with rfl | hz
    · exact ⟨b, k, v', t, u, rfl, hb, by have := h0.1; dsimp only at this; omega, by have := h0.2; dsimp only at this; omega⟩
    · exact ih (fun r hr' => hr r (List.mem_cons_of_mem _ hr')) z hz
def fmtRow (r : Str × Str) : Str := r.1 ++ (⟨#[58, 32]⟩ : Str) ++ r.2
theorem pairOf_inj {k v k2 v2 : Str} {t u t2 u2 : Tok} (h : pairOf k v t u = pairOf k2 v2 t2 u2) : k = k2 ∧ v = v2 := by
  injection h with _ _ h3 _
  injection h3 with h4 _
  have h5 := congrArg Array.toList h4
  simp at h5
  exact ⟨h5.1.1, h5.2.1⟩
theorem PairsAre.fmt {im : List (Addr × Obj)} {vs ys : List Value} {rows : List (Str × Str)} (h : PairsAre im vs rows)
    (hP : Paired (fun a y => ∀ b k v t u, a = Value.ref b → (b, pairOf k v t u) ∈ im → ∃ t', y = Value.str (fmtRow (k, v)) t') vs ys) : StrsAre ys (rows.map fmtRow) := by
  induction h generalizing ys with
  | nil => cases hP; exact .nil
  | @cons b k v t u vs rows hb _ ih =>
    cases hP with
    | cons h1 h2 =>
      obtain ⟨t', rfl⟩ := h1 b k v t u rfl hb
      exact StrsAre.cons _ _ (ih h2)
theorem PairsAre.length {im : List (Addr × Obj)} {vs : List Value} {rows : List (Str × Str)} (h : PairsAre im vs rows) : vs.length = rows.length := by
  induction h with
  | nil => rfl
  | cons _ _ ih => rw [List.length_cons, List.length_cons, ih]
theorem strsAre_append {vs ws : List Value} {xs ys : List Str} (h : StrsAre vs xs) (k : StrsAre ws ys) : StrsAre (vs ++ ws) (xs ++ ys) := by
  induction h with
  | nil => exact k
  | cons y t _ ih => exact StrsAre.cons y t ih
theorem fmt_len (l : List (Str × Str)) (hr : ∀ r ∈ l, r.1.length ≤ 64 ∧ r.2.length ≤ 64) : ((l.map fmtRow).map (·.length)).sum ≤ 130 * l.length := by
  induction l with
  | nil => exact Nat.le_refl _
  | cons r l ih =>
    have h0 := hr r (List.mem_cons_self ..)
    have h1 := ih fun r hr' => hr r (List.mem_cons_of_mem _ hr')
    have e : (fmtRow r).length = r.1.length + 2 + r.2.length := by
      unfold fmtRow
      rw [Str.length_append, Str.length_append]
      rfl
    simp only [List.map_cons, List.sum_cons, List.length_cons] at h1 ⊢
    omega
def pageOf (rows : List (Str × Str)) : Str := Txt.join (Str.ofString "\x0d\n") (rows.map fmtRow ++ [Str.ofString "", Str.ofString ""])
local macro_rules | `(tactic| k_room) => `(tactic| ktr_room)
local macro_rules | `(tactic| k_units) => `(tactic| (refine ltN ?_; ktr_units))
local macro_rules | `(tactic| k_units) => `(tactic| (ktr_units))
local macro_rules | `(tactic| walk_at "none") => `(tactic| fail "none")
local macro_rules | `(tactic| walk_at "eval ListComp") => `(tactic| (k_here; refine Hold.out ?_))
local macro_rules | `(tactic| walk_at "binaryOp Add ref ref") => `(tactic| (k_here; refine Hold.out ?_))
local macro_rules | `(tactic| walk_at "call builtin:str.join") => `(tactic| (k_here; refine Hold.out ?_))
theorem str_c : ∀ (w : World) (p : Program) (loose : List Str) (mean : ExcName → Option Value) (mg mb : Str → Option Value) (x d l : Addr) (kt : Tok) (vs : List Value) (n : Nat) (rows : List (Str × Str)) (im : List (Addr × Obj)) (hp : PairsAre im vs rows) (hr : ∀ r ∈ rows, r.1.length ≤ 64 ∧ r.2.length ≤ 64) (hvs : vs.length ≤ 64)
    (dp un : Nat) (gd : Option (List Code)) (cn : Str) (cs : Scope) (a : Addr) (ccd : Value) (cl : List (Str × Addr)) (outer : List Env) (A₀ : Around) (base h₀ : Heap) (L : Addr) (m : Str → Option Value) (s : Shared) (Q E : Value → Shared → Prop)
    (B : Below A₀ base outer h₀) (F : Fr h₀ L s.heap m) (X : (hd.heap_39 w.params).In h₀) (N : News h₀ L s.heap ((x, instObj 203 d) :: (d, headTab w l kt) :: (l, listOf vs.toArray n) :: im)) (T : Top p loose mean mg mb h₀) (hcs : cs.kind = .function) (hdp : dp + 4 < recursionLimit) (hun : un + 30 < cLine)
    (hret : ∀ (t : Tok) (h' : Heap) (tk' : Nat), Fr h₀ L h' m → News h₀ L h' ((x, instObj 203 d) :: (d, headTab w l kt) :: (l, listOf vs.toArray n) :: im) → Q (Value.str (pageOf rows) t) { s with heap := h', toks := tk' }),
    wpAny (model PySem.Challenge.rw_pg0256_01.row.prog w) (ktrTop dp un gd cn cs L a ccd cl outer) (call (.type "str") [.ref x]) Q E s := by
  w_top off
  k_fill
  intro w p loose mean mg mb x d l kt vs n rows im hp hr hvs dp un gd cn cs a ccd cl outer A₀ base h₀ L m s Q E B F X N T hcs hdp hun hret
  obtain ⟨ck, c2, c3, c4, c5⟩ := cs
  cases (show ck = .function from hcs)
  k_steps
  unfold Hold
  have hall := hp.all hr
  refine' comp_L (fun _ => true) (fun a y => ∀ b k v t u, a = Value.ref b → (b, pairOf k v t u) ∈ im → ∃ t', y = Value.str (fmtRow (k, v)) t') ?F0 rfl ?clos ?cell rfl ?names rfl ?_ (fun _ => rfl)
  case F0 => k_asm
  case clos => with_unfolding_all rfl
  case cell => decide
  case names => decide
  k_steps
  unfold Hold
  rename Fr _ _ _ _ => F1
  rename News _ _ _ _ => N1
  refine compI (l := l) (vs := vs) (n := n) F1 N1 (by k_mem) (by omega) ?_ ?_ ?_
  · intro C v s₂ m₂ E' hv hn hm hk
    exact wpAny_pure (show _ ∧ _ from ⟨rfl, _, _, rfl, fun _ _ e => e⟩)
  · intro C v s₂ m₂ E' hv _ hn hm hk
    refine slimG ?_
    intro hG9
    obtain ⟨b, k, v', t, u, rfl, hb, h1, h2⟩ := hall _ hv
    refine hG9 ?_
    clear hG9
    have hbg := hk _ _ (N1 _ (List.mem_cons_of_mem _ (List.mem_cons_of_mem _ (List.mem_cons_of_mem _ hb)))).1
    refine wpAny_BinOp (wpAny_Constant_str ?_)
    refine name_comp hn hm ?_
    refine mod_pair hbg h1 h2 fun t' k' => (show _ ∧ _ from ⟨?_, ⟨_, _, rfl, fun _ _ e => e⟩⟩)
    intro b2 k2 v2 t2 u2 e2 hb2
    cases e2
    have hbg2 := hk _ _ (N1 _ (List.mem_cons_of_mem _ (List.mem_cons_of_mem _ (List.mem_cons_of_mem _ hb2)))).1
    refine slimG ?_
    intro hG9
    obtain ⟨rfl, rfl⟩ := pairOf_inj (Option.some.inj (hbg.symm.trans hbg2))
    refine hG9 ?_
    clear hG9
    exact ⟨t', rfl⟩
  · intro D ys k h' tk F2 N2 hD hP
    clear F1 N1
    have hfl : List.filter (fun (_ : Value) => true) vs = vs := List.filter_eq_self.mpr fun _ _ => rfl
    rw [hfl] at hP
    have hS := hp.fmt hP
    have hly : ys.length ≤ 64 := by rw [StrsAre.len_eq hS, List.length_map, ← hp.length]; exact hvs
    have hrl : rows.length ≤ 64 := by rw [← hp.length]; exact hvs
    k_steps
    unfold Hold
    k_dflt (refine' add_LL ?kF ?kN ?ka ?kb ?kz ?_)
    case kF => k_asm
    case kN => k_asm
    case ka => k_mem
    case kb => k_mem
    case kz => (simp only [List.length_cons, List.length_nil]; omega)
    intro D' h'' F' N' l1
    k_sweep
    k_steps
    unfold Hold
    rename News _ _ _ _ => N9
    refine join_N (ys := rows.map fmtRow ++ [Str.ofString "", Str.ofString ""]) N9 (by k_mem) (strsAre_append hS (.cons _ _ (.cons _ _ .nil))) (by decide +kernel) ?_ ?_
    · have := fmt_len rows hr
      have e0 : (Str.ofString "").length = 0 := by decide +kernel
      simp only [List.map_append, List.sum_append, List.map_cons, List.map_nil, List.sum_cons, List.sum_nil, List.length_append, List.length_map, List.length_cons, List.length_nil, e0]
      omega
    intro t' k'
    k_steps
    rename News h₀ L _ _ => N9
    refine' hret _ _ _ ?F ?N
    case F => k_asm
    case N => exact cb_drop N9 (fun p hp => .tail _ (.tail _ (.tail _ hp)))
end Mine
end PartW5

/- part W6 -/
section PartW6
open PySem PySem.W PyProof.Rows Mine
set_option Elab.async false
set_option maxRecDepth 100000
set_option maxHeartbeats 4000000
namespace Mine
def pairAt (h : Heap) (v : Value) : Option (Str × Str) := match v with
  | .ref b => (match h.get? b with
    | some o => (match o.data with
      | .seq xs _ => (match xs.toList with
        | [.str k _, .str v _] => some (k, v)
        | _ => none)
      | _ => none)
    | none => none)
  | _ => none
theorem pairAt_of {h : Heap} {b : Addr} {k v : Str} {t u : Tok} (e : h.get? b = some (pairOf k v t u)) : pairAt h (.ref b) = some (k, v) := by
  unfold pairAt
  simp only [e]
def valAt {h₀ : Heap} {L : Addr} {h : Heap} {news : List (Addr × Obj)} (_ : News h₀ L h news) (a y : Value) : Prop := ∃ r t, pairAt h a = some r ∧ y = Value.str r.2 t
def byName {h₀ : Heap} {L : Addr} {h : Heap} {news : List (Addr × Obj)} (_ : News h₀ L h news) (f : Str → Bool) (v : Value) : Bool := (pairAt h v).any fun r => f r.1
theorem PairsAre.at {h₀ : Heap} {L : Addr} {h : Heap} {news im : List (Addr × Obj)} {vs : List Value} {rows : List (Str × Str)} (hp : PairsAre im vs rows) (N : News h₀ L h news) (hi : ∀ p ∈ im, p ∈ news) :
    ∀ v ∈ vs, ∃ b k v' t u, v = Value.ref b ∧ (b, pairOf k v' t u) ∈ im ∧ (k, v') ∈ rows ∧ pairAt h v = some (k, v') := by
  induction hp with
  | nil => intro v hv; cases hv
  | @cons b k v' t u vs rows hb _ ih =>
    intro z hz
    rcases List.mem_cons.mp hz with rfl | hz
    · exact ⟨b, k, v', t, u, rfl, hb, List.mem_cons_self .., pairAt_of (N _ (hi _ hb)).1⟩
    · obtain ⟨b, k, v', t, u, e, h1, h2, h3⟩ := ih z hz
      exact ⟨b, k, v', t, u, e, h1, List.mem_cons_of_mem _ h2, h3⟩
theorem PairsAre.vals {h₀ : Heap} {L : Addr} {h : Heap} {news im : List (Addr × Obj)} {vs ys : List Value} {rows : List (Str × Str)} {f : Str → Bool} (hp : PairsAre im vs rows) (N : News h₀ L h news) (hi : ∀ p ∈ im, p ∈ news)
    (hP : Paired (valAt N) (vs.filter (byName N f)) ys) : StrsAre ys ((rows.filter fun r => f r.1).map (·.2)) := by
  induction hp generalizing ys with
  | nil => cases hP; exact .nil
  | @cons b k v t u vs rows hb _ ih =>
    have e : pairAt h (.ref b) = some (k, v) := pairAt_of (N _ (hi _ hb)).1
    have e2 : byName N f (.ref b) = f k := by unfold byName; rw [e]; rfl
    rw [List.filter_cons, e2] at hP
    rw [List.filter_cons]
    cases hf : f k with
    | true =>
      rw [hf] at hP
      simp only [if_true] at hP ⊢
      cases hP with
      | cons h1 h2 =>
        obtain ⟨r, t', e3, rfl⟩ := h1
        rw [e] at e3
        cases e3
        exact StrsAre.cons _ _ (ih h2)
    | false =>
      rw [hf] at hP
      exact ih hP
theorem PairsAre.keep {h₀ : Heap} {L : Addr} {h : Heap} {news im : List (Addr × Obj)} {vs ys : List Value} {rows : List (Str × Str)} {f : Str → Bool} (hp : PairsAre im vs rows) (N : News h₀ L h news) (hi : ∀ p ∈ im, p ∈ news)
    (hP : Paired (fun a y => y = a) (vs.filter (byName N f)) ys) : PairsAre im ys (rows.filter fun r => f r.1) := by
  induction hp generalizing ys with
  | nil => cases hP; exact .nil
  | @cons b k v t u vs rows hb _ ih =>
    have e : pairAt h (.ref b) = some (k, v) := pairAt_of (N _ (hi _ hb)).1
    have e2 : byName N f (.ref b) = f k := by unfold byName; rw [e]; rfl
    rw [List.filter_cons, e2] at hP
    rw [List.filter_cons]
    cases hf : f k with
    | true =>
      rw [hf] at hP
      simp only [if_true] at hP ⊢
      cases hP with
      | cons h1 h2 =>
        subst h1
        exact PairsAre.cons hb (ih h2)
    | false =>
      rw [hf] at hP
      exact ih hP
local macro_rules | `(tactic| k_room) => `(tactic| ktr_room)
local macro_rules | `(tactic| k_units) => `(tactic| (ktr_units))
local macro_rules | `(tactic| walk_at "eval ListComp") => `(tactic| (k_here; refine Hold.out ?_))
local macro_rules | `(tactic| walk_at "call ref") => `(tactic| (k_here; (with_reducible show wpAny _ _ (call (Value.ref 104) _ _) _ _ _); k_dflt (refine' conv_c _ _ _ _ _ _ _ _ _ _ _ ?ko _ _ _ _ _ _ _ _ _ _ _ _ _ _ _ _ _ ?kB ?kF ?kX ?kN ?kT ?kk ?kd ?ku ?_; (case kB => k_asm); (case kF => k_asm); (case kX => k_asm); (case kN => k_asm); (case kT => k_asm); (case kk => exact rfl); (case kd => ktr_room); (case ku => ktr_units); (case ko => assumption); k_whole); intro h' tk' F' N'; (try k_sweep); (try dsimp only)))
local macro_rules | `(tactic| k_all) => `(tactic| (with_reducible refine ne_above ?_; with_reducible (first | assumption | exact And.right (by assumption) | exact And.right (And.right (by assumption)) | exact And.right (And.right (And.right (by assumption))))))
local macro_rules | `(tactic| walk_at "subscriptTail") => `(tactic| (k_here; (with_reducible show wpAny _ _ (subscriptTail _ _ (Value.ref _) (Value.int _ _)) _ _ _); (rename IsTup _ _ _ => hT9); k_dflt (refine' item_tupleT hT9 ?a ?b ?c ?d ?_; (case a => decide); (case b => decide); (case c => rfl); (case d => rfl); k_whole)))
theorem all_c : ∀ (w : World) (p : Program) (loose : List Str) (mean : ExcName → Option Value) (mg mb : Str → Option Value) (x d l : Addr) (kt : Tok) (vs : List Value) (n : Nat) (rows : List (Str × Str)) (im : List (Addr × Obj)) (hp : PairsAre im vs rows) (hr : ∀ r ∈ rows, okS r.1 ∧ Txt.lower r.1 = r.1) (hvs : vs.length ≤ 64)
    (k : Str) (tk : Tok) (hk : okS k) (hlo : okS (Txt.lower k))
    (dp un : Nat) (gd : Option (List Code)) (cn : Str) (cs : Scope) (a : Addr) (ccd : Value) (cl : List (Str × Addr)) (outer : List Env) (A₀ : Around) (base h₀ : Heap) (L : Addr) (m : Str → Option Value) (s : Shared) (Q E : Value → Shared → Prop)
    (B : Below A₀ base outer h₀) (F : Fr h₀ L s.heap m) (X : (hd.heap_39 w.params).In h₀) (N : News h₀ L s.heap ((x, instObj 203 d) :: (d, headTab w l kt) :: (l, listOf vs.toArray n) :: im)) (T : Top p loose mean mg mb h₀) (hcs : cs.kind = .function) (hdp : dp + 4 < recursionLimit) (hun : un + 30 < cLine)
    (hret : ∀ (D : Addr) (ys : List Value) (j : Nat) (h' : Heap) (tk' : Nat), Fr h₀ L h' m → News h₀ L h' ((D, listOf ys.toArray j) :: (x, instObj 203 d) :: (d, headTab w l kt) :: (l, listOf vs.toArray n) :: im) →
      (∀ q ∈ (x, instObj 203 d) :: (d, headTab w l kt) :: (l, listOf vs.toArray n) :: im, q.1 ≠ D) → StrsAre ys ((rows.filter fun r => r.1 == Txt.lower k).map (·.2)) → Q (Value.ref D) { s with heap := h', toks := tk' }),
    wpAny (model PySem.Challenge.rw_pg0256_01.row.prog w) (ktrTop dp un gd cn cs L a ccd cl outer) (call (.ref 142) [.ref x, .str k tk]) Q E s := by
  w_top off
  k_fill
  intro w p loose mean mg mb x d l kt vs n rows im hp hr hvs k tk hk hlo dp un gd cn cs a ccd cl outer A₀ base h₀ L m s Q E B F X N T hcs hdp hun hret
  obtain ⟨ck, c2, c3, c4, c5⟩ := cs
  cases (show ck = .function from hcs)
  have hk1 : k.length ≤ 4096 := hk.1
  k_steps
  unfold Hold
  rename News _ _ _ _ => N0
  have hall := hp.at N0 (by intro p hp; simp [hp])
  refine' comp_L (byName N0 fun q => q == Txt.lower k) (valAt N0) ?F0 rfl ?clos ?cell rfl ?names rfl ?_ (fun _ => rfl)
  case F0 => k_asm
  case clos => with_unfolding_all rfl
  case cell => decide
  case names => decide
  k_steps
  unfold Hold
  rename Fr _ _ _ _ => F1
  rename News _ _ _ _ => N1
  refine compI (l := l) (vs := vs) (n := n) F1 N1 (by k_mem) (by omega) ?_ ?_ ?_
  · intro C v s₂ m₂ E' hv hn hm hk9
    refine slimG ?_
    intro hG9
    obtain ⟨b, q, v', t, u, rfl, hb, hmem, hat⟩ := hall _ hv
    refine hG9 ?_
    clear hG9
    have hbg := hk9 _ _ (N1 (b, pairOf q v' t u) (by repeat' (first | exact hb | refine .tail _ ?_))).1
    have hbT : IsTup s₂.heap b [Value.str q t, Value.str v' u].toArray := ⟨_, hbg, rfl, _, rfl⟩
    have hlq := (hr _ hmem).1.1
    refine comp_test1 ?_
    k_steps
    refine (show _ ∧ _ from ⟨?_, _, _, rfl, fun _ _ e => e⟩)
    unfold byName
    rw [hat, (hr _ hmem).2]
    rfl
  · intro C v s₂ m₂ E' hv _ hn hm hk9
    refine slimG ?_
    intro hG9
    obtain ⟨b, q, v', t, u, rfl, hb, hmem, hat⟩ := hall _ hv
    refine hG9 ?_
    clear hG9
    have hbg := hk9 _ _ (N1 (b, pairOf q v' t u) (by repeat' (first | exact hb | refine .tail _ ?_))).1
    have hbT : IsTup s₂.heap b [Value.str q t, Value.str v' u].toArray := ⟨_, hbg, rfl, _, rfl⟩
    k_steps
    exact (show _ ∧ _ from ⟨⟨_, _, hat, rfl⟩, _, _, rfl, fun _ _ e => e⟩)
  · intro D ys j h' tk F2 N2 hD hP
    have hS := hp.vals N1 (by intro p hp; simp [hp]) hP
    clear hP F1 N1
    k_steps
    rename News h₀ L _ _ => N9
    refine' hret _ _ j _ _ ?F ?N ?o hS
    case F => k_asm
    case N => exact cb_drop N9 (fun p hp => (List.mem_cons.mp hp).elim (fun e => e ▸ .head _) (fun hp => .tail _ (.tail _ hp)))
    case o => exact fun q hq => hD q (.tail _ hq)
end Mine
end PartW6

/- part W7 -/
section PartW7
open PySem PySem.W PyProof.Rows Mine
set_option Elab.async false
set_option maxRecDepth 100000
set_option maxHeartbeats 4000000
namespace Mine
local macro_rules | `(tactic| k_room) => `(tactic| ktr_room)
local macro_rules | `(tactic| k_units) => `(tactic| (ktr_units))
local macro_rules | `(tactic| walk_at "eval ListComp") => `(tactic| (k_here; refine Hold.out ?_))
local macro_rules | `(tactic| walk_at "call ref") => `(tactic| (k_here; (with_reducible show wpAny _ _ (call (Value.ref 104) _ _) _ _ _); k_dflt (refine' conv_c _ _ _ _ _ _ _ _ _ _ _ ?ko _ _ _ _ _ _ _ _ _ _ _ _ _ _ _ _ _ ?kB ?kF ?kX ?kN ?kT ?kk ?kd ?ku ?_; (case kB => k_asm); (case kF => k_asm); (case kX => k_asm); (case kN => k_asm); (case kT => k_asm); (case kk => exact rfl); (case kd => ktr_room); (case ku => ktr_units); (case ko => assumption); k_whole); intro h' tk' F' N'; (try k_sweep); (try dsimp only)))
local macro_rules | `(tactic| k_all) => `(tactic| (with_reducible refine ne_above ?_; with_reducible (first | assumption | exact And.right (by assumption) | exact And.right (And.right (by assumption)) | exact And.right (And.right (And.right (by assumption))))))
local macro_rules | `(tactic| walk_at "subscriptTail") => `(tactic| (k_here; (with_reducible show wpAny _ _ (subscriptTail _ _ (Value.ref _) (Value.int _ _)) _ _ _); (rename IsTup _ _ _ => hT9); k_dflt (refine' item_tupleT hT9 ?a ?b ?c ?d ?_; (case a => decide); (case b => decide); (case c => rfl); (case d => rfl); k_whole)))
local macro_rules | `(tactic| walk_at "setItem") => `(tactic| (k_here; (with_reducible show wpAny _ _ (setItem (Value.ref _) (Value.ref _) (Value.ref _)) _ _ _); refine Hold.out ?_))
theorem del_c : ∀ (w : World) (p : Program) (loose : List Str) (mean : ExcName → Option Value) (mg mb : Str → Option Value) (x d l : Addr) (kt : Tok) (vs : List Value) (n : Nat) (rows : List (Str × Str)) (im : List (Addr × Obj)) (hp : PairsAre im vs rows) (hr : ∀ r ∈ rows, okS r.1 ∧ Txt.lower r.1 = r.1) (hvs : vs.length ≤ 64)
    (k : Str) (tk : Tok) (hk : okS k) (hlo : okS (Txt.lower k))
    (dp un : Nat) (gd : Option (List Code)) (cn : Str) (cs : Scope) (a : Addr) (ccd : Value) (cl : List (Str × Addr)) (outer : List Env) (A₀ : Around) (base h₀ : Heap) (L : Addr) (m : Str → Option Value) (s : Shared) (Q E : Value → Shared → Prop)
    (B : Below A₀ base outer h₀) (F : Fr h₀ L s.heap m) (X : (hd.heap_39 w.params).In h₀) (N : News h₀ L s.heap ((x, instObj 203 d) :: (d, headTab w l kt) :: (l, listOf vs.toArray n) :: im)) (T : Top p loose mean mg mb h₀) (hcs : cs.kind = .function) (hdp : dp + 4 < recursionLimit) (hun : un + 30 < cLine)
    (o1 : @Ne Nat x l) (o2 : @Ne Nat d l) (o3 : ∀ p ∈ im, p.1 ≠ l)
    (hret : ∀ (ys : List Value) (j : Nat) (h' : Heap) (tk' : Nat), Fr h₀ L h' m → News h₀ L h' ((l, listOf ys.toArray j) :: (x, instObj 203 d) :: (d, headTab w l kt) :: im) →
      (∀ im2, (∀ p ∈ im2, p ∈ im) → PairsAre im2 vs rows → PairsAre im2 ys (rows.filter fun r => r.1 != Txt.lower k)) → Q Value.none { s with heap := h', toks := tk' }),
    wpAny (model PySem.Challenge.rw_pg0256_01.row.prog w) (ktrTop dp un gd cn cs L a ccd cl outer) (call (.ref 123) [.ref x, .str k tk]) Q E s := by
  w_top off
  k_fill
  intro w p loose mean mg mb x d l kt vs n rows im hp hr hvs k tk hk hlo dp un gd cn cs a ccd cl outer A₀ base h₀ L m s Q E B F X N T hcs hdp hun o1 o2 o3 hret
  obtain ⟨ck, c2, c3, c4, c5⟩ := cs
  cases (show ck = .function from hcs)
  have hk1 : k.length ≤ 4096 := hk.1
  k_steps
  unfold Hold
  rename News _ _ _ _ => N0
  have hall := hp.at N0 (by intro p hp; simp [hp])
  refine' comp_L (byName N0 fun q => q != Txt.lower k) (fun a y => y = a) ?F0 rfl ?clos ?cell rfl ?names rfl ?_ (fun _ => rfl)
  case F0 => k_asm
  case clos => with_unfolding_all rfl
  case cell => decide
  case names => decide
  k_steps
  unfold Hold
  rename Fr _ _ _ _ => F1
  rename News _ _ _ _ => N1
  refine compI (l := l) (vs := vs) (n := n) F1 N1 (by k_mem) (by omega) ?_ ?_ ?_
  · intro C v s₂ m₂ E' hv hn hm hk9
    refine slimG ?_
    intro hG9
    obtain ⟨b, q, v', t, u, rfl, hb, hmem, hat⟩ := hall _ hv
    refine hG9 ?_
    clear hG9
    have hbg := hk9 _ _ (N1 (b, pairOf q v' t u) (by repeat' (first | exact hb | refine .tail _ ?_))).1
    have hbT : IsTup s₂.heap b [Value.str q t, Value.str v' u].toArray := ⟨_, hbg, rfl, _, rfl⟩
    have hlq := (hr _ hmem).1.1
    refine comp_test1 ?_
    k_steps
    refine (show _ ∧ _ from ⟨?_, _, _, rfl, fun _ _ e => e⟩)
    unfold byName
    rw [hat, (hr _ hmem).2]
    rfl
  · intro C v s₂ m₂ E' hv _ hn hm hk9
    refine slimG ?_
    intro hG9
    obtain ⟨b, q, v', t, u, rfl, hb, hmem, hat⟩ := hall _ hv
    refine hG9 ?_
    clear hG9
    k_steps
    exact (show _ ∧ _ from ⟨rfl, _, _, rfl, fun _ _ e => e⟩)
  · intro D ys j h' tk F2 N2 hD hP
    have hS : ∀ im2, (∀ p ∈ im2, p ∈ im) → PairsAre im2 vs rows → PairsAre im2 ys (rows.filter fun r => r.1 != Txt.lower k) := fun im2 h2 h3 => h3.keep N1 (by intro p hp; simp [h2 p hp]) hP
    clear hP F1 N1
    k_steps
    have hyl : ys.length ≤ 64 := by rw [(hS im (fun _ h => h) hp).length]; exact Nat.le_trans (List.length_filter_le _ _) (by rw [← hp.length]; exact hvs)
    have N3 := cb_drop (news := (l, listOf vs.toArray n) :: (D, listOf ys.toArray j) :: (x, instObj 203 d) :: (d, headTab w l kt) :: im) N2 (by intro p hp; simp at hp; rcases hp with h | h | h | h | h <;> simp [h])
    unfold Hold
    refine setItem_allS F2 N3 (.head _) ?_ (by omega) (by omega) ?_
    · intro p hp
      rcases List.mem_cons.mp hp with rfl | hp
      · exact (hD (l, listOf vs.toArray n) (by simp)).symm
      · rcases List.mem_cons.mp hp with rfl | hp
        · exact o1
        · rcases List.mem_cons.mp hp with rfl | hp
          · exact o2
          · exact o3 p hp
    intro h'' k' F4 N4
    clear N3 N2 F2
    k_steps
    rename News h₀ L _ _ => N9
    refine' hret _ k' _ _ ?F ?N hS
    case F => k_asm
    case N => exact cb_drop N9 (fun p hp => (List.mem_cons.mp hp).elim (fun e => e ▸ .head _) (fun hp => .tail _ (.tail _ hp)))
end Mine
end PartW7

/- part PS -/
section PartPS
open PySem PySem.W PyProof.Rows Mine
set_option Elab.async false
set_option maxRecDepth 100000
set_option maxHeartbeats 4000000
namespace Mine
open PySem.Builtin PySem.Builtin.Str PySem.StrLaws
theorem occ_hi (x y : Str) (hi limit : Nat) (hl : 1 ≤ limit) :
    (occurrences x y 0 hi limit = [] ∧ ∀ i, ¬ At x y hi i) ∨ ∃ i r, occurrences x y 0 hi limit = i :: r ∧ At x y hi i ∧ ∀ k, k < i → ¬ At x y hi k := by
  rw [occ_eq]
  rcases occ_first x y hi limit hl (List.range' 0 (hi + 1 - 0)) 0 (fun _ _ => Nat.zero_le _) with ⟨h0, hn⟩ | ⟨pre, a, post, e, h0, ha, hn⟩
  · refine .inl ⟨by rw [h0], fun i hi => ?_⟩
    exact hn i (by have := hi.1; simp [List.mem_range'] <;> omega) hi
  · refine .inr ⟨a, ((forIn (List.range' 0 (hi + 1 - 0)) ((#[] : Array Nat), 0) (occBody x y hi limit)).run.fst.toList).tail, ?_, ha, fun k hk => hn k (range'_split e k hk)⟩
    generalize (forIn (List.range' 0 (hi + 1 - 0)) ((#[] : Array Nat), 0) (occBody x y hi limit)).run.fst = arr at h0
    have h1 : arr.toList[0]? = some a := by simpa using h0
    cases hL : arr.toList with
    | nil => rw [hL] at h1; cases h1
    | cons b t => rw [hL] at h1; simp at h1; rw [h1]; rfl
theorem occ_at {x y : Str} {hi a : Nat} (h : At x y hi a) (hn : ∀ k, k < a → ¬ At x y hi k) : occurrences x y 0 hi 1 = [a] := by
  have hlen := occ_length_le x y 0 hi 1
  rcases occ_hi x y hi 1 (Nat.le_refl _) with ⟨_, h2⟩ | ⟨i, r, e, h2, h3⟩
  · exact absurd h (h2 a)
  · rw [e] at hlen ⊢
    have hr : r = [] := by simpa using hlen
    have : i = a := by
      rcases Nat.lt_trichotomy i a with h4 | h4 | h4
      · exact absurd h2 (hn i h4)
      · exact h4
      · exact absurd h (h3 a h4)
    rw [hr, this]
theorem occ_no {x y : Str} {hi : Nat} (hn : ∀ k, ¬ At x y hi k) : occurrences x y 0 hi 1 = [] := by
  rcases occ_hi x y hi 1 (Nat.le_refl _) with ⟨h, _⟩ | ⟨i, r, e, h2, h3⟩
  · exact h
  · exact absurd h2 (hn i)
theorem last_hi (x y : Str) (hi : Nat) : (lastOccurrence x y 0 hi = none ∧ ∀ i, ¬ At x y hi i) ∨ ∃ i, lastOccurrence x y 0 hi = some i ∧ At x y hi i ∧ ∀ k, i < k → ¬ At x y hi k := by
  rw [last_eq]
  have key := last_run x y hi (List.range' 0 (hi + 1 - 0)) [] none (fun _ h => nomatch h) (fun _ h => nomatch h) (by simpa using List.pairwise_lt_range' (s := 0) (n := hi + 1 - 0))
  have mem : ∀ i, At x y hi i → i ∈ [] ++ List.range' 0 (hi + 1 - 0) := fun i hi => by have := hi.1; simp [List.mem_range'] <;> omega
  cases hr : (forIn (List.range' 0 (hi + 1 - 0)) none (lastBody x y hi)).run with
  | none => rw [hr] at key; exact .inl ⟨rfl, fun i hi => key i (mem i hi) hi⟩
  | some a => rw [hr] at key; exact .inr ⟨a, rfl, key.1, fun k hk hA => key.2 k (mem k hA) hk hA⟩
theorem last_at {x y : Str} {hi a : Nat} (h : At x y hi a) (hn : ∀ k, a < k → ¬ At x y hi k) : lastOccurrence x y 0 hi = some a := by
  rcases last_hi x y hi with ⟨_, h2⟩ | ⟨i, e, h2, h3⟩
  · exact absurd h (h2 a)
  · rw [e]
    rcases Nat.lt_trichotomy i a with h4 | h4 | h4
    · exact absurd h (h3 a h4)
    · rw [h4]
    · exact absurd h2 (hn i h4)
theorem last_no {x y : Str} {hi : Nat} (hn : ∀ k, ¬ At x y hi k) : lastOccurrence x y 0 hi = none := by
  rcases last_hi x y hi with ⟨h, _⟩ | ⟨i, e, h2, h3⟩
  · exact h
  · exact absurd h2 (hn i)
theorem take2_drop {l : List Nat} {c d i : Nat} : (l.drop i).take 2 = [c, d] ↔ l[i]? = some c ∧ l[i + 1]? = some d := by
  have e : l[i]? = (l.drop i)[0]? := by rw [List.getElem?_drop]; rfl
  have e2 : l[i + 1]? = (l.drop i)[1]? := by rw [List.getElem?_drop]
  rw [e, e2]
  cases l.drop i with
  | nil => simp
  | cons a r => cases r with
    | nil => simp
    | cons b r => simp
theorem at_one (x : Str) (c i hi : Nat) : At x ⟨#[c]⟩ hi i ↔ i + 1 ≤ hi ∧ x.cps.toList[i]? = some c := by
  unfold At
  rw [subAt_eq]
  show (i + 1 ≤ hi ∧ ((x.cps.toList.drop i).take 1 == [c]) = true) ↔ _
  rw [take1_drop]
theorem at_two (x : Str) (c d i hi : Nat) : At x ⟨#[c, d]⟩ hi i ↔ i + 2 ≤ hi ∧ x.cps.toList[i]? = some c ∧ x.cps.toList[i + 1]? = some d := by
  unfold At
  rw [subAt_eq]
  show (i + 2 ≤ hi ∧ ((x.cps.toList.drop i).take 2 == [c, d]) = true) ↔ _
  rw [beq_iff_eq, take2_drop]
theorem lenL (x : Str) : x.length = x.cps.toList.length := by simp [Str.length]
theorem getl {a r : List Nat} {i : Nat} (h : i < a.length) : (a ++ r)[i]? = a[i]? := List.getElem?_append_left h
theorem getm {a r : List Nat} {c : Nat} : (a ++ c :: r)[a.length]? = some c := by simp
theorem strip_last {x : Str} {p : List Nat} {ch c : Nat} {r : List Nat} (hx : x.cps.toList = p ++ [ch] ++ c :: r) (hc : c = 58 ∨ c = 10) (hp : p = [] ∨ ∃ q, p = q ++ [46]) (hch : 97 ≤ ch ∧ ch ≤ 104) (hd : ∀ d ∈ p, d = 46 ∨ (97 ≤ d ∧ d ≤ 104)) : stripS x = ⟨#[ch]⟩ := by
  have hlen : x.length = p.length + 2 + r.length := by rw [lenL, hx]; simp; omega
  have hw : ∀ d ∈ p ++ [ch], d = 46 ∨ (97 ≤ d ∧ d ≤ 104) := by
    intro d h
    rcases List.mem_append.mp h with h | h
    · exact hd d h
    · rw [List.mem_singleton.mp h]; exact .inr hch
  have hlow : ∀ i z, i < p.length + 1 → x.cps.toList[i]? = some z → z = 46 ∨ (97 ≤ z ∧ z ≤ 104) := by
    intro i z hi hz
    rw [hx, getl (by simp; omega)] at hz
    exact hw z (List.mem_of_getElem? hz)
  have hmid : x.cps.toList[p.length + 1]? = some c := by
    rw [hx]
    have := @getm (p ++ [ch]) r c
    simpa using this
  have hn10 : Str.ofString "\n" = ⟨#[10]⟩ := by decide +kernel
  have hn58 : Str.ofString ":" = ⟨#[58]⟩ := by decide +kernel
  have hn46 : Str.ofString "." = ⟨#[46]⟩ := by decide +kernel
  have hf0 : fromIndex x.length 0 = 0 := by unfold fromIndex; simp
  have hfn : ∀ e : Nat, e ≤ x.length → min (fromIndex x.length (e : Int)) x.length = e := by
    intro e he
    unfold fromIndex
    have : ¬ ((e : Int) < 0) := by omega
    rw [if_neg this]
    omega
  have hend : stripEnd x = ((p.length + 1 : Nat) : Int) := by
    rcases hc with rfl | rfl
    · have h0 : ∃ e : Nat, stripEnd0 x = (e : Int) ∧ p.length + 2 ≤ e ∧ e ≤ x.length := by
        unfold stripEnd0
        rw [hn10]
        unfold Txt.find
        rcases occ_hi x ⟨#[10]⟩ x.length 1 (Nat.le_refl _) with ⟨h, _⟩ | ⟨i, r', e, h2, h3⟩
        · rw [h]
          exact ⟨x.length, rfl, by omega, Nat.le_refl _⟩
        · rw [e]
          rw [at_one] at h2
          refine ⟨i, by simp, ?_, by omega⟩
          rcases Nat.lt_trichotomy i (p.length + 1) with h4 | h4 | h4
          · have := hlow i 10 h4 h2.2
            omega
          · rw [h4, hmid] at h2
            exact absurd h2.2 (by decide)
          · omega
      obtain ⟨e, h1, h2, h3⟩ := h0
      unfold stripEnd find4
      rw [h1, hn58, hf0, hfn e h3]
      have : occurrences x ⟨#[58]⟩ 0 e 1 = [p.length + 1] := by
        refine occ_at ((at_one ..).mpr ⟨by omega, hmid⟩) fun k hk h => ?_
        have := hlow k 58 hk ((at_one ..).mp h).2
        omega
      rw [this]
      simp
      omega
    · have h1 : stripEnd0 x = ((p.length + 1 : Nat) : Int) := by
        unfold stripEnd0
        rw [hn10]
        unfold Txt.find
        have : occurrences x ⟨#[10]⟩ 0 x.length 1 = [p.length + 1] := by
          refine occ_at ((at_one ..).mpr ⟨by omega, hmid⟩) fun k hk h => ?_
          have := hlow k 10 hk ((at_one ..).mp h).2
          omega
        rw [this]
        simp
        omega
      unfold stripEnd find4
      rw [h1, hn58, hf0, hfn _ (by omega)]
      have : occurrences x ⟨#[58]⟩ 0 (p.length + 1) 1 = [] := by
        refine occ_no fun k h => ?_
        have h9 := (at_one ..).mp h
        have := hlow k 58 (by omega) h9.2
        omega
      rw [this]
      rfl
  unfold stripS
  rw [hend]
  have hst : (if 0 ≤ rfind4 x (Str.ofString ".") 0 ((p.length + 1 : Nat) : Int) then rfind4 x (Str.ofString ".") 0 ((p.length + 1 : Nat) : Int) + 1 else 0) = (p.length : Int) := by
    unfold rfind4
    rw [hn46, hf0, hfn _ (by omega)]
    rcases hp with rfl | ⟨q, rfl⟩
    · have : lastOccurrence x ⟨#[46]⟩ 0 (([] : List Nat).length + 1) = none := by
        refine last_no fun k h => ?_
        have h9 := (at_one ..).mp h
        have hk : k = 0 := by simp at h9; omega
        rw [hk, hx] at h9
        simp at h9
        omega
      rw [this]
      rfl
    · have : lastOccurrence x ⟨#[46]⟩ 0 ((q ++ [46]).length + 1) = some q.length := by
        refine last_at ((at_one ..).mpr ⟨by simp, by rw [hx]; simp⟩) fun k hk h => ?_
        have h9 := (at_one ..).mp h
        have hk2 : k = q.length + 1 := by simp at h9; omega
        rw [hk2, hx] at h9
        simp at h9
        omega
      rw [this]
      simp
  rw [hst]
  show sliceText x (some (p.length : Int)) (some ((p.length + 1 : Nat) : Int)) = _
  rw [sliceText_nat x (by omega) (by omega), hx]
  simp
theorem strKind_pos (x : Str) : ¬ Str.strKind x < 1 := by
  unfold Str.strKind
  split
  · omega
  · split <;> omega
theorem str_ext {x : Str} {l : List Nat} (h : x.cps.toList = l) : x = ⟨l.toArray⟩ := mk_of_toList h
theorem split_at {x y a b : Str} (hx : x = a ++ y ++ b) (hk : Str.strKind y = 1) (hy : 1 ≤ y.length) (hn : ∀ k, k < a.length → ¬ At x y x.length k) : occurrences x y 0 x.length 1 = [a.length] ∧ Txt.splitMax x y 1 = [a, b] := by
  have hl : x.length = a.length + y.length + b.length := by rw [hx, Str.length_append, Str.length_append]
  have hat : At x y x.length a.length := by
    refine ⟨by omega, ?_⟩
    rw [subAt_eq, hx, beq_iff_eq]
    simp only [Str.cps_append, Array.toList_append, lenL]
    simp
  have ho := occ_at hat hn
  refine ⟨ho, ?_⟩
  unfold Txt.splitMax
  have h1 : (decide (x.length < y.length) || decide (Str.strKind x < Str.strKind y)) = false := by
    rw [hk]
    simp only [Bool.or_eq_false_iff, decide_eq_false_iff_not]
    exact ⟨by omega, strKind_pos x⟩
  have h2 : limitOf x 1 = 1 := rfl
  rw [h1, h2, ho, partsBetween_eq]
  show [strSub x 0 a.length, strSub x (a.length + y.length) x.length] = [a, b]
  have e1 : strSub x 0 a.length = a := by
    apply Str.ext'
    apply Array.toList_inj.mp
    rw [strSub_toList, hx]
    simp only [Str.cps_append, Array.toList_append, lenL]
    simp
  have e2 : strSub x (a.length + y.length) x.length = b := by
    apply Str.ext'
    apply Array.toList_inj.mp
    rw [strSub_toList, hl, hx]
    simp only [Str.cps_append, Array.toList_append, lenL]
    rw [← List.length_append, List.append_assoc, ← List.append_assoc, List.drop_left]
    rw [List.take_of_length_le]
    simp
  rw [e1, e2]
def pageN : List (Str × Str) → Str
  | [] => ⟨#[10]⟩
  | r :: rest => r.1 ++ (⟨#[58, 32]⟩ : Str) ++ (r.2 ++ (⟨#[10]⟩ : Str) ++ pageN rest)
theorem pageN_cons (r : Str × Str) (rest : List (Str × Str)) : pageN (r :: rest) = r.1 ++ (⟨#[58, 32]⟩ : Str) ++ (r.2 ++ (⟨#[10]⟩ : Str) ++ pageN rest) := rfl
def Wl (s : Str) : Prop := s.length ≤ 64 ∧ ∃ p c, s.cps.toList = p ++ [c] ∧ (p = [] ∨ ∃ q, p = q ++ [46]) ∧ (97 ≤ c ∧ c ≤ 104) ∧ ∀ d ∈ p, d = 46 ∨ (97 ≤ d ∧ d ≤ 104)
def lastS (s : Str) : Str := ⟨#[s.cps.toList.getLastD 0]⟩
def RowsOk (rows : List (Str × Str)) : Prop := ∀ r ∈ rows, Wl r.1 ∧ Wl r.2
theorem Wl.chars {s : Str} (h : Wl s) : ∀ d ∈ s.cps.toList, d = 46 ∨ (97 ≤ d ∧ d ≤ 104) := by
  obtain ⟨_, p, c, e, _, hc, hd⟩ := h
  intro d h
  rw [e] at h
  rcases List.mem_append.mp h with h | h
  · exact hd d h
  · rw [List.mem_singleton.mp h]; exact .inr hc
theorem P_lenN (rows : List (Str × Str)) (h : RowsOk rows) : (pageN rows).length ≤ 2 + 140 * rows.length := by
  induction rows with
  | nil => decide
  | cons r rows ih =>
    have h0 := h r (List.mem_cons_self ..)
    have h1 := ih fun r hr => h r (List.mem_cons_of_mem _ hr)
    have := h0.1.1
    have := h0.2.1
    unfold pageN
    simp only [Str.length_append, List.length_cons]
    have e1 : (⟨#[58, 32]⟩ : Str).length = 2 := rfl
    have e2 : (⟨#[10]⟩ : Str).length = 1 := rfl
    omega
theorem P_above (r : Str × Str) (rest : List (Str × Str)) (h : RowsOk (r :: rest)) : stripS (pageN (r :: rest)) = lastS r.1 := by
  obtain ⟨_, p, c, e, hp, hc, hd⟩ := (h r (List.mem_cons_self ..)).1
  rw [strip_last (p := p) (ch := c) (c := 58) (r := 32 :: (r.2 ++ (⟨#[10]⟩ : Str) ++ pageN rest).cps.toList) ?_ (.inl rfl) hp hc hd]
  · unfold lastS
    rw [e]
    simp
  · rw [← e]
    rw [pageN_cons]
    simp only [Str.cps_append, Array.toList_append]
    simp
theorem P_below (r : Str × Str) (rest : List (Str × Str)) (h : RowsOk (r :: rest)) : stripS (r.2 ++ (⟨#[10]⟩ : Str) ++ pageN rest) = lastS r.2 := by
  obtain ⟨_, p, c, e, hp, hc, hd⟩ := (h r (List.mem_cons_self ..)).2
  rw [strip_last (p := p) (ch := c) (c := 10) (r := (pageN rest).cps.toList) ?_ (.inr rfl) hp hc hd]
  · unfold lastS
    rw [e]
    simp
  · rw [← e]
    simp only [Str.cps_append, Array.toList_append]
    simp
theorem P_at1 (r : Str × Str) (rest : List (Str × Str)) (h : RowsOk (r :: rest)) : ∀ k, k < r.1.length → ¬ At (pageN (r :: rest)) ⟨#[58, 32]⟩ (pageN (r :: rest)).length k := by
  intro k hk ha
  have h1 := ((at_two ..).mp ha).2.1
  rw [pageN_cons] at h1
  simp only [Str.cps_append, Array.toList_append, List.append_assoc] at h1
  rw [getl (by rw [← lenL]; exact hk)] at h1
  have := (h r (List.mem_cons_self ..)).1.chars _ (List.mem_of_getElem? h1)
  omega
theorem P_split1 (r : Str × Str) (rest : List (Str × Str)) (h : RowsOk (r :: rest)) : Txt.splitMax (pageN (r :: rest)) (Str.ofString ": ") 1 = [r.1, r.2 ++ (⟨#[10]⟩ : Str) ++ pageN rest] := by
  have e : Str.ofString ": " = ⟨#[58, 32]⟩ := by decide +kernel
  rw [e]
  exact (split_at (pageN_cons r rest) (by decide +kernel) (by decide) (P_at1 r rest h)).2
theorem P_in (r : Str × Str) (rest : List (Str × Str)) (h : RowsOk (r :: rest)) : (Builtin.Str.occurrences (pageN (r :: rest)) (Str.ofString ": ") 0 (pageN (r :: rest)).length 1).isEmpty = false := by
  have e : Str.ofString ": " = ⟨#[58, 32]⟩ := by decide +kernel
  rw [e, (split_at (pageN_cons r rest) (by decide +kernel) (by decide) (P_at1 r rest h)).1]
  rfl
theorem P_split2 (r : Str × Str) (rest : List (Str × Str)) (h : RowsOk (r :: rest)) : Txt.splitMax (r.2 ++ (⟨#[10]⟩ : Str) ++ pageN rest) (Str.ofString "\n") 1 = [r.2, pageN rest] := by
  have e : Str.ofString "\n" = ⟨#[10]⟩ := by decide +kernel
  rw [e]
  refine (split_at rfl (by decide +kernel) (by decide) fun k hk ha => ?_).2
  have h1 := ((at_one ..).mp ha).2
  simp only [Str.cps_append, Array.toList_append, List.append_assoc] at h1
  rw [getl (by rw [← lenL]; exact hk)] at h1
  have := (h r (List.mem_cons_self ..)).2.chars _ (List.mem_of_getElem? h1)
  omega
theorem pageOf_nil : pageOf [] = ⟨#[13, 10]⟩ := by decide +kernel
theorem pageOf_cons (r : Str × Str) (rest : List (Str × Str)) : pageOf (r :: rest) = fmtRow r ++ (⟨#[13, 10]⟩ : Str) ++ pageOf rest := by
  have e : Str.ofString "\x0d\n" = ⟨#[13, 10]⟩ := by decide +kernel
  unfold pageOf Txt.join
  rw [glued_eq_join, glued_eq_join, e]
  cases rest with
  | nil => rfl
  | cons r2 rest => rfl
theorem P_len (rows : List (Str × Str)) (h : RowsOk rows) : (pageOf rows).length ≤ 2 + 140 * rows.length := by
  induction rows with
  | nil => rw [pageOf_nil]; decide
  | cons r rows ih =>
    have h0 := h r (List.mem_cons_self ..)
    have h1 := ih fun r hr => h r (List.mem_cons_of_mem _ hr)
    have := h0.1.1
    have := h0.2.1
    rw [pageOf_cons]
    unfold fmtRow
    simp only [Str.length_append, List.length_cons]
    have e1 : (⟨#[58, 32]⟩ : Str).length = 2 := rfl
    have e2 : (⟨#[13, 10]⟩ : Str).length = 2 := rfl
    omega
def rep : List Nat → List Nat
  | [] => []
  | [c] => [c]
  | c :: d :: r => if c = 13 ∧ d = 10 then 10 :: rep r else c :: rep (d :: r)
theorem rep_cons {c : Nat} {r : List Nat} (h : ∀ d r', r = d :: r' → ¬ (c = 13 ∧ d = 10)) : rep (c :: r) = c :: rep r := by
  cases r with
  | nil => rfl
  | cons d r =>
    rw [rep, if_neg (h d r rfl)]
theorem rep_app {a l : List Nat} (h : ∀ c ∈ a, c ≠ 13) : rep (a ++ l) = a ++ rep l := by
  induction a with
  | nil => rfl
  | cons c a ih =>
    rw [List.cons_append, rep_cons (fun d _ _ hd => h c (List.mem_cons_self ..) hd.1), ih fun c hc => h c (List.mem_cons_of_mem _ hc)]
    rfl
theorem rep_crlf (l : List Nat) : rep (13 :: 10 :: l) = 10 :: rep l := by
  rw [rep, if_pos ⟨rfl, rfl⟩]
theorem rep_run (x : Str) : ∀ (n a : Nat), a + n ≤ x.length → (∀ k, a ≤ k → k < a + n → ¬ At x ⟨#[13, 10]⟩ x.length k) → rep (x.cps.toList.drop a) = (x.cps.toList.drop a).take n ++ rep (x.cps.toList.drop (a + n))
  | 0, a, _, _ => by simp
  | n + 1, a, h, hn => by
    have ih := rep_run x n (a + 1) (by omega) fun k h1 h2 => hn k (by omega) (by omega)
    have hl : a < x.cps.toList.length := by rw [← lenL]; omega
    have e : x.cps.toList.drop a = x.cps.toList[a] :: x.cps.toList.drop (a + 1) := List.drop_eq_getElem_cons hl
    have e3 : a + 1 + n = a + (n + 1) := by omega
    rw [e, rep_cons, ih, e3]
    · rfl
    · intro d r' hr hc
      have e2 : x.cps.toList[a + 1]? = some d := by
        have := congrArg (·[0]?) hr
        simpa using this
      refine hn a (Nat.le_refl _) (by omega) ((at_two ..).mpr ⟨?_, ?_, ?_⟩)
      · have := (List.getElem?_eq_some_iff.mp e2).1
        rw [lenL]; omega
      · rw [List.getElem?_eq_getElem hl, hc.1]
      · rw [e2, hc.2]
theorem rep_chain (x : Str) : ∀ (cuts : List Nat) (a f : Nat), a ≤ x.length → ChainG x ⟨#[13, 10]⟩ x.length a cuts f → (∀ k, f ≤ k → ¬ At x ⟨#[13, 10]⟩ x.length k) → (Str.join ⟨#[10]⟩ (partsFrom x 2 a cuts)).cps.toList = rep (x.cps.toList.drop a)
  | [], a, f, ha, h, hn => by
    have e : f = a := h
    subst e
    have := rep_run x (x.length - f) f (by omega) fun k h1 _ => hn k h1
    rw [this]
    show (strSub x f x.length).cps.toList = _
    rw [strSub_toList]
    have e2 : f + (x.length - f) = x.cps.toList.length := by rw [← lenL]; omega
    rw [e2, List.drop_length]
    simp [rep]
  | c :: r, a, f, ha, h, hn => by
    obtain ⟨h1, h2, h3, h4⟩ := h
    have h2' := (at_two ..).mp h2
    have ih := rep_chain x r (c + 2) f (by omega) h4 hn
    obtain ⟨q, rr, hq⟩ := partsFrom_ne x 2 (c + 2) r
    have hb := rep_run x (c - a) a (by omega) fun k h5 h6 => h3 k h5 (by omega)
    have e1 : a + (c - a) = c := by omega
    rw [e1] at hb
    rw [hb]
    show (Str.join ⟨#[10]⟩ (strSub x a c :: partsFrom x 2 (c + 2) r)).cps.toList = _
    have hj : Str.join ⟨#[10]⟩ (strSub x a c :: partsFrom x 2 (c + 2) r) = strSub x a c ++ (⟨#[10]⟩ : Str) ++ Str.join ⟨#[10]⟩ (partsFrom x 2 (c + 2) r) := by rw [hq]; rfl
    rw [hj]
    simp only [Str.cps_append, Array.toList_append, ih, strSub_toList]
    have hl1 : c < x.cps.toList.length := by rw [← lenL]; omega
    have hl2 : c + 1 < x.cps.toList.length := by rw [← lenL]; omega
    have e2 : x.cps.toList.drop c = 13 :: 10 :: x.cps.toList.drop (c + 2) := by
      rw [List.drop_eq_getElem_cons hl1, List.drop_eq_getElem_cons hl2]
      have g1 := h2'.2.1
      have g2 := h2'.2.2
      rw [List.getElem?_eq_getElem hl1] at g1
      rw [List.getElem?_eq_getElem hl2] at g2
      rw [Option.some.inj g1, Option.some.inj g2]
    rw [e2, rep_crlf]
    simp
theorem replace_rep (x : Str) : (Txt.replace x ⟨#[13, 10]⟩ ⟨#[10]⟩).cps.toList = rep x.cps.toList := by
  obtain ⟨f, h1, h2⟩ := occ_tight x ⟨#[13, 10]⟩ (by decide)
  have key := rep_chain x _ 0 f (Nat.zero_le _) h1 h2
  rw [List.drop_zero] at key
  rw [← key]
  unfold Txt.replace
  cases hc : occurrences x ⟨#[13, 10]⟩ 0 x.length (x.length + 1) with
  | nil =>
    show x.cps.toList = (strSub x 0 x.length).cps.toList
    rw [sub_whole]
  | cons c r =>
    rw [if_neg (by simp [Str.length]), partsBetween_eq, glued_eq_join]
    rfl
theorem P_repl (rows : List (Str × Str)) (h : RowsOk rows) : Txt.replace (pageOf rows) (Str.ofString "\x0d\n") (Str.ofString "\n") = pageN rows := by
  have e : Str.ofString "\x0d\n" = ⟨#[13, 10]⟩ := by decide +kernel
  have e2 : Str.ofString "\n" = ⟨#[10]⟩ := by decide +kernel
  rw [e, e2]
  apply Str.ext'
  apply Array.toList_inj.mp
  rw [replace_rep]
  induction rows with
  | nil => rw [pageOf_nil]; rfl
  | cons r rows ih =>
    have h0 := h r (List.mem_cons_self ..)
    have h1 := ih fun r hr => h r (List.mem_cons_of_mem _ hr)
    rw [pageOf_cons, pageN_cons]
    unfold fmtRow
    simp only [Str.cps_append, Array.toList_append, List.append_assoc, ← h1]
    rw [rep_app (fun c hc => by have := h0.1.chars c hc; omega), rep_app (fun c hc => by simp at hc; omega), rep_app (fun c hc => by have := h0.2.chars c hc; omega)]
    show _ ++ (_ ++ (_ ++ rep (13 :: 10 :: (pageOf rows).cps.toList))) = _
    rw [rep_crlf]
    rfl
end Mine
end PartPS

/- part W8 -/
section PartW8
open PySem PySem.W PyProof.Rows Mine
set_option Elab.async false
set_option maxRecDepth 100000
set_option maxHeartbeats 4000000
namespace Mine
theorem gentoks1 {α : Type} {M : Model} {A : Around} {t : Sem α} {Q : α → Shared → Prop} {E : Value → Shared → Prop} {h : Heap} {g : Array GenState} {d : Drawn} {o : OsState} {k j : Nat} (hn : 1 ≤ k + j) (c : ∀ k', 1 ≤ k' → wpAny M A t Q E ⟨h, g, d, k', o⟩) : wpAny M A t Q E ⟨h, g, d, k + j, o⟩ := c _ hn
abbrev Quad := Str × Str × Str × Str
def quad (r : Str × Str) : Quad := (r.1, lastS r.1, r.2, lastS r.2)
abbrev quadOf (q : Quad) (t1 t2 t3 t4 : Tok) : Obj := { cls := Value.type "tuple", data := Data.seq [Value.str q.1 t1, Value.str q.2.1 t2, Value.str q.2.2.1 t3, Value.str q.2.2.2 t4].toArray }
inductive QuadsAre (im : List (Addr × Obj)) : List Value → List Quad → Prop
  | nil : QuadsAre im [] []
  | cons {b : Addr} {q : Quad} {t1 t2 t3 t4 : Tok} {vs : List Value} {qs : List Quad} : (b, quadOf q t1 t2 t3 t4) ∈ im → QuadsAre im vs qs → QuadsAre im (Value.ref b :: vs) (q :: qs)
theorem QuadsAre.mono {im im' : List (Addr × Obj)} {vs : List Value} {qs : List Quad} (h : QuadsAre im vs qs) (hs : ∀ p ∈ im, p ∈ im') : QuadsAre im' vs qs := by
  induction h with
  | nil => exact .nil
  | cons hb _ ih => exact .cons (hs _ hb) ih
theorem QuadsAre.snoc {im : List (Addr × Obj)} {vs : List Value} {qs : List Quad} {b : Addr} {q : Quad} {t1 t2 t3 t4 : Tok} (h : QuadsAre im vs qs) (hb : (b, quadOf q t1 t2 t3 t4) ∈ im) : QuadsAre im (vs ++ [Value.ref b]) (qs ++ [q]) := by
  induction h with
  | nil => exact .cons hb .nil
  | cons hc _ ih => exact .cons hc ih
theorem QuadsAre.length {im : List (Addr × Obj)} {vs : List Value} {qs : List Quad} (h : QuadsAre im vs qs) : vs.length = qs.length := by
  induction h with
  | nil => rfl
  | cons _ _ ih => rw [List.length_cons, List.length_cons, ih]
theorem PairsAre.mono {im im' : List (Addr × Obj)} {vs : List Value} {rows : List (Str × Str)} (h : PairsAre im vs rows) (hs : ∀ p ∈ im, p ∈ im') : PairsAre im' vs rows := by
  induction h with
  | nil => exact .nil
  | cons hb _ ih => exact .cons (hs _ hb) ih
theorem two_of {l : List (Str × Tok)} {a b : Str} (h : l.map (·.1) = [a, b]) : ∃ t u, l = [(a, t), (b, u)] := by
  match l, h with
  | [(a', t), (b', u)], h =>
    simp at h
    obtain ⟨rfl, rfl⟩ := h
    exact ⟨t, u, rfl⟩
theorem N_swap4 {h₀ h : Heap} {L : Addr} {q a b c e : Addr × Obj} {im : List (Addr × Obj)} (N : News h₀ L h (q :: a :: b :: c :: e :: im)) : News h₀ L h (a :: b :: c :: e :: q :: im) := cb_drop N (by
  repeat' (first | refine sub_cons ?_ ?_ | exact .head _ | refine .tail _ ?_ | exact hp | intro p hp))
theorem Wl.len {s : Str} (h : Wl s) : s.length ≤ 64 := h.1
theorem fr_say2 {h₀ h : Heap} {L : Addr} {m : Str → Option Value} {x y : Str} {v w : Value} (F : Fr h₀ L h m) (hx : m x = some v) (hy : m y = some w) : Fr h₀ L h (fun z => if z = x then some v else if z = y then some w else m z) := by
  have e : (fun z => if z = x then some v else if z = y then some w else m z) = m := by
    funext z
    by_cases h : z = x
    · rw [if_pos h, h, hx]
    · rw [if_neg h]
      by_cases h2 : z = y
      · rw [if_pos h2, h2, hy]
      · rw [if_neg h2]
  rw [e]; exact F
def RowsJ (x d l : Addr) (ox od ol : Obj) (im : List (Addr × Obj)) (rows : List (Str × Str)) (n : Nat) (m : Str → Option Value) (nw : List (Addr × Obj)) : Prop :=
  ∃ r ws j qim done rest t, nw = (r, listOf (List.toArray ws) j) :: (x, ox) :: (d, od) :: (l, ol) :: (qim ++ im) ∧ QuadsAre qim ws (List.map quad done) ∧ rows = done ++ rest ∧ n = rest.length ∧
    m (Str.ofString "page") = some (.str (pageN rest) t) ∧ m (Str.ofString "rows") = some (.ref r) ∧ (∀ p ∈ qim ++ im, p.1 ≠ r) ∧ (∀ p ∈ qim ++ im, p.1 ≠ l) ∧ @Ne Nat x r ∧ @Ne Nat d r ∧ @Ne Nat l r ∧ (∀ p ∈ qim, ∀ q ∈ im, @LT.lt Nat _ q.1 p.1)
theorem RowsJ.out {x d l : Addr} {ox od ol : Obj} {im : List (Addr × Obj)} {rows : List (Str × Str)} {n : Nat} {m : Str → Option Value} {nw : List (Addr × Obj)} {G : Prop} (h : RowsJ x d l ox od ol im rows n m nw)
    (y : ∀ r ws j qim im' done rest t, qim ++ im = im' → nw = (r, listOf (List.toArray ws) j) :: (x, ox) :: (d, od) :: (l, ol) :: im' → QuadsAre qim ws (List.map quad done) → rows = done ++ rest → n = rest.length →
      m (Str.ofString "page") = some (.str (pageN rest) t) → m (Str.ofString "rows") = some (.ref r) → (∀ p ∈ im', p.1 ≠ r) → (∀ p ∈ im', p.1 ≠ l) → @Ne Nat x r → @Ne Nat d r → @Ne Nat l r → (∀ p ∈ qim, ∀ q ∈ im, @LT.lt Nat _ q.1 p.1) → G) : G := by
  obtain ⟨r, ws, j, qim, done, rest, t, e, q1, q2, q3, q4, q5, q6, q7, q8, q9, q10, q11⟩ := h
  exact y r ws j qim _ done rest t rfl e q1 q2 q3 q4 q5 q6 q7 q8 q9 q10 q11
theorem RowsJ.mk {x d l : Addr} {ox od ol : Obj} {im im' qim : List (Addr × Obj)} {rows done rest : List (Str × Str)} {m : Str → Option Value} {r : Addr} {ws : List Value} {j : Nat} {t : Tok} (e : qim ++ im = im')
    (q1 : QuadsAre qim ws (List.map quad done)) (q2 : rows = done ++ rest) (q4 : m (Str.ofString "page") = some (.str (pageN rest) t)) (q5 : m (Str.ofString "rows") = some (.ref r))
    (q6 : ∀ p ∈ im', p.1 ≠ r) (q7 : ∀ p ∈ im', p.1 ≠ l) (q8 : @Ne Nat x r) (q9 : @Ne Nat d r) (q10 : @Ne Nat l r) (q11 : ∀ p ∈ qim, ∀ q ∈ im, @LT.lt Nat _ q.1 p.1) :
    RowsJ x d l ox od ol im rows rest.length m ((r, listOf (List.toArray ws) j) :: (x, ox) :: (d, od) :: (l, ol) :: im') := by
  subst e
  exact ⟨r, ws, j, qim, done, rest, t, rfl, q1, q2, rfl, q4, q5, q6, q7, q8, q9, q10, q11⟩
local macro_rules | `(tactic| k_room) => `(tactic| ktr_room)
local macro_rules | `(tactic| k_units) => `(tactic| (ktr_units))
local macro_rules | `(tactic| walk_at "execs cons") => `(tactic| (k_here; refine gentoks1 (by first | omega | exact Nat.le_trans (by with_unfolding_all exact (Nat.le_refl 1)) (Nat.le_add_left _ _)) ?_; intro _ _))
local macro_rules | `(tactic| walk_at "call type:str") => `(tactic| (k_here; refine Hold.out ?_))
local macro_rules | `(tactic| walk_at "call builtin:str.replace") => `(tactic| (k_here; refine Hold.out ?_))
local macro_rules | `(tactic| walk_at "exec While") => `(tactic| (k_here; refine Hold.out ?_))
local macro_rules | `(tactic| walk_at "compareOp In str str") => `(tactic| (k_here; refine in_str ?_; (with_reducible rename (List.isEmpty _ = _) => hin9); rw [hin9]; clear hin9; (try dsimp only [Bool.not_false, Bool.not_true])))
local macro_rules | `(tactic| walk_at "call ref") => `(tactic| (k_here; (with_reducible show wpAny _ _ (call (Value.ref 59) _ _) _ _ _); k_dflt (refine' strip_c _ _ _ _ _ _ _ _ _ ?ko _ _ _ _ _ _ _ _ _ _ _ _ _ _ _ _ _ ?kB ?kF ?kX ?kN ?kT ?kk ?kd ?ku ?_; (case kB => k_asm); (case kF => k_asm); (case kX => k_asm); (case kN => k_asm); (case kT => k_asm); (case kk => exact rfl); (case kd => ktr_room); (case ku => ktr_units); (case ko => omega); k_whole); intro t' h' tk' F' N'; (try k_sweep); (try dsimp only)))
local macro_rules | `(tactic| walk_at "call builtin:str.split") => `(tactic| (k_here; refine Hold.out ?_))
local macro_rules | `(tactic| walk_at "call builtin:list.append") => `(tactic| (k_here; (with_reducible show wpAny _ _ (call (Value.builtin _) [Value.ref _, Value.ref _]) _ _ _); refine Hold.out ?_))
local macro_rules | `(tactic| k_all) => `(tactic| with_reducible assumption)
theorem rows_c : ∀ (w : World) (p : Program) (loose : List Str) (mean : ExcName → Option Value) (mg mb : Str → Option Value) (x d l : Addr) (kt : Tok) (vs : List Value) (n : Nat) (rows : List (Str × Str)) (im : List (Addr × Obj)) (hp : PairsAre im vs rows) (hro : RowsOk rows) (hvs : vs.length ≤ 16) (o3 : ∀ p ∈ im, p.1 ≠ l)
    (dp un : Nat) (gd : Option (List Code)) (cn : Str) (cs : Scope) (a : Addr) (ccd : Value) (cl : List (Str × Addr)) (outer : List Env) (A₀ : Around) (base h₀ : Heap) (L : Addr) (m : Str → Option Value) (s : Shared) (Q E : Value → Shared → Prop)
    (B : Below A₀ base outer h₀) (F : Fr h₀ L s.heap m) (X : (hd.heap_39 w.params).In h₀) (N : News h₀ L s.heap ((x, instObj 203 d) :: (d, headTab w l kt) :: (l, listOf vs.toArray n) :: im)) (T : Top p loose mean mg mb h₀) (hcs : cs.kind = .function) (hdp : dp + 6 < recursionLimit) (hun : un + 50 < cLine)
    (hret : ∀ (r : Addr) (ws : List Value) (j : Nat) (qim : List (Addr × Obj)) (h' : Heap) (tk' : Nat), Fr h₀ L h' m → News h₀ L h' ((r, listOf ws.toArray j) :: (x, instObj 203 d) :: (d, headTab w l kt) :: (l, listOf vs.toArray n) :: (qim ++ im)) → QuadsAre qim ws (List.map quad rows) →
      (∀ p ∈ qim ++ im, p.1 ≠ r) → (∀ p ∈ qim ++ im, p.1 ≠ l) → @Ne Nat x r → @Ne Nat d r → @Ne Nat l r → (∀ p ∈ qim, ∀ q ∈ im, @LT.lt Nat _ q.1 p.1) → Q (.ref r) { s with heap := h', toks := tk' }),
    wpAny (model PySem.Challenge.rw_pg0256_01.row.prog w) (ktrTop dp un gd cn cs L a ccd cl outer) (call (.ref 224) [.ref x]) Q E s := by
  w_top off
  k_fill
  intro w p loose mean mg mb x d l kt vs n rows im hp hro hvs o3 dp un gd cn cs a ccd cl outer A₀ base h₀ L m s Q E B F X N T hcs hdp hun hret
  obtain ⟨ck, c2, c3, c4, c5⟩ := cs
  cases (show ck = .function from hcs)
  have hr : ∀ r ∈ rows, r.1.length ≤ 64 ∧ r.2.length ≤ 64 := fun r h => ⟨(hro r h).1.1, (hro r h).2.1⟩
  k_steps
  unfold Hold
  refine wpAny_with_toks (n := 1) (by first | omega | (simp only []; omega)) ?_
  k_dflt (refine' str_c _ _ _ _ _ _ _ _ _ _ _ _ _ _ hp hr (by omega) _ _ _ _ _ _ _ _ _ _ _ _ _ _ _ _ _ ?kB ?kF ?kX ?kN ?kT ?kk ?kd ?ku ?_)
  case kB => k_asm
  case kF => k_asm
  case kX => k_asm
  case kN => k_asm
  case kT => k_asm
  case kk => exact rfl
  case kd => ktr_room
  case ku => ktr_units
  intro t1 h1 tk1 F1 N1 htk1
  replace htk1 : 1 ≤ tk1 := htk1
  k_sweep
  have hrl : rows.length ≤ 16 := by rw [← hp.length]; exact hvs
  have hpl : (pageOf rows).length ≤ 3000 := Nat.le_trans (P_len rows hro) (by omega)
  k_steps
  unfold Hold
  refine SC.replaceW (by (show @Ne Nat _ _); first | omega | (simp only []; omega)) (by (show @Ne Nat _ _); first | omega | (simp only []; omega)) (by (show @Ne Nat _ _); first | omega | (simp only []; omega)) (by decide +kernel) (by omega) (by decide +kernel) ?_
  intro t2 tk2
  k_steps
  unfold Hold
  rw [P_repl rows hro] at *
  rename Fr _ _ _ _ => F2
  rename News _ _ _ _ => N2
  refine' While_inv (RowsJ x d l (instObj 203 d) (headTab w l kt) (listOf vs.toArray n) im rows) (n₀ := rows.length) F2 N2 ?j0 ?_
  case j0 =>
    (with_reducible rename And (_ < _) _ => l9)
    exact RowsJ.mk (ws := []) (j := 0) (qim := []) (done := []) rfl .nil rfl rfl rfl (fun p hp => Nat.ne_of_lt (ktn_ltOf l9.2.2.2 p hp)) o3 (Nat.ne_of_lt l9.1) (Nat.ne_of_lt l9.2.1) (Nat.ne_of_lt l9.2.2.1) (fun p hp => nomatch hp)
  intro c m₁ news₁ h₁ tk₁ F3 N3 hz9
  refine RowsJ.out hz9 ?_
  intro r ws j qim im' done rest t him' e9 hq hrows e8 hm1 hm2 ho1 ho2 ho3 ho4 ho5 ho6
  rw [e9] at N3
  clear hz9 e9
  subst e8
  replace F3 := fr_say2 F3 hm1 hm2
  clear F2 N2
  have hpn : (pageN rest).length ≤ 3000 := Nat.le_trans (P_lenN rest (fun r h => hro r (by rw [hrows]; exact List.mem_append_right _ h))) (by have := congrArg List.length hrows; rw [List.length_append] at this; omega)
  cases rest with
  | nil =>
    have hin : (Builtin.Str.occurrences (pageN []) (Str.ofString ": ") 0 (pageN []).length 1).isEmpty = true := by decide +kernel
    k_steps
    (with_reducible rename Fr h₀ L _ m => F9)
    (with_reducible rename News h₀ L _ _ => N9)
    have hrows' : rows = done := by rw [hrows, List.append_nil]
    subst hrows'
    subst him'
    exact hret r ws j qim _ _ F9 N9 hq ho1 ho2 ho3 ho4 ho5 ho6
  | cons r1 rest =>
    have hro1 : RowsOk (r1 :: rest) := fun r h => hro r (by rw [hrows]; exact List.mem_append_right _ h)
    have hin : (Builtin.Str.occurrences (pageN (r1 :: rest)) (Str.ofString ": ") 0 (pageN (r1 :: rest)).length 1).isEmpty = false := P_in _ _ hro1
    k_steps
    unfold Hold
    rename Fr _ _ _ _ => F4
    rename News _ _ _ _ => N4
    k_dflt (refine' splitN2A F4 N4 ?k1 ?k2 ?_ ?k3)
    case k1 => decide +kernel
    case k2 => decide
    case k3 => size_fits
    intro l1 h4 tk4 hl _ _ _ F5 N5
    rw [P_split1 _ _ hro1] at hl
    refine slimG ?_
    intro hG9
    obtain ⟨t5, t6, rfl⟩ := two_of hl
    refine hG9 ?_
    clear hG9
    have e5 : strValues [(r1.1, t5), (r1.2 ++ (⟨#[10]⟩ : Str) ++ pageN rest, t6)] = [Value.str r1.1 t5, Value.str (r1.2 ++ (⟨#[10]⟩ : Str) ++ pageN rest) t6] := rfl
    rw [e5] at N5
    have hpn2 : (r1.2 ++ (⟨#[10]⟩ : Str) ++ pageN rest).length ≤ 3000 := by unfold pageN at hpn; rw [Str.length_append] at hpn; omega
    have hpn3 : (pageN rest).length ≤ 3000 := by rw [Str.length_append] at hpn2; omega
    clear hl N4 F4 e5
    k_sweep
    (try dsimp only)
    k_steps
    unfold Hold
    rename Fr _ _ _ _ => F4
    rename News _ _ _ _ => N4
    k_dflt (refine' splitN2A F4 N4 ?k1 ?k2 ?_ ?k3)
    case k1 => decide +kernel
    case k2 => decide
    case k3 => size_fits
    intro l1 h4 tk4 hl _ _ _ F5 N5
    rw [P_split2 _ _ hro1] at hl
    refine slimG ?_
    intro hG9
    obtain ⟨t7, t8, rfl⟩ := two_of hl
    refine hG9 ?_
    clear hG9
    have e5 : strValues [(r1.2, t7), (pageN rest, t8)] = [Value.str r1.2 t7, Value.str (pageN rest) t8] := rfl
    rw [e5] at N5
    clear hl N4 F4 e5
    k_sweep
    (try dsimp only)
    k_steps
    unfold Hold
    rename Fr _ _ _ _ => F4
    rename News _ _ _ _ => N9
    rw [P_above _ _ hro1, P_below _ _ hro1] at N9
    have N8 := cb_drop (news := (_, quadOf (quad r1) _ _ _ _) :: (r, listOf ws.toArray j) :: (x, instObj 203 d) :: (d, headTab w l kt) :: (l, listOf vs.toArray n) :: im') N9 (by kcj_all)
    clear N9
    have hwl : ws.length ≤ 16 := by rw [hq.length, List.length_map]; have := congrArg List.length hrows; rw [List.length_append] at this; omega
    k_dflt (refine' append_K ?k1 N8 ?k3 ?_ ?z)
    case k1 => k_asm
    case k3 => k_upd
    case z => size_fits
    intro h9 F9 N9
    clear N8 F4
    k_sweep
    (try dsimp only)
    k_steps
    (with_reducible rename And (_ < _) _ => l9)
    refine cut7 l9 ?_
    intro _ _ l5 l6 l7 l8 l10
    simp only [List.push_toArray] at N9
    rw [← him'] at l10
    refine WhileStep.intro (n' := rest.length) F9 (N_swap4 N9) (Nat.lt_succ_self _) (RowsJ.mk (qim := _ :: qim) (done := done ++ [r1]) (by rw [List.cons_append, him']) ?_ ?_ rfl ?_ (off_cons (fun e => absurd l5 (e ▸ Nat.lt_irrefl _)) ho1) (off_cons (fun e => absurd l8 (e ▸ Nat.lt_irrefl _)) ho2) ho3 ho4 ho5 ?_)
    · rw [List.map_append]
      exact QuadsAre.snoc (hq.mono fun p hp => List.mem_cons_of_mem _ hp) (List.mem_cons_self ..)
    · rw [hrows, List.append_assoc]; rfl
    · rfl
    · intro p hp q hq
      rcases List.mem_cons.mp hp with rfl | hp
      · exact ktn_ltOf l10 q (List.mem_append_right _ hq)
      · exact ho6 p hp q hq
end Mine
end PartW8

/- part S9 -/
section PartS9
open PySem PySem.W PyProof.Rows Mine
set_option Elab.async false
set_option maxRecDepth 100000
set_option maxHeartbeats 4000000
namespace Mine
theorem N_front5 {h₀ h : Heap} {L : Addr} {a b c d e f : Addr × Obj} {im : List (Addr × Obj)} (N : News h₀ L h (a :: b :: c :: d :: e :: f :: im)) : News h₀ L h (f :: a :: b :: c :: d :: e :: im) := cb_drop N (by
  repeat' (first | refine sub_cons ?_ ?_ | exact .head _ | refine .tail _ ?_ | exact hp | intro p hp))
theorem with_obj {h₀ h : Heap} {L : Addr} {f : Addr} {o : Obj} {rest : List (Addr × Obj)} {P : Prop} (N : News h₀ L h ((f, o) :: rest)) (k : ∀ fo, fo = o → News h₀ L h ((f, fo) :: rest) → P) : P := k o rfl N
theorem ki_setL_of : ∀ {l : List Value} {k : Nat} {v : Value}, k < l.length → ki_setL l k v = some (l.set k v)
  | a :: r, 0, v, _ => rfl
  | a :: r, k + 1, v, h => by
    have := ki_setL_of (l := r) (k := k) (v := v) (Nat.lt_of_succ_lt_succ h)
    simp [ki_setL, this]
def digsOf (n x d : Nat) : List Nat := (List.range d).map fun i => dig n x i d
theorem digs_pos {n x d : Nat} (hn : 3 ≤ n) (hx : x ≠ 0) (hd : Int.fdiv ((Builtin.Int.intBits (x : Int) : Int) + n - 1) n = (d : Int)) : 0 < d := by
  have h1 : 1 ≤ Builtin.Int.intBits (x : Int) := by
    unfold Builtin.Int.intBits
    split
    · rename_i h; simp at h; omega
    · omega
  have h2 : (n : Int) ≤ (Builtin.Int.intBits (x : Int) : Int) + n - 1 := by omega
  rw [Int.fdiv_eq_ediv_of_nonneg _ (by omega)] at hd
  have := Int.le_ediv_of_mul_le (a := 1) (b := (Builtin.Int.intBits (x : Int) : Int) + n - 1) (c := n) (by omega) (by omega)
  omega
theorem digs_nil {n x d : Nat} (hn : 3 ≤ n) (hx : x = 0) (hd : Int.fdiv ((Builtin.Int.intBits (x : Int) : Int) + n - 1) n = (d : Int)) : d = 0 := by
  subst hx
  have e : Builtin.Int.intBits ((0 : Nat) : Int) = 0 := rfl
  rw [e, Int.fdiv_eq_ediv_of_nonneg _ (by omega)] at hd
  have := Int.ediv_lt_of_lt_mul (a := ((0 : Nat) : Int) + n - 1) (b := 1) (c := n) (by omega) (by omega)
  omega
theorem digs_are {vs : List Value} {n x d : Nat} (hl : vs.length = d) (h : ∀ i, i < d → ∃ t, vs[i]? = some (Value.int (dig n x i d : Int) t)) : IntsAre vs ((digsOf n x d).map Int.ofNat) := by
  have key : ∀ (vs : List Value) (k : Nat), (∀ i, i < vs.length → ∃ t, vs[i]? = some (Value.int (dig n x (k + i) d : Int) t)) → IntsAre vs (((List.range' k vs.length).map fun i => dig n x i d).map Int.ofNat) := by
    intro vs
    induction vs with
    | nil => intro k _; exact .nil
    | cons v vs ih =>
      intro k h
      obtain ⟨t, ht⟩ := h 0 (by simp)
      simp at ht
      subst ht
      refine .cons _ _ (ih (k + 1) fun i hi => ?_)
      obtain ⟨t, ht⟩ := h (i + 1) (by simp; omega)
      refine ⟨t, ?_⟩
      have e : k + (i + 1) = k + 1 + i := by omega
      rw [e] at ht
      simpa using ht
  subst hl
  have := key vs 0 (by simpa using h)
  rw [← List.range_eq_range'] at this
  exact this
def TabOk (line col : Nat) (qual : Str) (ps : Array Value) (im : List (Addr × Obj)) : Prop :=
  ps = #[] ∨ ∃ (c' : Addr) (oc : Obj) (vs : Array Value) (t : Tok), ps = #[rawInt line, rawInt col, .ref c'] ∧ (c', oc) ∈ im ∧ oc.data = .fields vs ∧ vs[1]? = some (.str qual t)
section
variable {M : Model} {A : Around} {E : Value → Shared → Prop} {s : Shared} {h₀ : Heap} {L a c P : Addr} {m mg mb : Str → Option Value} {cn : Str} {cs : Scope} {ccd : Value} {cl : List (Str × Addr)} {news : List (Addr × Obj)}
  {p : Program} {loose : List Str} {mean : ExcName → Option Value} {name qual : Str} {params : Arguments} {body : List Stmt} {scope : Scope} {ps : Array Value} {pos : Pos} {firstLine : Nat} {clos : List (Str × Addr)}
theorem nest_both {Q : Value → Shared → Prop} {ex im im0 : List (Addr × Obj)} (F : Fr h₀ L s.heap m) (N : News h₀ L s.heap ((P, tabObj ps) :: (ex ++ im))) (hne : ∀ p ∈ ex ++ im, p.1 ≠ P) (hex : ∀ q ∈ ex, ∀ p ∈ im, @LT.lt Nat _ p.1 q.1) (T : Top p loose mean mg mb h₀) (C : CodeHd h₀ c P) (hcd : ccd = .ref c) (hT : TabOk pos.line pos.col qual ps im0) (h0i : ∀ p ∈ im0, p ∈ im)
    (hcl : closureFor scope (envX cn cs L a ccd cl) = pure clos)
    (h : ∀ f c' oc vs t ctv doc h' tk, Fr h₀ L h' m →
      News h₀ L h' ((f, fnMade name qual params body scope clos doc ((mg "__name__").getD .none) c' ctv) :: (c', oc) :: (P, tabObj #[rawInt pos.line, rawInt pos.col, .ref c']) :: (ex ++ im)) →
      oc.data = .fields vs → vs[1]? = some (.str qual t) → (∀ q ∈ (P, tabObj ps) :: (ex ++ im), q.1 < f) → (∀ q ∈ (P, tabObj ps) :: ex, @Ne Nat q.1 c') → @LT.lt Nat _ c' f → ((c', oc) ∈ im0 ∨ ∀ q ∈ (P, tabObj ps) :: (ex ++ im), @LT.lt Nat _ q.1 c') → Q (.ref f) { s with heap := h', toks := tk }) :
    wpAny M A (makeFunction name qual params (.stmts body) scope (envX cn cs L a ccd cl) [] [] [] pos firstLine) Q E s := by
  rcases hT with rfl | ⟨c', oc, vs, t, rfl, hm, hd, hv⟩
  · refine nest_K F N T C hcd (UpdF.head hne) True.intro rfl hcl fun f c' oc vs t ctv doc h' tk F' N' hd hv l1 l2 => ?_
    refine h f c' oc vs t ctv doc h' tk F' N' hd hv (fun q hq => Nat.lt_trans (l1 q hq) l2) (fun q hq => Nat.ne_of_lt (l1 q ?_)) l2 (.inr l1)
    rcases List.mem_cons.mp hq with rfl | hq
    · exact .head _
    · exact .tail _ (List.mem_append_left _ hq)
  · refine nestHit_K F N T C hcd (.head _) (by simp [TriplesOk, rawInt]) (by simp [codeAmong, rawInt]; rfl) hcl fun f ctv doc h' tk F' N' l1 => ?_
    have hm0 := hm
    replace hm := h0i _ hm
    have hm' := List.mem_append_right ex hm
    refine h f c' oc vs t ctv doc h' tk F' (fun q hq => ?_) hd hv l1 (fun q hq => ?_) (l1 _ (.tail _ hm')) (.inl hm0)
    · rcases List.mem_cons.mp hq with rfl | hq
      · exact N' _ (.head _)
      · rcases List.mem_cons.mp hq with rfl | hq
        · exact N' _ (.tail _ (.tail _ hm'))
        · exact N' _ (.tail _ hq)
    · rcases List.mem_cons.mp hq with rfl | hq
      · exact (hne _ hm').symm
      · exact Nat.ne_of_gt (hex q hq _ hm)
end
local macro_rules | `(tactic| k_ne) => `(tactic| (refine neN ?_; (try dsimp only); first | exact Hold.ne (by with_reducible assumption) | exact Hold.ne' (by with_reducible assumption) | omega))
local macro_rules | `(tactic| k_room) => `(tactic| ktr_room)
local macro_rules | `(tactic| k_units) => `(tactic| (ktr_units))
theorem ne_above2 {L : Nat} {im : List (Addr × Obj)} (h : AllLt L im) : ∀ p ∈ im, @Ne Nat p.1 (L + 1 + 1) := fun p hp => Nat.ne_of_lt (Nat.lt_succ_of_lt (Nat.lt_succ_of_lt (ktn_ltOf h p hp)))
theorem ne_above3 {L : Nat} {im : List (Addr × Obj)} (h : AllLt L im) : ∀ p ∈ im, @Ne Nat p.1 (L + 1 + 1 + 1) := fun p hp => Nat.ne_of_lt (Nat.lt_succ_of_lt (Nat.lt_succ_of_lt (Nat.lt_succ_of_lt (ktn_ltOf h p hp))))
local macro_rules | `(tactic| k_all) => `(tactic| (first | with_reducible assumption | ((with_reducible refine ne_above ?_); with_reducible (first | assumption | exact And.right (by assumption) | exact And.right (And.right (by assumption)) | exact And.right (And.right (And.right (by assumption))))) | ((with_reducible refine ne_above2 ?_); with_reducible (first | assumption | exact And.right (by assumption) | exact And.right (And.right (by assumption)) | exact And.right (And.right (And.right (by assumption))))) | ((with_reducible refine ne_above3 ?_); with_reducible (first | assumption | exact And.right (by assumption) | exact And.right (And.right (by assumption)) | exact And.right (And.right (And.right (by assumption)))))))
local macro_rules | `(tactic| walk_at "exec FunctionDef") => `(tactic| (k_here; refine Hold.out ?_))
local macro_rules | `(tactic| walk_at "binaryOp Mult ref int") => `(tactic| (k_here; refine Hold.out ?_))
local macro_rules | `(tactic| walk_at "call builtin:len") => `(tactic| (k_here; refine Hold.out ?_))
local macro_rules | `(tactic| walk_at "call ref") => `(tactic| (k_here; (with_reducible show wpAny _ _ (call (Value.ref _) [_, _, _]) _ _ _); refine Hold.out ?_))
local macro_rules | `(tactic| walk_at "setItem ref int") => `(tactic| (k_here; refine Hold.out ?_))
local macro_rules | `(tactic| walk_at "eval Name") => `(tactic| (k_here; k_dflt (refine' nameX_F ?N ?c ?m ?d ?_ ?a ?b; (case a => rfl); (case b => rfl); (case N => k_asm); (case c => rfl); (case m => k_mem); (case d => k_asm); k_whole)))
local macro_rules | `(tactic| walk_at "binaryOp LShift int int") => `(tactic| (k_here; refine Hold.out ?_))
theorem int2_c : ∀ (w : World) (p : Program) (loose : List Str) (mean : ExcName → Option Value) (mg mb : Str → Option Value) (x n : Nat) (tx tn : Tok) (ps : Array Value) (im im0 : List (Addr × Obj)) (h0i : ∀ p ∈ im0, p ∈ im) (hx : x < 2 ^ 60) (hn : 3 ≤ n ∧ n ≤ 9) (d : Nat) (hdg : Int.fdiv ((Builtin.Int.intBits (x : Int) : Int) + n - 1) n = (d : Int)) (hd8 : d ≤ 8) (him : ∀ p ∈ im, p.1 ≠ 40) (htb : TabOk 9 4 (Str.ofString "_int2digits.<locals>.inner") ps im0)
    (dp un : Nat) (gd : Option (List Code)) (cn : Str) (cs : Scope) (a : Addr) (ccd : Value) (cl : List (Str × Addr)) (outer : List Env) (A₀ : Around) (base h₀ : Heap) (L : Addr) (m : Str → Option Value) (s : Shared) (Q E : Value → Shared → Prop)
    (B : Below A₀ base outer h₀) (F : Fr h₀ L s.heap m) (X : (hd.heap_39 w.params).In h₀) (C : CodeHd base 44 40) (N : News h₀ L s.heap ((40, tabObj ps) :: im)) (T : Top p loose mean mg mb h₀) (hcs : cs.kind = .function) (hdp : dp + 30 < recursionLimit) (hun : un + 200 < cLine)
    (hret : ∀ (D : Addr) (vs : List Value) (nv : Nat) (ps' : Array Value) (c' : Addr) (oc : Obj) (h' : Heap) (tk' : Nat), Fr h₀ L h' m → News h₀ L h' ((D, listOf vs.toArray nv) :: (40, tabObj ps') :: (c', oc) :: im) → IntsAre vs ((digsOf n x d).map Int.ofNat) →
      TabOk 9 4 (Str.ofString "_int2digits.<locals>.inner") ps' ((c', oc) :: im0) → ((c', oc) ∈ im0 ∨ ∀ q ∈ im, @LT.lt Nat _ q.1 c') → (∀ p ∈ im, @Ne Nat p.1 D) → @Ne Nat D 40 → @Ne Nat c' 40 → @Ne Nat c' D → Q (.ref D) { s with heap := h', toks := tk' }),
    wpAny (model PySem.Challenge.rw_pg0256_01.row.prog w) (ktrTop dp un gd cn cs L a ccd cl outer) (call (.ref 45) [.int x tx, .int n tn]) Q E s := by
  w_top off
  k_fill
  intro w p loose mean mg mb x n tx tn ps im im0 h0i hx hn d hdg hd8 him htb dp un gd cn cs a ccd cl outer A₀ base h₀ L m s Q E B F X C N T hcs hdp hun hret
  obtain ⟨ck, c2, c3, c4, c5⟩ := cs
  cases (show ck = .function from hcs)
  k_steps
  unfold Hold
  k_dflt (refine' mul_L1 ?kF ?kN ?ka ?k0 ?k1 ?_)
  case kF => k_asm
  case kN => k_asm
  case ka => k_mem
  case k0 => rw [hdg]; omega
  case k1 => rw [hdg]; omega
  intro D h' F' N' l1
  rw [hdg, Int.toNat_natCast] at N'
  k_lt l1
  k_sweep
  (try dsimp only)
  k_steps
  unfold Hold
  k_dflt (refine' nestDef_K ?d0 ?k0 ?a0 ?_)
  case d0 => exact rfl
  case k0 => exact rfl
  case a0 => exact rfl
  rename News _ _ _ _ => N9
  have N8 := N_front5 N9
  clear N9
  (with_reducible rename And (_ < _) (AllLt _ im) => l9)
  k_dflt (refine' nest_both (ex := [_, _, _, _, _]) ?kF N8 ?kne ?kex ?kT ?kC ?kcd htb h0i ?kcl ?_)
  case kF => k_asm
  case kT => k_asm
  case kC => exact CodeHd.keeps (by assumption) (Below.stays (by assumption))
  case kcd => exact rfl
  case kcl => exact rfl
  case kne =>
    show ∀ p ∈ (_ :: _ :: _ :: _ :: _ :: im), _
    k_all
  case kex =>
    intro q hq p hp
    have h9 := ktn_ltOf l9.2 p hp
    replace h9 : @LT.lt Nat instLTNat p.1 _ := h9
    simp only [List.mem_cons, List.not_mem_nil, or_false] at hq
    rcases hq with rfl | rfl | rfl | rfl | rfl <;> exact ltN (by dsimp only; omega)
  intro f c' oc vs t ct dc h' tk F' N' d1 d2 l1 l2 l3 hor
  replace hor : (c', oc) ∈ im0 ∨ ∀ q ∈ im, @LT.lt Nat _ q.1 c' := hor.imp id (fun h q hq => h q (by repeat' (first | exact hq | refine .tail _ ?_)))
  (try dsimp only [List.cons_append, List.nil_append] at N' l1 l2)
  k_lt l1
  refine offs6 l2 ?_
  intro l21 l22 l23 l24 l25 l26 _
  clear l2
  k_sweep
  (try dsimp only)
  k_steps
  · unfold Hold
    k_dflt (refine' kun_lenL (k := d) (News.isList (by k_asm) (by k_mem)) ?k2 ?k3 ?_)
    case k2 => simp
    case k3 => exact (by omega)
    k_steps
    unfold Hold
    rename News _ _ _ _ => N9
    rename_i g1 L1 h1 tk1 FG1 B1 X1 T1 oz o2z oN dz d2z dN lz hz llz hh1 lD hh2 oA dA tkA tkB rr hh3 oI F1 dI hxne
    replace dN : oN.data = Data.cell (some (Value.int (n : Int) tn)) := dN
    refine with_obj N9 fun fo hfo N9 => ?_
    have key : ∀ (k R0 L0 y : Nat) (ty tL tR : Tok) (vs : List Value) (nv : Nat) (im' : List (Addr × Obj)) (dp un : Nat) (gd : Option (List Code)) (cn : Str) (cs : Scope) (a : Addr) (ccd : Value) (cl : List (Str × Addr)) (outer : List Env) (A₀ : Around) (base h₀ : Heap) (L : Addr) (m : Str → Option Value) (s : Shared) (Q E : Value → Shared → Prop),
        R0 ≤ L0 + k → L0 < R0 → R0 ≤ vs.length → vs.length ≤ 8 → y < 2 ^ 60 → (∀ p ∈ im', p.1 ≠ D) → Below A₀ base outer h₀ → Fr h₀ L s.heap m → (hd.heap_39 w.params).In h₀ → News h₀ L s.heap ((D, listOf vs.toArray nv) :: (f, fo) :: (c', oc) :: (L1 + 1 + 1 + 1, oI) :: (L1 + 1 + 1, oA) :: (L1 + 1, oN) :: im') → Top p loose mean mg mb h₀ → cs.kind = .function → dp + k + 1 < recursionLimit → un + 20 * k + 20 < cLine →
        (∀ (vs' : List Value) (nv' : Nat) (h' : Heap) (tk' : Nat), vs'.length = vs.length → (∀ i, (i < L0 ∨ R0 ≤ i) → vs'[i]? = vs[i]?) → (∀ i, L0 ≤ i → i < R0 → ∃ t, vs'[i]? = some (Value.int (dig n y (i - L0) (R0 - L0) : Int) t)) → Fr h₀ L h' m →
          News h₀ L h' ((D, listOf vs'.toArray nv') :: (f, fo) :: (c', oc) :: (L1 + 1 + 1 + 1, oI) :: (L1 + 1 + 1, oA) :: (L1 + 1, oN) :: im') → Q Value.none { s with heap := h', toks := tk' }) →
        wpAny (model PySem.Challenge.rw_pg0256_01.row.prog w) (ktrTop dp un gd cn cs L a ccd cl outer) (call (.ref f) [.int y ty, .int L0 tL, .int R0 tR]) Q E s := by
      subst hfo
      clear N9 T1 X1 B1 FG1 F1 dz d2z B F X N T htb hdp hun hcs l9 hor
      intro k
      induction k with
      | zero => intros; omega
      | succ k ih =>
        intro R0 L0 y ty tL tR vs nv im' dp un gd cn cs a ccd cl outer A₀ base h₀ L m s Q E hR hLR hRv hv8 hy him' B F X N T hcs hdp hun hret
        obtain ⟨ck, c2, c3, c4, c5⟩ := cs
        cases (show ck = .function from hcs)
        refine wpAny_call ?_
        kn_enter
        k_steps
        · unfold Hold
          rename Fr _ _ _ _ => F4
          rename News _ _ _ _ => N4
          have hlt : L0 < vs.length := by omega
          k_dflt (refine' ki_set (q := vs.set L0 (Value.int (y : Int) ty)) F4 N4 ?h0 ?h1 ?he ?U ?_)
          case h0 => omega
          case h1 => omega
          case he => exact ki_setL_of hlt
          case U => k_upd
          intro h9 F9 N9
          clear N4 F4
          k_sweep
          (try dsimp only)
          k_steps
          (with_reducible rename Fr h₀ L _ m => F10)
          (with_reducible rename News h₀ L _ _ => N10)
          have hR1 : R0 = L0 + 1 := by omega
          refine hret _ _ _ _ (List.length_set ..) (fun i hi => List.getElem?_set_ne (by omega)) (fun i h1 h2 => ⟨ty, ?_⟩) F10 N10
          have hi : i = L0 := by omega
          subst hi
          rw [List.getElem?_set_self hlt, hR1]
          have : i - i = 0 := by omega
          have h9 : i + 1 - i = 1 := by omega
          rw [this, h9]
          rfl
        · exfalso
          have h7 : (0 : Int) ≤ ((↑L0 + ↑R0 : Int).fdiv (2 ^ Int.toNat 1) - ↑L0) * ↑n := by rw [mid_eq]; exact Int.mul_nonneg (by omega) (by omega)
          omega
        · unfold Hold
          have hne : L0 + 1 ≠ R0 := by omega
          have hle : L0 ≤ (L0 + R0) / 2 := by omega
          have hle2 : (L0 + R0) / 2 < R0 := by omega
          have hL8 : R0 ≤ 8 := by omega
          k_dflt (refine' lshift_int ?n0 ?sz ?_)
          case n0 => exact (by rw [mid_eq]; exact Int.mul_nonneg (by omega) (by omega))
          case sz => exact (by rw [mid_eq, shift_eq _ _ _ hle, fdiv_pow]; have hz : 0 ≤ ((((L0 + R0) / 2 : Nat) : Int) - L0) * n := Int.mul_nonneg (by omega) (by omega); rw [← Int.toNat_of_nonneg hz, shift_eq _ _ _ hle]; exact bits_fit _ _ (Nat.lt_of_le_of_lt (Nat.div_le_self _ _) hy) (Nat.le_trans (Nat.mul_le_mul (show (L0 + R0) / 2 - L0 ≤ 8 by omega) hn.2) (by decide)))
          k_steps
          unfold Hold
          rw [mid_eq, shift_eq _ _ _ hle, xor_low]
          k_dflt (refine' ih _ _ _ _ _ _ vs nv im' _ _ _ _ _ _ _ _ _ _ _ _ _ _ _ _ _ ?h1 ?h2 ?h3 ?h4 ?h5 him' ?kB ?kF ?kX ?kN ?kT ?kk ?kd ?ku ?_)
          case h1 => omega
          case h2 => omega
          case h3 => omega
          case h4 => omega
          case h5 => exact Nat.lt_of_le_of_lt (Nat.mod_le _ _) hy
          case kB => k_asm
          case kF => k_asm
          case kX => k_asm
          case kN => k_asm
          case kT => k_asm
          case kk => exact rfl
          case kd => ktr_room
          case ku => ktr_units
          intro vs1 nv1 h9 tk9 e1 e2 e3 F9 N9
          k_sweep
          k_steps
          unfold Hold
          rw [mid_eq, shift_eq _ _ _ hle, fdiv_pow]
          k_dflt (refine' ih _ _ _ _ _ _ vs1 nv1 im' _ _ _ _ _ _ _ _ _ _ _ _ _ _ _ _ _ ?h1 ?h2 ?h3 ?h4 ?h5 him' ?kB ?kF ?kX ?kN ?kT ?kk ?kd ?ku ?_)
          case h1 => omega
          case h2 => omega
          case h3 => omega
          case h4 => omega
          case h5 => exact Nat.lt_of_le_of_lt (Nat.div_le_self _ _) hy
          case kB => k_asm
          case kF => k_asm
          case kX => k_asm
          case kN => k_asm
          case kT => k_asm
          case kk => exact rfl
          case kd => ktr_room
          case ku => ktr_units
          intro vs2 nv2 h10 tk10 e4 e5 e6 F10 N10
          k_sweep
          k_steps
          (with_reducible rename Fr h₀ L _ m => F11)
          (with_reducible rename News h₀ L _ _ => N11)
          refine hret vs2 nv2 _ _ (by omega) (fun i hi => ?_) (fun i h1 h2 => ?_) F11 N11
          · rw [e5 i (by omega), e2 i (by omega)]
          · by_cases hb : i < (L0 + R0) / 2
            · obtain ⟨t9, h9⟩ := e3 i h1 hb
              refine ⟨t9, ?_⟩
              rw [e5 i (by omega), h9, dig_low h1 hb hle2]
            · obtain ⟨t9, h9⟩ := e6 i (by omega) h2
              refine ⟨t9, ?_⟩
              rw [h9, dig_high hle (by omega) h2]
    have hbit : 0 < d := digs_pos hn.1 (by omega) hdg
    have N10 := cb_drop (news := (D, _) :: (f, fo) :: (c', oc) :: (L1 + 1 + 1 + 1, oI) :: (L1 + 1 + 1, oA) :: (L1 + 1, oN) :: (40, _) :: im) N9 (by kcj_all)
    k_dflt (refine' key d d 0 x _ _ _ _ _ ((40, _) :: im) _ _ _ _ _ _ _ _ _ _ _ _ _ _ _ _ _ ?h1 ?h2 ?h3 ?h4 hx ?h6 ?kB ?kF ?kX ?kN ?kT ?kk ?kd ?ku ?_)
    case kN => exact N10
    case h1 => omega
    case h2 => omega
    case h3 => simp
    case h4 => simpa using hd8
    case h6 =>
      intro p hp
      rcases List.mem_cons.mp hp with rfl | hp
      · exact Nat.ne_of_lt lD.2.2.2.2.1
      · exact Nat.ne_of_lt (ktn_ltOf lD.2.2.2.2.2 p hp)
    case kB => k_asm
    case kF => k_asm
    case kX => k_asm
    case kT => k_asm
    case kk => exact rfl
    case kd => ktr_room
    case ku => ktr_units
    intro vs9 nv9 h9 tk9 e1 e2 e3 F9 N11
    clear N9 N10
    k_sweep
    k_steps
    (with_reducible rename Fr h₀ L _ m => F11)
    (with_reducible rename News h₀ L _ _ => N11)
    refine hret D vs9 nv9 _ c' oc _ _ F11 (cb_drop N11 (by kcj_all)) ?_ (.inr ⟨c', oc, vs, t, rfl, List.mem_cons_self .., d1, d2⟩) hor ?_ (Nat.ne_of_gt lD.2.2.2.2.1) (Ne.symm l21) (Ne.symm l22)
    · exact digs_are (by simpa using e1) fun i hi => by simpa using e3 i (Nat.zero_le _) hi
    · exact fun p hp => Nat.ne_of_lt (ktn_ltOf lD.2.2.2.2.2 p hp)
  · (with_reducible rename Fr h₀ L _ m => F11)
    (with_reducible rename News h₀ L _ _ => N11)
    (with_reducible rename _ = (0 : Int) => hx0)
    (with_reducible rename And (_ < D) _ => lD)
    have hd0 : d = 0 := digs_nil hn.1 (by omega) hdg
    subst hd0
    exact hret D _ _ _ c' oc _ _ F11 (cb_drop N11 (by kcj_all)) .nil (.inr ⟨c', oc, vs, t, rfl, List.mem_cons_self .., d1, d2⟩) hor (fun p hp => Nat.ne_of_lt (ktn_ltOf lD.2.2.2.2.2 p hp)) (Nat.ne_of_gt lD.2.2.2.2.1) (Ne.symm l21) (Ne.symm l22)
end Mine
end PartS9

/- part S10 -/
section PartS10
open PySem PySem.W PyProof.Rows Mine
set_option Elab.async false
set_option maxRecDepth 100000
set_option maxHeartbeats 4000000
namespace Mine
theorem ne_data {h₀ h : Heap} {L : Addr} {news : List (Addr × Obj)} {a b : Addr} {oa ob : Obj} (N : News h₀ L h news) (ha : (a, oa) ∈ news) (hb : (b, ob) ∈ news) (hd : oa.data ≠ ob.data) : @Ne Nat a b := by
  intro e
  have e' : a = b := e
  subst e'
  have h1 := (N _ ha).1
  have h2 := (N _ hb).1
  dsimp only at h1 h2
  rw [h1] at h2
  cases h2
  exact hd rfl
theorem N_front3 {h₀ h : Heap} {L : Addr} {a b c d : Addr × Obj} {im : List (Addr × Obj)} (N : News h₀ L h (a :: b :: c :: d :: im)) : News h₀ L h (d :: a :: b :: c :: im) := cb_drop N (by
  repeat' (first | refine sub_cons ?_ ?_ | exact .head _ | refine .tail _ ?_ | exact hp | intro p hp))
theorem truthy_L {prog : Program} {w : World} {A : Around} {E : Value → Shared → Prop} {s : Shared} {h₀ : Heap} {L : Addr} {news : List (Addr × Obj)} {l : Addr} {vs : List Value} {n : Nat} {Q : Bool → Shared → Prop} (N : News h₀ L s.heap news) (hm : (l, listOf vs.toArray n) ∈ news) (hz : vs.length ≤ 1000)
    (h : Q (!vs.isEmpty) { s with toks := s.toks + 1 + 1 }) : wpAny (model prog w) A (truthy (.ref l)) Q E s :=
  wpAny_truthy_list (N.isList hm) (by rw [List.size_toArray]; omega) (by simpa using h)
theorem TabOk.mono {line col : Nat} {qual : Str} {ps : Array Value} {im im' : List (Addr × Obj)} (h : TabOk line col qual ps im) (hs : ∀ p ∈ im, p ∈ im') : TabOk line col qual ps im' := by
  rcases h with h | ⟨c', oc, vs, t, h1, h2, h3, h4⟩
  · exact .inl h
  · exact .inr ⟨c', oc, vs, t, h1, hs _ h2, h3, h4⟩
local macro_rules | `(tactic| k_ne) => `(tactic| (refine neN ?_; (try dsimp only); first | exact Hold.ne (by with_reducible assumption) | exact Hold.ne' (by with_reducible assumption) | omega))
local macro_rules | `(tactic| k_room) => `(tactic| ktr_room)
local macro_rules | `(tactic| k_units) => `(tactic| (ktr_units))
local macro_rules | `(tactic| k_all) => `(tactic| (first | with_reducible assumption | ((with_reducible refine ne_above ?_); with_reducible (first | assumption | exact And.right (by assumption) | exact And.right (And.right (by assumption)) | exact And.right (And.right (And.right (by assumption))))) | ((with_reducible refine ne_above2 ?_); with_reducible (first | assumption | exact And.right (by assumption) | exact And.right (And.right (by assumption)) | exact And.right (And.right (And.right (by assumption))))) | ((with_reducible refine ne_above3 ?_); with_reducible (first | assumption | exact And.right (by assumption) | exact And.right (And.right (by assumption)) | exact And.right (And.right (And.right (by assumption)))))))
local macro_rules | `(tactic| walk_at "none") => `(tactic| fail "none")
local macro_rules | `(tactic| walk_at "exec FunctionDef") => `(tactic| (k_here; refine Hold.out ?_))
local macro_rules | `(tactic| walk_at "truthy ref") => `(tactic| (k_here; refine Hold.out ?_))
local macro_rules | `(tactic| walk_at "call builtin:len") => `(tactic| (k_here; refine Hold.out ?_))
local macro_rules | `(tactic| walk_at "call ref") => `(tactic| (k_here; (with_reducible show wpAny _ _ (call (Value.ref _) [Value.int _ _, Value.int _ _]) _ _ _); refine Hold.out ?_))
local macro_rules | `(tactic| walk_at "eval Name") => `(tactic| (k_here; k_dflt (refine' nameX_F ?N ?c ?m ?d ?_ ?a ?b; (case a => rfl); (case b => rfl); (case N => k_asm); (case c => rfl); (case m => k_mem); (case d => k_asm); k_whole)))
local macro_rules | `(tactic| walk_at "subscriptTail") => `(tactic| (k_here; (with_reducible show wpAny _ _ (subscriptTail _ _ (Value.ref _) (Value.int _ _)) _ _ _); refine Hold.out ?_))
local macro_rules | `(tactic| walk_at "binaryOp LShift int int") => `(tactic| (k_here; refine Hold.out ?_))
theorem val_c : ∀ (w : World) (p : Program) (loose : List Str) (mean : ExcName → Option Value) (mg mb : Str → Option Value) (D : Addr) (vs : List Value) (nv : Nat) (ns : List Nat) (n : Nat) (tn : Tok) (ps : Array Value) (im im0 : List (Addr × Obj)) (h0i : ∀ p ∈ im0, p ∈ im) (hi : IntsAre vs (ns.map Int.ofNat)) (hl : ns.length ≤ 8) (hb : ∀ a ∈ ns, a < 2 ^ n) (hn : 3 ≤ n ∧ n ≤ 9) (him : ∀ p ∈ im, p.1 ≠ 47) (hD : @Ne Nat D 47) (htb : TabOk 24 4 (Str.ofString "_digits2int.<locals>.inner") ps im0)
    (dp un : Nat) (gd : Option (List Code)) (cn : Str) (cs : Scope) (a : Addr) (ccd : Value) (cl : List (Str × Addr)) (outer : List Env) (A₀ : Around) (base h₀ : Heap) (L : Addr) (m : Str → Option Value) (s : Shared) (Q E : Value → Shared → Prop)
    (B : Below A₀ base outer h₀) (F : Fr h₀ L s.heap m) (X : (hd.heap_39 w.params).In h₀) (C : CodeHd base 51 47) (N : News h₀ L s.heap ((47, tabObj ps) :: (D, listOf vs.toArray nv) :: im)) (T : Top p loose mean mg mb h₀) (hcs : cs.kind = .function) (hdp : dp + 30 < recursionLimit) (hun : un + 200 < cLine)
    (hret : ∀ (t : Tok) (ps' : Array Value) (c' : Addr) (oc : Obj) (h' : Heap) (tk' : Nat), Fr h₀ L h' m → News h₀ L h' ((47, tabObj ps') :: (c', oc) :: (D, listOf vs.toArray nv) :: im) →
      TabOk 24 4 (Str.ofString "_digits2int.<locals>.inner") ps' ((c', oc) :: im0) → ((c', oc) ∈ im0 ∨ ∀ q ∈ im, @LT.lt Nat _ q.1 c') → @Ne Nat c' 47 → @Ne Nat c' D → Q (.int (valD n ns : Int) t) { s with heap := h', toks := tk' }),
    wpAny (model PySem.Challenge.rw_pg0256_01.row.prog w) (ktrTop dp un gd cn cs L a ccd cl outer) (call (.ref 52) [.ref D, .int n tn]) Q E s := by
  w_top off
  k_fill
  intro w p loose mean mg mb D vs nv ns n tn ps im im0 h0i hi hl hb hn him hD htb dp un gd cn cs a ccd cl outer A₀ base h₀ L m s Q E B F X C N T hcs hdp hun hret
  obtain ⟨ck, c2, c3, c4, c5⟩ := cs
  cases (show ck = .function from hcs)
  k_steps
  unfold Hold
  k_dflt (refine' nestDef_K ?d0 ?k0 ?a0 ?_)
  case d0 => exact rfl
  case k0 => exact rfl
  case a0 => exact rfl
  rename News _ _ _ _ => N9
  have N8 := N_front3 N9
  clear N9
  (with_reducible rename And (_ < _) (And (_ < _) (AllLt _ im)) => l9)
  k_dflt (refine' nest_both (ex := [_, _, _]) (im := (D, listOf vs.toArray nv) :: im) ?kF N8 ?kne ?kex ?kT ?kC ?kcd htb (fun p hp => .tail _ (h0i p hp)) ?kcl ?_)
  case kF => k_asm
  case kT => k_asm
  case kC => exact CodeHd.keeps (by assumption) (Below.stays (by assumption))
  case kcd => exact rfl
  case kcl => exact rfl
  case kne =>
    intro p hp
    simp only [List.cons_append, List.nil_append, List.mem_cons] at hp
    rcases hp with rfl | rfl | rfl | rfl | hp
    · exact Nat.ne_of_gt (ltN (by dsimp only; omega))
    · exact Nat.ne_of_gt (ltN (by dsimp only; omega))
    · exact Nat.ne_of_gt (ltN (by dsimp only; omega))
    · exact hD
    · exact him p hp
  case kex =>
    intro q hq p hp
    refine slimG ?_
    intro hG9
    obtain ⟨l91, l92, l93⟩ := l9
    refine hG9 ?_
    clear hG9
    simp only [List.mem_cons, List.not_mem_nil, or_false] at hq
    rcases List.mem_cons.mp hp with rfl | hp
    · rcases hq with rfl | rfl | rfl <;> exact ltN (by dsimp only; omega)
    · have h9 := ktn_ltOf l93 p hp
      replace h9 : @LT.lt Nat instLTNat p.1 _ := h9
      rcases hq with rfl | rfl | rfl <;> exact ltN (by dsimp only; omega)
  intro f c' oc cvs t ct dc h' tk F' N' d1 d2 l1 l2 l3 hor
  replace hor : (c', oc) ∈ im0 ∨ ∀ q ∈ im, @LT.lt Nat _ q.1 c' := hor.imp id (fun h q hq => h q (by repeat' (first | exact hq | refine .tail _ ?_)))
  (try dsimp only [List.cons_append, List.nil_append] at N' l1 l2)
  have lDc : @Ne Nat c' D := ne_data N' (.tail _ (.head _)) (.tail _ (.tail _ (.tail _ (.tail _ (.tail _ (.tail _ (.head _))))))) (by rw [d1]; exact fun e => by cases e)
  k_lt l1
  refine offs4 l2 ?_
  intro l21 l22 l23 l24 _
  clear l2
  k_sweep
  (try dsimp only)
  k_steps
  unfold Hold
  have hvl : vs.length = ns.length := by rw [hi.length, List.length_map]
  rename News _ _ _ _ => N9
  refine truthy_L N9 (by k_mem) (by omega) ?_
  by_cases hne : ns = []
  · have hv0 : vs = [] := List.eq_nil_of_length_eq_zero (by rw [hvl, hne]; rfl)
    have e0 : (!vs.isEmpty) = false := by rw [hv0]; rfl
    rw [e0]
    k_steps
    subst hne
    exact hret _ _ c' oc _ _ (by assumption) (cb_drop (by assumption) (by kcj_all)) (.inr ⟨c', oc, cvs, t, rfl, List.mem_cons_self .., d1, d2⟩) hor (Ne.symm l21) lDc
  · have e0 : (!vs.isEmpty) = true := by
      cases vs with
      | nil => exact absurd (List.eq_nil_of_length_eq_zero hvl.symm) hne
      | cons _ _ => rfl
    have hpos : 0 < ns.length := Nat.pos_of_ne_zero fun h => hne (List.eq_nil_of_length_eq_zero h)
    rw [e0]
    k_steps
    unfold Hold
    k_dflt (refine' kun_lenL (k := ns.length) (News.isList (by k_asm) (by k_mem)) ?k2 ?k3 ?_)
    case k2 => simp [hvl]
    case k3 => exact (by omega)
    k_steps
    unfold Hold
    rename News _ _ _ _ => N9
    rename_i g1 L1 h1 tk1 FG1 B1 X1 T1 oI0 oN oD dI0 dN dD tkA rr hh3 oX F1 dX
    replace dN : oN.data = Data.cell (some (Value.int (n : Int) tn)) := dN
    replace dD : oD.data = Data.cell (some (Value.ref D)) := dD
    refine with_obj N9 fun fo hfo N9 => ?_
    have key : ∀ (k R0 L0 : Nat) (tL tR : Tok) (im' : List (Addr × Obj)) (dp un : Nat) (gd : Option (List Code)) (cn : Str) (cs : Scope) (a : Addr) (ccd : Value) (cl : List (Str × Addr)) (outer : List Env) (A₀ : Around) (base h₀ : Heap) (L : Addr) (m : Str → Option Value) (s : Shared) (Q E : Value → Shared → Prop),
        R0 ≤ L0 + k → L0 < R0 → R0 ≤ ns.length → Below A₀ base outer h₀ → Fr h₀ L s.heap m → (hd.heap_39 w.params).In h₀ → News h₀ L s.heap ((f, fo) :: (c', oc) :: (L1 + 1 + 1 + 1, oX) :: (L1 + 1 + 1, oN) :: (L1 + 1, oD) :: (D, listOf vs.toArray nv) :: im') → Top p loose mean mg mb h₀ → cs.kind = .function → dp + k + 1 < recursionLimit → un + 20 * k + 20 < cLine →
        (∀ (t : Tok) (h' : Heap) (tk' : Nat), Fr h₀ L h' m → News h₀ L h' ((f, fo) :: (c', oc) :: (L1 + 1 + 1 + 1, oX) :: (L1 + 1 + 1, oN) :: (L1 + 1, oD) :: (D, listOf vs.toArray nv) :: im') → Q (Value.int (valD n (seg ns L0 R0) : Int) t) { s with heap := h', toks := tk' }) →
        wpAny (model PySem.Challenge.rw_pg0256_01.row.prog w) (ktrTop dp un gd cn cs L a ccd cl outer) (call (.ref f) [.int L0 tL, .int R0 tR]) Q E s := by
      subst hfo
      clear N9 T1 X1 B1 FG1 F1 dI0 oI0 B F X N T htb hdp hun hcs l9 hret e0 hor
      intro k
      induction k with
      | zero => intros; omega
      | succ k ih =>
        intro R0 L0 tL tR im' dp un gd cn cs a ccd cl outer A₀ base h₀ L m s Q E hR hLR hRv B F X N T hcs hdp hun hret
        obtain ⟨ck, c2, c3, c4, c5⟩ := cs
        cases (show ck = .function from hcs)
        refine wpAny_call ?_
        kn_enter
        k_steps
        · (with_reducible rename Fr h₀ L _ m => F10)
          (with_reducible rename News h₀ L _ _ => N10)
          have hlt : L0 < ns.length := by omega
          have e9 : (List.map Int.ofNat ns).getD ((L0 : Int)).toNat 0 = (valD n (seg ns L0 R0) : Int) := by
            rw [seg_one n ns (by omega) hlt, Int.toNat_natCast]
            simp [List.getD, hlt]
          rw [e9]
          exact hret _ _ _ F10 N10
        · unfold Hold
          have hne : L0 + 1 ≠ R0 := by omega
          have hle : L0 ≤ (L0 + R0) / 2 := by omega
          have hle2 : (L0 + R0) / 2 < R0 := by omega
          have hL8 : R0 ≤ 8 := by omega
          rw [mid_eq]
          k_dflt (refine' ih R0 ((L0 + R0) / 2) _ _ im' _ _ _ _ _ _ _ _ _ _ _ _ _ _ _ _ _ ?h1 ?h2 ?h3 ?kB ?kF ?kX ?kN ?kT ?kk ?kd ?ku ?_)
          case h1 => omega
          case h2 => omega
          case h3 => omega
          case kB => k_asm
          case kF => k_asm
          case kX => k_asm
          case kN => k_asm
          case kT => k_asm
          case kk => exact rfl
          case kd => ktr_room
          case ku => ktr_units
          intro t9 h9 tk9 F9 N9
          k_sweep
          k_steps
          unfold Hold
          k_dflt (refine' lshift_int ?n0 ?sz ?_)
          case n0 => exact (by rw [mid_eq]; exact Int.mul_nonneg (by omega) (by omega))
          case sz =>
            have hz : 0 ≤ ((((L0 + R0) / 2 : Nat) : Int) - L0) * n := Int.mul_nonneg (by omega) (by omega)
            have hk2 : ((L0 + R0) / 2 - L0) * n ≤ 8 * 9 := Nat.mul_le_mul (by omega) hn.2
            have hk3 : n * (R0 - (L0 + R0) / 2) ≤ 9 * 8 := Nat.mul_le_mul hn.2 (by omega)
            have := bits_fit2 _ (((L0 + R0) / 2 - L0) * n) _ (seg_lt n ns (Nat.le_of_lt hle2) hRv hb) (by omega) (by omega)
            exact (by rw [mid_eq, ← Int.toNat_of_nonneg hz, shift_eq _ _ _ hle]; exact this)
          k_steps
          unfold Hold
          rw [mid_eq, shift_eq _ _ _ hle]
          k_dflt (refine' ih ((L0 + R0) / 2) L0 _ _ im' _ _ _ _ _ _ _ _ _ _ _ _ _ _ _ _ _ ?h1 ?h2 ?h3 ?kB ?kF ?kX ?kN ?kT ?kk ?kd ?ku ?_)
          case h1 => omega
          case h2 => omega
          case h3 => omega
          case kB => k_asm
          case kF => k_asm
          case kX => k_asm
          case kN => k_asm
          case kT => k_asm
          case kk => exact rfl
          case kd => ktr_room
          case ku => ktr_units
          intro t8 h8 tk8 F8 N8
          k_sweep
          k_steps
          (with_reducible rename Fr h₀ L _ m => F10)
          (with_reducible rename News h₀ L _ _ => N10)
          rw [seg_join n ns hle (Nat.le_of_lt hle2) (by omega)]
          exact hret _ _ _ F10 N10
    have N10 := cb_drop (news := (f, fo) :: (c', oc) :: (L1 + 1 + 1 + 1, oX) :: (L1 + 1 + 1, oN) :: (L1 + 1, oD) :: (D, listOf vs.toArray nv) :: (47, _) :: im) N9 (by kcj_all)
    k_dflt (refine' key ns.length ns.length 0 _ _ ((47, _) :: im) _ _ _ _ _ _ _ _ _ _ _ _ _ _ _ _ _ ?h1 ?h2 ?h3 ?kB ?kF ?kX ?kN ?kT ?kk ?kd ?ku ?_)
    case kN => exact N10
    case h1 => omega
    case h2 => omega
    case h3 => omega
    case kB => k_asm
    case kF => k_asm
    case kX => k_asm
    case kT => k_asm
    case kk => exact rfl
    case kd => ktr_room
    case ku => ktr_units
    intro t9 h9 tk9 F9 N11
    clear N9 N10
    k_sweep
    k_steps
    rw [seg_all]
    exact hret _ _ c' oc _ _ (by assumption) (cb_drop (by assumption) (by kcj_all)) (.inr ⟨c', oc, cvs, t, rfl, List.mem_cons_self .., d1, d2⟩) hor (Ne.symm l21) lDc
end Mine
end PartS10

/- part PL -/
section PartPL
open PySem PySem.W PyProof.Rows
set_option maxRecDepth 100000
namespace Mine
def minL : List Nat → Nat
  | [] => 0
  | [a] => a
  | a :: b :: r => if a ≤ minL (b :: r) then a else minL (b :: r)
theorem minL_spec : ∀ (l : List Nat), l ≠ [] → minL l ∈ l ∧ ∀ a ∈ l, minL l ≤ a
  | [], h => absurd rfl h
  | [a], _ => ⟨List.mem_singleton.mpr rfl, fun b hb => by rw [List.mem_singleton.mp hb]; exact Nat.le_refl _⟩
  | a :: b :: r, _ => by
    obtain ⟨h1, h2⟩ := minL_spec (b :: r) (by simp)
    unfold minL
    by_cases h : a ≤ minL (b :: r)
    · rw [if_pos h]
      exact ⟨List.mem_cons_self .., fun c hc => by
        rcases List.mem_cons.mp hc with rfl | hc
        · exact Nat.le_refl _
        · exact Nat.le_trans h (h2 c hc)⟩
    · rw [if_neg h]
      exact ⟨List.mem_cons_of_mem _ h1, fun c hc => by
        rcases List.mem_cons.mp hc with rfl | hc
        · omega
        · exact h2 c hc⟩
theorem minL_unique {l : List Nat} {m : Nat} (h1 : m ∈ l) (h2 : ∀ a ∈ l, m ≤ a) : m = minL l := by
  obtain ⟨h3, h4⟩ := minL_spec l (fun e => by rw [e] at h1; cases h1)
  exact Nat.le_antisymm (h2 _ h3) (h4 _ h1)
theorem nodup_sub_len {l m : List Nat} (h : l.Nodup) (hs : ∀ a ∈ l, a ∈ m) : l.length ≤ m.length := by
  induction l generalizing m with
  | nil => exact Nat.zero_le _
  | cons a l ih =>
    rw [List.nodup_cons] at h
    have ha := hs a (List.mem_cons_self ..)
    have := ih (m := m.erase a) h.2 fun b hb => (List.mem_erase_of_ne (fun e => h.1 (by rw [← e]; exact hb))).mpr (hs b (List.mem_cons_of_mem _ hb))
    rw [List.length_erase_of_mem ha] at this
    have hp : 0 < m.length := List.length_pos_of_mem ha
    rw [List.length_cons]
    omega
def freeOf (left code : List Nat) : List Nat := left.filter fun v => !code.contains v
def leafOf (left code : List Nat) : Nat := minL (freeOf left code)
def edgesF : List Nat → List Nat → List (Nat × Nat)
  | left, [] => [(left.getD 0 0, left.getD 1 0)]
  | left, c :: cs => (leafOf left (c :: cs), c) :: edgesF (left.erase (leafOf left (c :: cs))) cs
def letter (v : Nat) : Str := ⟨#[97 + v]⟩
def dot : Str := ⟨#[46]⟩
structure HS where
  order : List Nat
  ps : List Str
  rows : List (Str × Str)
def HS.at (st : HS) (i : Nat) : Str := st.ps.getD i ⟨#[]⟩
def visitF (step : Nat) (st : HS) (e : Nat × Nat) : HS :=
  if e.1 = st.order.getD step 0 ∧ e.2 ∉ st.order then
    ⟨st.order ++ [e.2], st.ps ++ [st.at step ++ dot ++ letter e.2], st.rows ++ [(st.at step, st.at step ++ dot ++ letter e.2)]⟩
  else st
def stepF (both : List (Nat × Nat)) (st : HS) (step : Nat) : HS := both.foldl (visitF step) st
def bothOf (edges : List (Nat × Nat)) : List (Nat × Nat) := edges ++ edges.map fun e => (e.2, e.1)
def hang0 (root : Nat) : HS := ⟨[root], [letter root], []⟩
def hangN (edges : List (Nat × Nat)) (root n : Nat) : HS := (List.range n).foldl (stepF (bothOf edges)) (hang0 root)
def lastN (s : Str) : Nat := s.cps.toList.getLastD 0
def endsOf (rows : List (Str × Str)) : List Nat := rows.map (fun r => lastN r.1) ++ rows.map (fun r => lastN r.2)
def onceOf (rows : List (Str × Str)) : List Nat := (endsOf rows).filter fun e => (endsOf rows).count e == 1
def leafR (rows : List (Str × Str)) : Nat := minL (onceOf rows)
def noteStep (leaf : Nat) (st : List Nat × List (Str × Str)) (r : Str × Str) : List Nat × List (Str × Str) :=
  if leaf = lastN r.1 ∨ leaf = lastN r.2 then
    (st.1 ++ [if leaf = lastN r.1 then lastN r.2 else lastN r.1], (st.2.filter fun q => q.1 != r.1) ++ (((st.2.filter fun q => q.1 == r.1).map (·.2)).filter fun o => o != r.2).map fun o => (r.1, o))
  else st
def roundF (st : List Nat × List (Str × Str)) : List Nat × List (Str × Str) := st.2.foldl (noteStep (leafR st.2)) st
def notesN (tab : List (Str × Str)) : Nat → List Nat × List (Str × Str)
  | 0 => ([], tab)
  | n + 1 => roundF (notesN tab n)
end Mine
end PartPL

/- part Ints -/
section PartInts
open PySem PySem.W PyProof.Rows
set_option maxRecDepth 100000
namespace Mine
open PySem PySem.Calls PySem.Spec PySem.W PyProof.Rows
def natV : Value → Nat
  | .int a _ => a.toNat
  | _ => 0
theorem ints_mem {vs : List Value} {ns : List Nat} (h : IntsAre vs (ns.map Int.ofNat)) : ∀ v ∈ vs, ∃ (a : Nat) (t : Tok), v = .int (a : Int) t ∧ a ∈ ns := by
  intro v hv
  induction ns generalizing vs with
  | nil => cases h; cases hv
  | cons a ns ih =>
    rw [List.map_cons] at h
    cases h with
    | cons n t h2 =>
      rcases List.mem_cons.mp hv with rfl | hv
      · exact ⟨a, t, rfl, List.mem_cons_self ..⟩
      · obtain ⟨b, u, e, hb⟩ := ih h2 hv
        exact ⟨b, u, e, List.mem_cons_of_mem _ hb⟩
theorem ints_at {vs : List Value} {ns : List Nat} (h : IntsAre vs (ns.map Int.ofNat)) {i : Nat} {a : Nat} (ha : ns[i]? = some a) : ∃ t, vs[i]? = some (.int (a : Int) t) := by
  obtain ⟨t, e⟩ := h.get i (a : Int) (by rw [List.getElem?_map, ha]; rfl)
  exact ⟨t, e⟩
theorem ints_filter {vs ys : List Value} {ns : List Nat} (f : Nat → Bool) (h : IntsAre vs (ns.map Int.ofNat)) (hP : Paired (fun a y => y = a) (vs.filter fun v => f (natV v)) ys) : IntsAre ys ((ns.filter f).map Int.ofNat) := by
  induction ns generalizing vs ys with
  | nil => cases h; cases hP; exact .nil
  | cons a ns ih =>
    rw [List.map_cons] at h
    cases h with
    | cons n t h2 =>
      rw [List.filter_cons] at hP ⊢
      have e : natV (Value.int (Int.ofNat a) t) = a := rfl
      rw [e] at hP
      cases hf : f a with
      | true =>
        rw [hf] at hP
        simp only [if_true] at hP ⊢
        cases hP with
        | cons h1 h3 =>
          subst h1
          exact .cons _ _ (ih h2 h3)
      | false =>
        rw [hf] at hP
        exact ih h2 hP
theorem any_nat (ns : List Nat) (a : Nat) : (ns.map Int.ofNat).any (· == (a : Int)) = ns.contains a := by
  induction ns with
  | nil => rfl
  | cons b ns ih =>
    rw [List.map_cons, List.any_cons, ih, List.contains_cons]
    congr 1
    by_cases h : a = b
    · subst h; simp
    · have h2 : ¬ (Int.ofNat b = (a : Int)) := fun e => h (Int.ofNat.inj e).symm
      have e1 : (Int.ofNat b == (a : Int)) = false := beq_eq_false_iff_ne.mpr h2
      have e2 : (a == b) = false := beq_eq_false_iff_ne.mpr h
      rw [e1, e2]
theorem ints_erase {vs : List Value} {ns : List Nat} {a : Nat} (h : IntsAre vs (ns.map Int.ofNat)) (ha : a ∈ ns) : kf_ints vs = true ∧ ∃ j q, kf_at (a : Int) vs = some j ∧ ki_delL vs j = some q ∧ IntsAre q ((ns.erase a).map Int.ofNat) := by
  have hall : ∀ {vs : List Value} {ns : List Int}, IntsAre vs ns → kf_ints vs = true := by
    intro vs ns h
    induction h with
    | nil => rfl
    | cons n t _ ih => exact ih
  refine ⟨hall h, ?_⟩
  induction ns generalizing vs with
  | nil => cases ha
  | cons b ns ih =>
    rw [List.map_cons] at h
    cases h with
    | @cons _ t r _ h2 =>
      by_cases hb : b = a
      · subst hb
        refine ⟨0, r, ?_, rfl, ?_⟩
        · unfold kf_at
          have e : isInt (b : Int) (Value.int (Int.ofNat b) t) = true := by unfold isInt; simp
          rw [e]
          rfl
        · rw [List.erase_cons_head]
          exact h2
      · have ha2 : a ∈ ns := by
          rcases List.mem_cons.mp ha with e | h
          · exact absurd e.symm hb
          · exact h
        obtain ⟨j, q, e1, e2, e3⟩ := ih h2 ha2
        refine ⟨j + 1, Value.int (Int.ofNat b) t :: q, ?_, ?_, ?_⟩
        · unfold kf_at
          have e : isInt (a : Int) (Value.int (Int.ofNat b) t) = false := by
            unfold isInt
            have : ¬ (Int.ofNat b = (a : Int)) := fun e => hb (Int.ofNat.inj e)
            simp [this]
            omega
          rw [e, e1]
          rfl
        · unfold ki_delL
          rw [e2]
        · rw [List.erase_cons_tail (by simpa using hb), List.map_cons]
          exact .cons _ _ e3
section
variable {prog : Program} {w : World} {A : Around} {E : Value → Shared → Prop} {s : Shared} {h₀ : Heap} {L l : Addr} {m : Str → Option Value} {news : List (Addr × Obj)} {vs : List Value} {ns : List Nat} {nv : Nat} {Q : Value → Shared → Prop}
theorem notin_N {k : Nat} {t : Tok} (N : News h₀ L s.heap news) (hm : (l, listOf vs.toArray nv) ∈ news) (hi : IntsAre vs (ns.map Int.ofNat)) (h : Q (.bool (!ns.contains k)) s) : wpAny (model prog w) A (compareOp .NotIn (.int (k : Int) t) (.ref l)) Q E s :=
  notin_list_ints (N.isList hm) hi (by rw [any_nat]; exact h)
theorem in_N {k : Nat} {t : Tok} (N : News h₀ L s.heap news) (hm : (l, listOf vs.toArray nv) ∈ news) (hi : IntsAre vs (ns.map Int.ofNat)) (h : Q (.bool (ns.contains k)) s) : wpAny (model prog w) A (compareOp .In (.int (k : Int) t) (.ref l)) Q E s :=
  in_list_ints (N.isList hm) hi (by rw [any_nat]; exact h)
theorem min_N {hh : A.handled = none} (F : Fr h₀ L s.heap m) (N : News h₀ L s.heap news) (hm : (l, listOf vs.toArray nv) ∈ news) (hi : IntsAre vs (ns.map Int.ofNat)) (hne : ns ≠ [])
    (h : ∀ h' (t : Tok) tk, Fr h₀ L h' m → News h₀ L h' news → Q (.int (minL ns : Int) t) { s with heap := h', toks := tk }) :
    wpAny (model prog w) A (call (.builtin "min") [.ref l]) Q E s := by
  refine min_list_N hh F N (N.isList hm) hi ?_ ?_
  · cases ns with
    | nil => exact absurd rfl hne
    | cons a r => simp
  · intro h' M t tk F' N' hM hle
    obtain ⟨a, ha, rfl⟩ := List.mem_map.mp hM
    have e : a = minL ns := minL_unique ha fun b hb => by
      have := hle (Int.ofNat b) (List.mem_map_of_mem hb)
      exact Int.ofNat_le.mp this
    subst e
    exact h h' t tk F' N'
theorem slice_fromN {x : Int} {t : Tok} {e1 : Expr} {vn : Str} {p1 p2 : Pos} (F : Fr h₀ L s.heap m) (N : News h₀ L s.heap news) (hm : (l, listOf vs.toArray nv) ∈ news) (hi : IntsAre vs (ns.map Int.ofNat)) (h0 : 0 ≤ x) (hz : vs.length ≤ 1000)
    (h : ∀ D ws h', Fr h₀ L h' m → News h₀ L h' ((D, listOf (List.toArray ws) 0) :: news) → (∀ p ∈ news, p.1 < D) → IntsAre ws ((ns.drop x.toNat).map Int.ofNat) → Q (.ref D) { s with heap := h' })
    (hs : subscripted (.Slice (some e1) none none p2) false (.ref l) (.ref s.heap.objs.size) = operate [.ref s.heap.objs.size, .ref l] (getItem (.ref l) (.ref s.heap.objs.size)) := by with_unfolding_all rfl)
    (ht : ∀ r, letTemporaryGo (.Name vn p1) (.ref l) r = pure () := by intro _; with_unfolding_all rfl) :
    wpAny (model prog w) A (subscriptTail (.Name vn p1) (.Slice (some e1) none none p2) (.ref l) (.ref s.heap.objs.size)) Q E { s with heap := s.heap.push { cls := .type "slice", data := .fields #[.int x t, .none, .none] } } :=
  kmk_slice_ints F N (N.isList hm) (.int x t) .none hi (kmk_from hi h0) rfl (fun D ws h' F' N' l1 hI _ _ => h D ws h' F' N' l1 (by rw [List.map_drop]; exact hI)) hs ht (by rw [List.size_toArray, sizeLine_eq]; omega)
theorem slice_testN {x : Int} {t : Tok} {e1 : Expr} {vn : Str} {p1 p2 : Pos} (hl : s.heap.IsList l vs.toArray) (hi : IntsAre vs (ns.map Int.ofNat)) (h0 : 0 ≤ x) (hz : vs.length ≤ 1000)
    (h : ∀ D ws h', (∀ b o, s.heap.get? b = some o → h'.get? b = some o) → h'.IsList D (List.toArray ws) → IntsAre ws ((ns.drop x.toNat).map Int.ofNat) → Q (.ref D) { s with heap := h' })
    (hs : subscripted (.Slice (some e1) none none p2) false (.ref l) (.ref s.heap.objs.size) = operate [.ref s.heap.objs.size, .ref l] (getItem (.ref l) (.ref s.heap.objs.size)) := by with_unfolding_all rfl)
    (ht : ∀ r, letTemporaryGo (.Name vn p1) (.ref l) r = pure () := by intro _; with_unfolding_all rfl) :
    wpAny (model prog w) A (subscriptTail (.Name vn p1) (.Slice (some e1) none none p2) (.ref l) (.ref s.heap.objs.size)) Q E { s with heap := s.heap.push { cls := .type "slice", data := .fields #[.int x t, .none, .none] } } := by
  refine subscriptTail_ops (Heap.IsList.typeIs (s := { s with heap := s.heap.push { cls := .type "slice", data := .fields #[.int x t, .none, .none] } }) (hl.push _)) list_getitem_lookup
    (wpAny_getItem_list_slice (hl.push _) (Heap.IsSliceOf.new ..) (.int x t) .none .none (by simp) ?_ (by rw [List.size_toArray, sizeLine_eq]; omega)) hs ht
  have hk := kmk_from hi h0
  refine h _ (slicePick vs.toArray (some x) none none).toList _ (fun b o e => Heap.get?_push_of_some _ (Heap.get?_push_of_some _ e)) ?_ (by rw [List.map_drop]; exact hk)
  exact ⟨_, Heap.get?_push_size _ rfl, rfl, _, by rw [Array.toArray_toList]⟩
theorem slice_toN {x : Int} {t : Tok} {e1 : Expr} {vn : Str} {p1 p2 : Pos} (F : Fr h₀ L s.heap m) (N : News h₀ L s.heap news) (hm : (l, listOf vs.toArray nv) ∈ news) (hi : IntsAre vs (ns.map Int.ofNat)) (h0 : 0 ≤ x) (hz : vs.length ≤ 1000)
    (h : ∀ D ws h', Fr h₀ L h' m → News h₀ L h' ((D, listOf (List.toArray ws) 0) :: news) → (∀ p ∈ news, p.1 < D) → IntsAre ws ((ns.take x.toNat).map Int.ofNat) → Q (.ref D) { s with heap := h' })
    (hs : subscripted (.Slice none (some e1) none p2) false (.ref l) (.ref s.heap.objs.size) = operate [.ref s.heap.objs.size, .ref l] (getItem (.ref l) (.ref s.heap.objs.size)) := by with_unfolding_all rfl)
    (ht : ∀ r, letTemporaryGo (.Name vn p1) (.ref l) r = pure () := by intro _; with_unfolding_all rfl) :
    wpAny (model prog w) A (subscriptTail (.Name vn p1) (.Slice none (some e1) none p2) (.ref l) (.ref s.heap.objs.size)) Q E { s with heap := s.heap.push { cls := .type "slice", data := .fields #[.none, .int x t, .none] } } :=
  kmk_slice_ints F N (N.isList hm) .none (.int x t) hi (kmk_upto hi h0) rfl (fun D ws h' F' N' l1 hI _ _ => h D ws h' F' N' l1 (by rw [List.map_take]; exact hI)) hs ht (by rw [List.size_toArray, sizeLine_eq]; omega)
theorem slice_negN {x : Int} {t : Tok} {e1 : Expr} {vn : Str} {p1 p2 : Pos} (F : Fr h₀ L s.heap m) (N : News h₀ L s.heap news) (hm : (l, listOf vs.toArray nv) ∈ news) (hi : IntsAre vs (ns.map Int.ofNat)) (h0 : x < 0) (hz : vs.length ≤ 1000)
    (h : ∀ D ws h', Fr h₀ L h' m → News h₀ L h' ((D, listOf (List.toArray ws) 0) :: news) → (∀ p ∈ news, p.1 < D) → IntsAre ws ((ns.drop (ns.length - (-x).toNat)).map Int.ofNat) → Q (.ref D) { s with heap := h' })
    (hs : subscripted (.Slice (some e1) none none p2) false (.ref l) (.ref s.heap.objs.size) = operate [.ref s.heap.objs.size, .ref l] (getItem (.ref l) (.ref s.heap.objs.size)) := by with_unfolding_all rfl)
    (ht : ∀ r, letTemporaryGo (.Name vn p1) (.ref l) r = pure () := by intro _; with_unfolding_all rfl) :
    wpAny (model prog w) A (subscriptTail (.Name vn p1) (.Slice (some e1) none none p2) (.ref l) (.ref s.heap.objs.size)) Q E { s with heap := s.heap.push { cls := .type "slice", data := .fields #[.int x t, .none, .none] } } :=
  kmk_slice_ints F N (N.isList hm) (.int x t) .none hi (kmk_from_neg hi h0) rfl (fun D ws h' F' N' l1 hI _ _ => h D ws h' F' N' l1 (by rw [List.map_drop]; rw [List.length_map] at hI; exact hI)) hs ht (by rw [List.size_toArray, sizeLine_eq]; omega)
end
end Mine
end PartInts

/- part PH -/
section PartPH
open PySem PySem.W PyProof.Rows
set_option maxRecDepth 100000
namespace Mine
theorem Wl.ok {s : Str} (h : Wl s) : okS s := by
  refine ⟨Nat.le_trans h.1 (by decide), fun i hi => ?_⟩
  have hm : s.cps.getD i 0 ∈ s.cps.toList := by
    rw [Array.getD_eq_getD_getElem?, Array.getElem?_eq_getElem hi]
    exact Array.getElem_mem_toList hi
  have := h.chars _ hm
  unfold okc
  rcases this with h | h
  · rw [h]; decide
  · have : ∀ c, c ≤ 104 → 97 ≤ c → okc c = true := by decide
    exact this _ h.2 h.1
def PathOk (p : Str) (i v : Nat) : Prop := p.length ≤ 2 * i + 1 ∧ ∃ q, p.cps.toList = q ++ [97 + v] ∧ (q = [] ∨ ∃ q', q = q' ++ [46]) ∧ ∀ d ∈ q, d = 46 ∨ (97 ≤ d ∧ d ≤ 104)
structure HInv (st : HS) : Prop where
  nodup : st.order.Nodup
  small : ∀ v ∈ st.order, v < 8
  len : st.ps.length = st.order.length
  paths : ∀ i p v, st.ps[i]? = some p → st.order[i]? = some v → PathOk p i v
  rows : RowsOk st.rows
  rlen : st.rows.length + 1 = st.order.length
theorem HInv.size {st : HS} (h : HInv st) : st.order.length ≤ 8 := by
  have := nodup_sub_len h.nodup (m := List.range 8) fun v hv => List.mem_range.mpr (h.small v hv)
  simpa using this
theorem PathOk.wl {p : Str} {i v : Nat} (h : PathOk p i v) (hi : i < 8) (hv : v < 8) : Wl p := by
  obtain ⟨h1, q, e, h2, h3⟩ := h
  exact ⟨by omega, q, 97 + v, e, h2, by omega, h3⟩
theorem PathOk.grow {p : Str} {i v j w : Nat} (h : PathOk p i v) (hij : i < j) (hv : v < 8) : PathOk (p ++ dot ++ letter w) j w := by
  obtain ⟨h1, q, e, h2, h3⟩ := h
  refine ⟨?_, q ++ [97 + v] ++ [46], ?_, .inr ⟨_, rfl⟩, ?_⟩
  · rw [Str.length_append, Str.length_append]
    have e1 : dot.length = 1 := rfl
    have e2 : (letter w).length = 1 := rfl
    omega
  · simp only [Str.cps_append, Array.toList_append, e]
    rfl
  · intro d hd
    simp only [List.mem_append, List.mem_singleton] at hd
    rcases hd with (hd | hd) | hd
    · exact h3 d hd
    · right; omega
    · exact .inl hd
theorem HInv.start {root : Nat} (h : root < 8) : HInv (hang0 root) where
  nodup := by simp [hang0]
  small := by intro v hv; simp [hang0] at hv; omega
  len := rfl
  paths := by
    intro i p v hp hv
    cases i with
    | zero =>
      simp [hang0] at hp hv
      subst hp hv
      exact ⟨Nat.le_refl _, [], rfl, .inl rfl, fun d hd => nomatch hd⟩
    | succ i => simp [hang0] at hp
  rows := by intro r hr; cases hr
  rlen := rfl
theorem HInv.visit {st : HS} (h : HInv st) {step : Nat} (hs : step < st.order.length) {e : Nat × Nat} (he : e.2 < 8) : HInv (visitF step st e) := by
  unfold visitF
  split
  · rename_i hc
    obtain ⟨_, hnew⟩ := hc
    have hs8 : step < 8 := Nat.lt_of_lt_of_le hs h.size
    obtain ⟨v, hv⟩ : ∃ v, st.order[step]? = some v := ⟨_, List.getElem?_eq_getElem hs⟩
    obtain ⟨p, hp⟩ : ∃ p, st.ps[step]? = some p := ⟨_, List.getElem?_eq_getElem (by rw [h.len]; exact hs)⟩
    have hat : st.at step = p := by unfold HS.at; rw [List.getD_eq_getElem?_getD, hp]; rfl
    have hv8 : v < 8 := h.small v (List.mem_of_getElem? hv)
    have hok := h.paths step p v hp hv
    have hl8 : st.order.length < 8 := by
      have hn : (st.order ++ [e.2]).Nodup := by
        rw [List.nodup_append]
        exact ⟨h.nodup, by simp, fun a ha b hb => by rw [List.mem_singleton.mp hb]; exact fun e => hnew (e ▸ ha)⟩
      have := nodup_sub_len hn (m := List.range 8) fun v hv => by
        rcases List.mem_append.mp hv with hv | hv
        · exact List.mem_range.mpr (h.small v hv)
        · rw [List.mem_singleton.mp hv]; exact List.mem_range.mpr he
      simp at this
      omega
    have hgrow := hok.grow (j := st.order.length) (w := e.2) hs hv8
    refine ⟨?_, ?_, ?_, ?_, ?_, ?_⟩
    · rw [List.nodup_append]
      exact ⟨h.nodup, by simp, fun a ha b hb => by rw [List.mem_singleton.mp hb]; exact fun e => hnew (e ▸ ha)⟩
    · intro v hv
      rcases List.mem_append.mp hv with hv | hv
      · exact h.small v hv
      · rw [List.mem_singleton.mp hv]; exact he
    · simp [h.len]
    · intro i p' v' hp' hv'
      dsimp only at hp' hv'
      by_cases hi : i < st.order.length
      · rw [List.getElem?_append_left hi] at hv'
        rw [List.getElem?_append_left (by rw [h.len]; exact hi)] at hp'
        exact h.paths i p' v' hp' hv'
      · have hi2 : i = st.order.length := by
          have := (List.getElem?_eq_some_iff.mp hv').1
          simp at this
          omega
        subst hi2
        rw [List.getElem?_append_right (Nat.le_refl _), Nat.sub_self] at hv'
        rw [List.getElem?_append_right (by rw [h.len]; exact Nat.le_refl _), h.len, Nat.sub_self] at hp'
        simp at hp' hv'
        subst hp' hv'
        rw [hat]
        exact hgrow
    · intro r hr
      rcases List.mem_append.mp hr with hr | hr
      · exact h.rows r hr
      · rw [List.mem_singleton.mp hr, hat]
        exact ⟨hok.wl hs8 hv8, hgrow.wl hl8 he⟩
    · simp
      exact h.rlen
  · exact h
theorem visit_len {st : HS} {step : Nat} {e : Nat × Nat} : st.order.length ≤ (visitF step st e).order.length := by
  unfold visitF
  split
  · simp
  · exact Nat.le_refl _
theorem visit_getD {st : HS} {step : Nat} {e : Nat × Nat} (h : step < st.order.length) : (visitF step st e).order.getD step 0 = st.order.getD step 0 := by
  unfold visitF
  split
  · rw [List.getD_eq_getElem?_getD, List.getD_eq_getElem?_getD, List.getElem?_append_left h]
  · rfl
theorem visit_stay {st : HS} {step : Nat} {e : Nat × Nat} (h : ¬ (e.1 = st.order.getD step 0 ∧ e.2 ∉ st.order)) : visitF step st e = st := by
  unfold visitF
  rw [if_neg h]
theorem visit_go {st : HS} {step : Nat} {e : Nat × Nat} (h : e.1 = st.order.getD step 0) (h2 : e.2 ∉ st.order) : visitF step st e = ⟨st.order ++ [e.2], st.ps ++ [st.at step ++ dot ++ letter e.2], st.rows ++ [(st.at step, st.at step ++ dot ++ letter e.2)]⟩ := by
  unfold visitF
  rw [if_pos ⟨h, h2⟩]
theorem visit_len7 {st : HS} (h : HInv st) {step : Nat} (hs : step < st.order.length) {e : Nat × Nat} (he : e.2 < 8) {v : Nat} (_ : e.1 = v) (h2 : e.2 ∉ st.order) (hov : st.order[step]? = some v) : step < 7 := by
  have h3 : (st.order ++ [e.2]).Nodup := by
    rw [List.nodup_append]
    exact ⟨h.nodup, by simp, fun a ha b hb => by rw [List.mem_singleton.mp hb]; exact fun e => h2 (e ▸ ha)⟩
  have := nodup_sub_len h3 (m := List.range 8) fun v hv => by
    rcases List.mem_append.mp hv with hv | hv
    · exact List.mem_range.mpr (h.small v hv)
    · rw [List.mem_singleton.mp hv]; exact List.mem_range.mpr he
  simp at this
  omega
theorem visits_next {both : List (Nat × Nat)} {k step : Nat} {st st2 : HS} {e : Nat × Nat} (h : (both.take k).foldl (visitF step) st = st2) (he : both[k]? = some e) : (both.take (k + 1)).foldl (visitF step) st = visitF step st2 e := by
  rw [List.take_add_one, he, List.foldl_append, h]
  rfl
theorem visits_inv {step : Nat} : ∀ (l : List (Nat × Nat)) (st : HS), HInv st → step < st.order.length → (∀ e ∈ l, e.2 < 8) → HInv (l.foldl (visitF step) st) ∧ step < (l.foldl (visitF step) st).order.length
  | [], st, h, hs, _ => ⟨h, hs⟩
  | e :: l, st, h, hs, he => visits_inv l _ (h.visit hs (he e (List.mem_cons_self ..))) (Nat.lt_of_lt_of_le hs visit_len) fun e' h' => he e' (List.mem_cons_of_mem _ h')
theorem hangN_succ (es : List (Nat × Nat)) (root n : Nat) : hangN es root (n + 1) = (bothOf es).foldl (visitF n) (hangN es root n) := by
  unfold hangN
  rw [List.range_succ, List.foldl_append]
  rfl
theorem both_small {es : List (Nat × Nat)} (hb : ∀ a ∈ es, a.1 < 8 ∧ a.2 < 8) : ∀ e ∈ bothOf es, e.1 < 8 ∧ e.2 < 8 := by
  intro e he
  rcases List.mem_append.mp he with he | he
  · exact hb e he
  · obtain ⟨a, ha, rfl⟩ := List.mem_map.mp he
    exact ⟨(hb a ha).2, (hb a ha).1⟩
theorem hang_inv {es : List (Nat × Nat)} {root : Nat} (hr : root < 8) (hb : ∀ a ∈ es, a.1 < 8 ∧ a.2 < 8) : ∀ n, (∀ i, i < n → i < (hangN es root i).order.length) → HInv (hangN es root n)
  | 0, _ => HInv.start hr
  | n + 1, hg => by
    rw [hangN_succ]
    exact (visits_inv _ _ (hang_inv hr hb n fun i hi => hg i (Nat.lt_succ_of_lt hi)) (hg n (Nat.lt_succ_self _)) fun e he => (both_small hb e he).2).1
end Mine
end PartPH

/- part W11 -/
section PartW11
open PySem PySem.W PyProof.Rows Mine
set_option Elab.async false
set_option maxRecDepth 100000
set_option maxHeartbeats 4000000
namespace Mine
abbrev pairI (a b : Nat) (t u : Tok) : Obj := { cls := Value.type "tuple", data := Data.seq [Value.int (a : Int) t, Value.int (b : Int) u].toArray }
inductive EdgesAre (im : List (Addr × Obj)) : List Value → List (Nat × Nat) → Prop
  | nil : EdgesAre im [] []
  | cons {b : Addr} {e : Nat × Nat} {t u : Tok} {vs : List Value} {es : List (Nat × Nat)} : (b, pairI e.1 e.2 t u) ∈ im → EdgesAre im vs es → EdgesAre im (Value.ref b :: vs) (e :: es)
theorem EdgesAre.mono {im im' : List (Addr × Obj)} {vs : List Value} {es : List (Nat × Nat)} (h : EdgesAre im vs es) (hs : ∀ p ∈ im, p ∈ im') : EdgesAre im' vs es := by
  induction h with
  | nil => exact .nil
  | cons hb _ ih => exact .cons (hs _ hb) ih
theorem EdgesAre.snoc {im : List (Addr × Obj)} {vs : List Value} {es : List (Nat × Nat)} {b : Addr} {e : Nat × Nat} {t u : Tok} (h : EdgesAre im vs es) (hb : (b, pairI e.1 e.2 t u) ∈ im) : EdgesAre im (vs ++ [Value.ref b]) (es ++ [e]) := by
  induction h with
  | nil => exact .cons hb .nil
  | cons hc _ ih => exact .cons hc ih
theorem EdgesAre.length {im : List (Addr × Obj)} {vs : List Value} {es : List (Nat × Nat)} (h : EdgesAre im vs es) : vs.length = es.length := by
  induction h with
  | nil => rfl
  | cons _ _ ih => rw [List.length_cons, List.length_cons, ih]
theorem fr_say3 {h₀ h : Heap} {L : Addr} {m : Str → Option Value} {x y z : Str} {v w u : Value} (F : Fr h₀ L h m) (hx : m x = some v) (hy : m y = some w) (hz : m z = some u) : Fr h₀ L h (fun a => if a = x then some v else if a = y then some w else if a = z then some u else m a) := by
  have e : (fun a => if a = x then some v else if a = y then some w else if a = z then some u else m a) = m := by
    funext a
    by_cases h : a = x
    · rw [if_pos h, h, hx]
    · rw [if_neg h]
      by_cases h2 : a = y
      · rw [if_pos h2, h2, hy]
      · rw [if_neg h2]
        by_cases h3 : a = z
        · rw [if_pos h3, h3, hz]
        · rw [if_neg h3]
  rw [e]; exact F
def EdgesJ (c LC LK : Addr) (oc oC : Obj) (code : List Nat) (im : List (Addr × Obj)) (i : Nat) (m : Str → Option Value) (nw : List (Addr × Obj)) : Prop :=
  ∃ el ll es ls j k im' done left oK vK, nw = (el, listOf (List.toArray es) j) :: (ll, listOf (List.toArray ls) k) :: (LK, oK) :: (LC, oC) :: (c, oc) :: im' ∧ EdgesAre im' es done ∧ IntsAre ls (left.map Int.ofNat) ∧ edgesF (List.range 8) code = done ++ edgesF left (code.drop i) ∧
    left.length = 8 - i ∧ left.Nodup ∧ (∀ a ∈ code.drop i, a ∈ left) ∧ (∀ p ∈ im, p ∈ im') ∧ done.length = i ∧ oK.data = Data.cell vK ∧
    m (Str.ofString "left") = some (.ref ll) ∧ m (Str.ofString "edges") = some (.ref el) ∧ ((∀ p ∈ im', p.1 ≠ el) ∧ (∀ p ∈ im', p.1 ≠ ll) ∧ (∀ p ∈ im', p.1 ≠ LK) ∧ (∀ p ∈ im', p.1 ≠ LC) ∧ (∀ p ∈ im', p.1 ≠ c)) ∧ @Ne Nat el ll ∧ (@Ne Nat el LK ∧ @Ne Nat el LC ∧ @Ne Nat el c) ∧ (@Ne Nat ll LK ∧ @Ne Nat ll LC ∧ @Ne Nat ll c)
theorem EdgesJ.out {c LC LK : Addr} {oc oC : Obj} {code : List Nat} {im : List (Addr × Obj)} {i : Nat} {m : Str → Option Value} {nw : List (Addr × Obj)} {G : Prop} (h : EdgesJ c LC LK oc oC code im i m nw)
    (y : ∀ el ll es ls j k im' done left oK vK, nw = (el, listOf (List.toArray es) j) :: (ll, listOf (List.toArray ls) k) :: (LK, oK) :: (LC, oC) :: (c, oc) :: im' → EdgesAre im' es done → IntsAre ls (left.map Int.ofNat) → edgesF (List.range 8) code = done ++ edgesF left (code.drop i) →
      left.length = 8 - i → left.Nodup → (∀ a ∈ code.drop i, a ∈ left) → (∀ p ∈ im, p ∈ im') → done.length = i → oK.data = Data.cell vK →
      m (Str.ofString "left") = some (.ref ll) → m (Str.ofString "edges") = some (.ref el) → (∀ p ∈ im', p.1 ≠ el) → (∀ p ∈ im', p.1 ≠ ll) → (∀ p ∈ im', p.1 ≠ LK) → (∀ p ∈ im', p.1 ≠ LC) → (∀ p ∈ im', p.1 ≠ c) → Hold (@Ne Nat el ll) → Hold (@Ne Nat el LK) → Hold (@Ne Nat el LC) → Hold (@Ne Nat el c) → Hold (@Ne Nat ll LK) → Hold (@Ne Nat ll LC) → Hold (@Ne Nat ll c) → G) : G := by
  obtain ⟨el, ll, es, ls, j, k, im', done, left, oK, vK, e, q1, q2, q3, q4, q5, q6, q7, q8, q9, q10, q11, ⟨q12, q13, q14, q15, q16⟩, q17, ⟨q18, q19, q20⟩, ⟨q21, q22, q23⟩⟩ := h
  exact y el ll es ls j k im' done left oK vK e q1 q2 q3 q4 q5 q6 q7 q8 q9 q10 q11 q12 q13 q14 q15 q16 q17 q18 q19 q20 q21 q22 q23
theorem EdgesJ.mk {c LC LK : Addr} {oc oC : Obj} {code : List Nat} {im im' : List (Addr × Obj)} {i : Nat} {m : Str → Option Value} {el ll : Addr} {es ls : List Value} {j k : Nat} {done : List (Nat × Nat)} {left : List Nat} {oK : Obj} {vK : Option Value}
    (q1 : EdgesAre im' es done) (q2 : IntsAre ls (left.map Int.ofNat)) (q3 : edgesF (List.range 8) code = done ++ edgesF left (code.drop i)) (q4 : left.length = 8 - i) (q5 : left.Nodup) (q6 : ∀ a ∈ code.drop i, a ∈ left) (q7 : ∀ p ∈ im, p ∈ im') (q8 : done.length = i) (q9 : oK.data = Data.cell vK)
    (q10 : m (Str.ofString "left") = some (.ref ll)) (q11 : m (Str.ofString "edges") = some (.ref el)) (q12 : ∀ p ∈ im', p.1 ≠ el) (q13 : ∀ p ∈ im', p.1 ≠ ll) (q14 : ∀ p ∈ im', p.1 ≠ LK) (q15 : ∀ p ∈ im', p.1 ≠ LC) (q16 : ∀ p ∈ im', p.1 ≠ c) (q17 : @Ne Nat el ll) (q18 : @Ne Nat el LK) (q19 : @Ne Nat el LC) (q20 : @Ne Nat el c) (q21 : @Ne Nat ll LK) (q22 : @Ne Nat ll LC) (q23 : @Ne Nat ll c) :
    EdgesJ c LC LK oc oC code im i m ((el, listOf (List.toArray es) j) :: (ll, listOf (List.toArray ls) k) :: (LK, oK) :: (LC, oC) :: (c, oc) :: im') :=
  ⟨el, ll, es, ls, j, k, im', done, left, oK, vK, rfl, q1, q2, q3, q4, q5, q6, q7, q8, q9, q10, q11, ⟨q12, q13, q14, q15, q16⟩, q17, ⟨q18, q19, q20⟩, ⟨q21, q22, q23⟩⟩
theorem JEnd.intro7 {h₀ : Heap} {L I : Addr} {it : Obj} {J : (Str → Option Value) → List (Addr × Obj) → Prop} {s₁ : Shared} {h' : Heap} {tk : Nat} {m' : Str → Option Value} {d e l k c o : Addr × Obj} {im : List (Addr × Obj)} (F : Fr h₀ L h' m')
    (N : News h₀ L h' (d :: (I, it) :: e :: l :: k :: c :: o :: im)) (ho : ∀ p ∈ e :: l :: k :: c :: o :: d :: im, p.1 ≠ I) (hj : J m' (e :: l :: k :: c :: o :: d :: im)) : JEnd h₀ L I it J s₁ { s₁ with heap := h', toks := tk } :=
  JEnd.intro F N (.tail _ (.head _)) (by
    repeat' (first | refine sub_cons ?_ ?_ | exact .head _ | refine .tail _ ?_ | exact hp | intro p hp)) ho hj
theorem N_front7 {h₀ h : Heap} {L : Addr} {d e l k c o : Addr × Obj} {im : List (Addr × Obj)} (N : News h₀ L h (d :: e :: l :: k :: c :: o :: im)) : News h₀ L h (e :: o :: d :: im) := cb_drop N (by
  repeat' (first | refine sub_cons ?_ ?_ | exact .head _ | refine .tail _ ?_ | exact hp | intro p hp))
theorem getD_nat (l : List Nat) (k : Nat) : (List.map Int.ofNat l).getD k 0 = ((l.getD k 0 : Nat) : Int) := by
  rw [List.getD_eq_getElem?_getD, List.getD_eq_getElem?_getD, List.getElem?_map]
  cases l[k]? <;> rfl
theorem free_ne {left code : List Nat} (h : left.Nodup) (hl : code.length < left.length) : freeOf left code ≠ [] := by
  intro e
  have h2 : ∀ a ∈ left, a ∈ code := by
    intro a ha
    by_cases hc : a ∈ code
    · exact hc
    · have : a ∈ freeOf left code := by
        unfold freeOf
        rw [List.mem_filter]
        exact ⟨ha, by simpa using hc⟩
      rw [e] at this
      cases this
  have := nodup_sub_len h h2
  omega
theorem leaf_spec {left code : List Nat} (h : freeOf left code ≠ []) : leafOf left code ∈ left ∧ leafOf left code ∉ code := by
  have h1 := (minL_spec _ h).1
  have h2 : leafOf left code ∈ freeOf left code := h1
  unfold freeOf at h2
  rw [List.mem_filter] at h2
  exact ⟨h2.1, by simpa using h2.2⟩
theorem range8 : rangeKs 0 8 = (List.range 8).map Int.ofNat := by decide
local macro_rules | `(tactic| k_ne) => `(tactic| (refine neN ?_; (try dsimp only); first | exact Hold.ne (by with_reducible assumption) | exact Hold.ne' (by with_reducible assumption) | omega))
local macro_rules | `(tactic| k_room) => `(tactic| ktr_room)
local macro_rules | `(tactic| k_units) => `(tactic| (ktr_units))
local macro_rules | `(tactic| k_all) => `(tactic| first | with_reducible assumption | assumption)
local macro_rules | `(tactic| walk_at "none") => `(tactic| fail "none")
local macro_rules | `(tactic| walk_at "pyIter ref") => `(tactic| ((with_reducible show wpAny _ _ (pyIter (Value.ref _)) (fun it s₂ => TurnsAt _ _ _ _ _ _ _ _ _ it s₂) _ _); refine Hold.out ?_))
local macro_rules | `(tactic| walk_at "call type:list") => `(tactic| (k_here; (with_reducible show wpAny _ _ (call (Value.type _) [Value.ref _]) _ _ _); refine Hold.out ?_))
local macro_rules | `(tactic| walk_at "subscriptTail Name Slice ref ref") => `(tactic| ((with_reducible show wpAny _ _ (subscriptTail _ _ (Value.ref _) (Value.ref _)) _ _ _); refine Hold.out ?_))
local macro_rules | `(tactic| walk_at "compareOp NotIn int ref") => `(tactic| (refine Hold.out ?_))
local macro_rules | `(tactic| walk_at "call builtin:min") => `(tactic| (refine Hold.out ?_))
local macro_rules | `(tactic| walk_at "call builtin:list.append") => `(tactic| (k_here; (with_reducible show wpAny _ _ (call (Value.builtin _) [Value.ref _, Value.ref _]) _ _ _); refine Hold.out ?_))
local macro_rules | `(tactic| walk_at "call builtin:list.remove") => `(tactic| (refine Hold.out ?_))
local macro_rules | `(tactic| walk_at "eval ListComp") => `(tactic| (k_here; refine Hold.out ?_))
set_option maxHeartbeats 1000000 in
theorem edges_c : ∀ (w : World) (p : Program) (loose : List Str) (mean : ExcName → Option Value) (mg mb : Str → Option Value) (c : Addr) (vs : List Value) (nv : Nat) (code : List Nat) (im : List (Addr × Obj)) (hi : IntsAre vs (code.map Int.ofNat)) (hl : code.length = 6) (hb : ∀ a ∈ code, a < 8) (him : ∀ p ∈ im, p.1 ≠ c)
    (dp un : Nat) (gd : Option (List Code)) (cn : Str) (cs : Scope) (a : Addr) (ccd : Value) (cl : List (Str × Addr)) (outer : List Env) (A₀ : Around) (base h₀ : Heap) (L : Addr) (m : Str → Option Value) (s : Shared) (Q E : Value → Shared → Prop)
    (B : Below A₀ base outer h₀) (F : Fr h₀ L s.heap m) (X : (hd.heap_39 w.params).In h₀) (N : News h₀ L s.heap ((c, listOf vs.toArray nv) :: im)) (T : Top p loose mean mg mb h₀) (hcs : cs.kind = .function) (hdp : dp + 30 < recursionLimit) (hun : un + 200 < cLine)
    (hret : ∀ (e : Addr) (ws : List Value) (j : Nat) (im' : List (Addr × Obj)) (h' : Heap) (tk' : Nat), Fr h₀ L h' m → News h₀ L h' ((e, listOf ws.toArray j) :: (c, listOf vs.toArray nv) :: im') → EdgesAre im' ws (edgesF (List.range 8) code) → (∀ p ∈ im, p ∈ im') → (∀ p ∈ im', p.1 ≠ e) → (∀ p ∈ im', p.1 ≠ c) → @Ne Nat c e → Q (.ref e) { s with heap := h', toks := tk' }),
    wpAny (model PySem.Challenge.rw_pg0256_01.row.prog w) (ktrTop dp un gd cn cs L a ccd cl outer) (call (.ref 212) [.ref c]) Q E s := by
  w_top off
  k_fill
  intro w p loose mean mg mb c vs nv code im hi hl hb him dp un gd cn cs a ccd cl outer A₀ base h₀ L m s Q E B F X N T hcs hdp hun hret
  obtain ⟨ck, c2, c3, c4, c5⟩ := cs
  cases (show ck = .function from hcs)
  k_steps
  unfold Hold
  (rename IsRange _ _ _ _ _ _ _ _ => rgX)
  (with_unfolding_all refine' kll_range ?k0 ?k1 ?k2 rgX ?k4 ?k5 ?k6 ?_)
  case k0 => rfl
  case k1 => k_asm
  case k2 => k_asm
  case k4 => decide
  case k5 => exact (show _ = ((8 : Nat) : Int) by decide)
  case k6 => decide
  intro ll us cn2 h2 tk2 F' N' l1 hI'
  rw [range8] at hI'
  clear rgX
  k_lt l1
  k_sweep
  k_steps
  refine For_turns (by k_asm) ?_ (fun _ => rfl) (by passes_own)
  k_steps
  unfold Hold
  rename Fr _ _ _ _ => F3
  rename News _ _ _ _ => N3
  (rename IsRange _ _ _ _ _ _ _ _ => rgX)
  rename_i g1 L1 h1 tk1 FG1 B1 X1 T1 lc oK oC dK dC hA tkA tA uA vA aA hB tkB el hC lE hD F9 N9 hE tkE tE uE vE aE
  clear F9 N9 aE aA
  refine' iter_rangeJ (n := 6) (EdgesJ c (L1 + 1) (L1 + 1 + 1) (listOf vs.toArray nv) oC code im) ?hh rgX ?sm ?sz F3 N3 ?j0 ?turn ?done
  case hh => rfl
  case sm => decide
  case sz => decide
  case j0 =>
    refine cut5 lE ?_
    intro z1 z2 z3 z4 z5
    clear lE
    refine cut4 l1 ?_
    intro y1 y2 y3 y4
    clear l1
    exact EdgesJ.mk (es := []) (done := []) (left := List.range 8) (j := 0) .nil hI' rfl rfl List.nodup_range (fun a ha => List.mem_range.mpr (hb a ha)) (fun _ h => h) rfl dK rfl rfl
      (fun p hp => Nat.ne_of_lt (ktn_ltOf z5 p hp)) (fun p hp => Nat.ne_of_lt (ktn_ltOf y4 p hp)) (ne_above2 lc.2) (ne_above lc.2) him (Nat.ne_of_gt z1) (Nat.ne_of_gt z2) (Nat.ne_of_gt z3) (Nat.ne_of_gt z4) (Nat.ne_of_gt y1) (Nat.ne_of_gt y2) (Nat.ne_of_gt y3)
  case turn =>
    clear F3 N3 rgX hI'
    intro i t m₁ nw I ito h tk hi6 hz9
    intro hoI F4 N4
    refine genT ?_
    intro P1 hP1
    refine EdgesJ.out hz9 ?_
    intro el ll es ls j k im' done left oK vK e9 q1 q2 q3 q4 q5 q6 q7 q8 q9 q10 q11 q12 q13 q14 q15 q16 q17 q18 q19 q20 q21 q22 q23
    rw [e9] at hoI N4
    clear hz9 e9
    replace F4 := fr_say2 F4 q10 q11
    refine offs5 hoI ?_
    intro i1 i2 i3 i4 i5 i6
    clear hoI
    k_steps
    unfold Hold
    refine' comp_L (fun v => !((code.drop i).contains (natV v))) (fun a y => y = a) ?F0 rfl ?clos ?cell rfl ?names rfl ?_ (fun _ => rfl)
    case F0 => k_asm
    case clos => with_unfolding_all rfl
    case cell => decide
    case names => decide
    k_steps
    unfold Hold
    rename Fr _ _ _ _ => F1
    rename News _ _ _ _ => N1
    refine compI (l := ll) (vs := ls) (n := k) F1 N1 (by k_mem) (by rw [q2.length, List.length_map, q4]; omega) ?_ ?_ ?_
    · intro C v s₂ m₂ E' hv hn hm hk9
      refine slimG ?_
      intro hG9
      obtain ⟨a, t, rfl, ha⟩ := ints_mem q2 v hv
      refine hG9 ?_
      clear hG9
      refine comp_test1 ?_
      k_steps
      unfold Hold
      (with_reducible rename News _ _ s₂.heap _ => cN9)
      refine slice_testN (ns := code) (cN9.isList (by k_mem)) hi (by omega) (by rw [hi.length, List.length_map]; omega) ?_
      intro D2 ws2 h2 hk2 hl2 hi2
      k_steps
      unfold Hold
      refine notin_list_ints hl2 hi2 ?_
      rw [any_nat]
      k_steps
      have ei : ((0 : Int) + (i : Int)).toNat = i := by omega
      rw [ei]
      all_goals first | rfl | exact ⟨_, _, rfl, hk2⟩
    · intro C v s₂ m₂ E' hv _ hn hm hk9
      refine slimG ?_
      intro hG9
      obtain ⟨a, t, rfl, ha⟩ := ints_mem q2 v hv
      refine hG9 ?_
      clear hG9
      k_steps
      exact (show _ ∧ _ from ⟨rfl, _, _, rfl, fun _ _ e => e⟩)
    · intro D ys j2 h' tk F2 N2 hD hP
      clear F1 N1
      have hS := ints_filter (fun a => !((code.drop i).contains a)) q2 hP
      clear hP
      k_steps
      unfold Hold
      (with_reducible rename Fr _ _ _ _ => F5)
      (with_reducible rename News _ _ _ _ => N5)
      obtain ⟨cd, cr, hcd⟩ : ∃ cd cr, code.drop i = cd :: cr := by
        cases hcd : code.drop i with
        | nil => have := congrArg List.length hcd; rw [List.length_drop] at this; simp at this; omega
        | cons a r => exact ⟨a, r, rfl⟩
      have hcd2 : code.drop (i + 1) = cr := by rw [← List.tail_drop, hcd]; rfl
      have hfree : freeOf left (code.drop i) ≠ [] := free_ne q5 (by rw [q4, List.length_drop]; omega)
      refine min_N (hh := rfl) F5 N5 (by k_mem) hS hfree ?_
      clear F5 N5
      intro h5 t5 tk5 F5 N5
      replace N5 := cb_drop N5 (fun p hp => .tail _ hp)
      have hlf := leaf_spec hfree
      k_steps
      unfold Hold
      have egd : (List.map Int.ofNat code).getD ((0 : Int) + (i : Int)).toNat 0 = (cd : Int) := by
        have e0 : ((0 : Int) + (i : Int)).toNat = i := by omega
        have e1 : code[i]? = some cd := by rw [← List.head?_drop, hcd]; rfl
        rw [e0, List.getD_eq_getElem?_getD, List.getElem?_map, e1]
        rfl
      (with_reducible rename Fr g1 _ _ _ => F6)
      (with_reducible rename News g1 _ _ _ => N6)
      have hel : es.length ≤ 16 := by rw [q1.length, q8]; omega
      have hll : ls.length ≤ 16 := by rw [q2.length, List.length_map, q4]; omega
      rw [egd] at N6
      k_dflt (refine' append_K ?k1 N6 ?k3 ?_ ?z)
      case k1 => k_asm
      case k3 => k_upd
      case z => rw [List.size_toArray, sizeLine_eq]; omega
      intro h9 F9 N9
      clear N6 F6
      k_sweep
      (try dsimp only)
      k_steps
      unfold Hold
      refine slimG ?_
      intro hG9
      obtain ⟨hki, jj, qq, hk1, hk2, hk3⟩ := ints_erase q2 hlf.1
      refine hG9 ?_
      clear hG9
      (with_reducible rename Fr g1 _ _ _ => F6)
      (with_reducible rename News g1 _ _ _ => N6)
      k_dflt (refine' kf_remove (j := jj) (q := qq) F6 N6 hki ?e ?e2 ?U ?z ?_)
      case e => exact hk1
      case e2 => exact hk2
      case U => k_upd
      case z => exact (show ls.length ≤ _ by rw [sizeLine_eq]; omega)
      clear F6 N6
      intro h10 F10 N10
      (try dsimp only [List.cons_append, List.nil_append] at N10)
      k_sweep
      k_steps
      (with_reducible rename And (I < _) _ => lD)
      refine cut7 lD ?_
      intro d1 d2 d3 d4 d5 d6 d7
      clear lD
      simp only [List.push_toArray] at N10
      refine hP1 _ _ ?_
      show JEnd g1 _ I ito _ _ _
      refine JEnd.intro7 F10 N10 ?ho (EdgesJ.mk (es := es ++ [_]) (ls := qq) (done := done ++ [(leafOf left (code.drop i), cd)]) (left := left.erase (leafOf left (code.drop i))) ?g1 hk3 ?g3 ?g4 (q5.erase _) ?g6 (fun p hp => List.mem_cons_of_mem _ (q7 p hp)) ?g8 (by assumption) rfl rfl (off_cons (Nat.ne_of_gt d2) q12) (off_cons (Nat.ne_of_gt d3) q13) (off_cons (Nat.ne_of_gt d4) q14) (off_cons (Nat.ne_of_gt d5) q15) (off_cons (Nat.ne_of_gt d6) q16) q17 q18 q19 q20 q21 q22 q23)
      case ho =>
        exact off_cons (i1) (off_cons (i2) (off_cons (i3) (off_cons (i4) (off_cons (i5) (off_cons (Nat.ne_of_gt d1) (i6))))))
      case g1 => exact EdgesAre.snoc (e := (leafOf left (code.drop i), cd)) (q1.mono fun p hp => List.mem_cons_of_mem _ hp) (List.mem_cons_self ..)
      case g3 => rw [q3, hcd2, hcd, List.append_assoc]; rfl
      case g4 => rw [List.length_erase_of_mem hlf.1, q4]; omega
      case g6 =>
        intro a ha
        rw [hcd2] at ha
        refine (List.mem_erase_of_ne fun e => hlf.2 ?_).mpr (q6 a (by rw [hcd]; exact List.mem_cons_of_mem _ ha))
        rw [← e, hcd]
        exact List.mem_cons_of_mem _ ha
      case g8 => rw [List.length_append, q8]; rfl
  case done =>
    intro m₁ nw h tk hz9
    intro F4 N4
    refine EdgesJ.out hz9 ?_
    intro el ll es ls j k im' done left oK vK e9 q1 q2 q3 q4 q5 q6 q7 q8 q9 q10 q11 q12 q13 q14 q15 q16 q17 q18 q19 q20 q21 q22 q23
    rw [e9] at N4
    clear hz9 e9
    replace F4 := fr_say2 F4 q10 q11
    k_steps
    unfold Hold
    (with_reducible rename Fr g1 _ _ _ => F6)
    (with_reducible rename News g1 _ _ _ => N6)
    (with_reducible rename And (el < _) _ => lD)
    refine cut6 lD ?_
    intro d2 d3 d4 d5 d6 d7
    clear lD
    have hel : es.length ≤ 16 := by rw [q1.length, q8]; omega
    have hc6 : code.drop 6 = [] := List.drop_of_length_le (by omega)
    rw [getD_nat, getD_nat] at N6
    k_dflt (refine' append_K ?y1 N6 ?y3 ?_ ?y4)
    case y1 => k_asm
    case y3 => k_upd
    case y4 => rw [List.size_toArray, sizeLine_eq]; omega
    intro h9 F9 N9
    clear N6 F6
    k_sweep
    (try dsimp only)
    k_steps
    (with_reducible rename Fr h₀ _ _ _ => F10)
    (with_reducible rename News h₀ _ _ _ => N10)
    simp only [List.push_toArray] at N10
    refine hret el (es ++ [_]) _ (_ :: im') _ _ F10 (N_front7 N10) ?y6 (fun p hp => List.mem_cons_of_mem _ (q7 p hp)) (off_cons (Nat.ne_of_gt d2) q12) (off_cons (Nat.ne_of_gt d6) q16) (Ne.symm q20)
    case y6 =>
      rw [q3, hc6]
      exact EdgesAre.snoc (e := (left.getD 0 0, left.getD 1 0)) (q1.mono fun p hp => List.mem_cons_of_mem _ hp) (List.mem_cons_self ..)
end Mine
end PartW11

/- part Swap -/
section PartSwap
open PySem PySem.W PyProof.Rows Mine
set_option Elab.async false
set_option maxRecDepth 100000
namespace Mine
open PySem PySem.Calls PySem.Spec PySem.W PyProof.Rows LCg LCp
theorem EdgesAre.at {im : List (Addr × Obj)} {vs : List Value} {es : List (Nat × Nat)} (h : EdgesAre im vs es) {i : Nat} {v : Value} (hv : vs[i]? = some v) : ∃ b e t u, v = .ref b ∧ es[i]? = some e ∧ (b, pairI e.1 e.2 t u) ∈ im := by
  induction h generalizing i with
  | nil => cases hv
  | @cons b e t u vs es hb _ ih =>
    cases i with
    | zero =>
      have : v = .ref b := by simpa using hv.symm
      exact ⟨b, e, t, u, this, rfl, hb⟩
    | succ i =>
      obtain ⟨b', e', t', u', h1, h2, h3⟩ := ih (i := i) (by simpa using hv)
      exact ⟨b', e', t', u', h1, by simpa using h2, h3⟩
abbrev swapE (e : Nat × Nat) : Nat × Nat := (e.2, e.1)
section
variable {prog : Program} {w : World} {A : Around} {E : Value → Shared → Prop} {s : Shared} {env : Env} {h₀ : Heap} {L : Addr} {m : Str → Option Value}
theorem swap_rest {x x₂ : Str} {px px₂ : Pos} {k : Nat} {tp : Pos} {scope : Scope} {cl : List (Str × Addr)} {s₁ : Shared} {e : Addr} {vs : List Value} {n : Nat} {es : List (Nat × Nat)} {news : List (Addr × Obj)} {Q : Value → Shared → Prop} {hp : Heap}
    (hx : ∀ C, (compEnvC scope cl C env).kindOf x = some .local) (hx₂ : ∀ C, (compEnvC scope cl C env).kindOf x₂ = some .local) (hk : scope.kind = .function) (hd : (x == ("__debug__" : Str)) = false) (hd₂ : (x₂ == ("__debug__" : Str)) = false)
    (hm : (e, listOf vs.toArray n) ∈ news) (hE : EdgesAre news vs es)
    (h : ∀ D ys j extra h' tk, Fr h₀ L h' m → News h₀ L h' ((D, listOf (List.toArray ys) j) :: (extra ++ news)) → EdgesAre extra ys (es.map swapE) → (∀ p ∈ extra ++ news, @Ne Nat p.1 D) → (∀ p ∈ extra, ∀ q ∈ news, @LT.lt Nat _ q.1 p.1) → Q (.ref D) { s₁ with heap := h', toks := tk }) :
    ∀ (j i : Nat) (ys : List Value) (extra : List (Addr × Obj)), i + j = vs.length → EdgesAre extra ys ((es.take i).map swapE) → (∀ p ∈ extra, ∀ q ∈ news, @LT.lt Nat _ q.1 p.1) →
      CompRestP prog w A h₀ L m env (.Tuple [.Name x₂ px₂, .Name x px] k tp) x x₂ scope cl { s₁ with heap := hp } (SrcAt h₀ e vs.toArray) (fun i v => vs.toArray[i]? = some v) (FinE h₀ L m { s₁ with heap := hp } Q) j i ys (extra ++ news)
  | 0, i, ys, extra, hi, hE2, ha => by
    refine CompRestP.zero fun D h' tk F' N' o1 => ?_
    have hes : es.take i = es := List.take_of_length_le (by rw [← hE.length]; omega)
    rw [hes] at hE2
    have ho : ∀ {l : List (Addr × Obj)}, Off1 D l → ∀ p ∈ l, @Ne Nat p.1 D := by
      intro l
      induction l with
      | nil => intro _ p hp; cases hp
      | cons a r ih =>
        intro h p hp
        rcases List.mem_cons.mp hp with rfl | hp
        · exact h.1
        · exact ih h.2 p hp
    exact h D ys _ extra h' tk F' N' hE2 (ho o1) ha
  | j + 1, i, ys, extra, hi, hE2, ha => by
    refine CompRestP.succ fun v hv => ?_
    have hv2 : vs[i]? = some v := by simpa using hv
    obtain ⟨b, ed, t, u, rfl, he, hb⟩ := hE.at hv2
    refine ⟨b, _, .int (ed.1 : Int) t, .int (ed.2 : Int) u, _, rfl, List.mem_append_right _ hb, rfl, rfl, ?_⟩
    intro I oI C oC D m₂ hh tk E' hNs h1 h2 F N off offs
    have hC := (N (C, oC) (.tail _ (.head _))).1
    have hn := NsObj.ns hNs hC
    refine wpAny_Tuple ?_
    refine spliced_more ?_
    refine wpAny_Name (wpAny_loadName_local hk (hx₂ C) (s := { s₁ with heap := hh, toks := tk }) hn h2 ?_) hd₂
    refine spliced_more ?_
    refine wpAny_Name (wpAny_loadName_local hk (hx C) (s := { s₁ with heap := hh, toks := tk }) hn h1 ?_) hd
    refine spliced_none ?_
    refine ⟨by rw [sizeLine_eq]; simp, ?_⟩
    have N' : News h₀ L (hh.push { cls := .type "tuple", data := .seq [Value.int (ed.2 : Int) u, Value.int (ed.1 : Int) t].toArray }) _ := N.push F _ rfl
    have hab : ∀ p ∈ (I, oI) :: (C, oC) :: (D, lst ys) :: (extra ++ news), @LT.lt Nat _ p.1 hh.objs.size := fun p hp => Heap.lt_size (N p hp).1
    refine CompEnd.intro (F.push _) N' ((hh.objs.size, pairI ed.2 ed.1 u t) :: (extra ++ news)) ?_ ?_ ?_ ?_
    · intro p hp
      simp only [List.mem_cons] at hp ⊢
      rcases hp with h | h | h | h | h <;> simp [h]
    · refine ⟨⟨?_, ?_, ?_⟩, off⟩
      · exact Nat.ne_of_gt (hab _ (.head _))
      · exact Nat.ne_of_gt (hab _ (.tail _ (.head _)))
      · exact Nat.ne_of_gt (hab _ (.tail _ (.tail _ (.head _))))
    · exact .inr ⟨_, .tail _ (List.mem_append_right _ hm), rfl, _, rfl⟩
    · refine swap_rest hx hx₂ hk hd hd₂ hm hE h j (i + 1) _ ((hh.objs.size, pairI ed.2 ed.1 u t) :: extra) (by omega) ?_ ?_
      · rw [List.take_add_one, he]
        simp only [Option.toList_some, List.map_append, List.map_cons, List.map_nil]
        exact EdgesAre.snoc (e := swapE ed) (hE2.mono fun p hp => List.mem_cons_of_mem _ hp) (List.mem_cons_self ..)
      · intro p hp q hq
        rcases List.mem_cons.mp hp with rfl | hp
        · exact hab _ (.tail _ (.tail _ (.tail _ (List.mem_append_right _ hq))))
        · exact ha p hp q hq
theorem comp_swap {iter : Expr} {x x₂ : Str} {px px₂ qx qx₂ tp tq : Pos} {k k2} {scope : Scope} {cl : List (Str × Addr)} {pos : Pos} {Q : Value → Shared → Prop} (F₀ : Fr h₀ L s.heap m) (hh : A.handled = none)
    (hclos : closureFor scope env = pure cl) (hcell : ∀ y ∈ scope.names, y.2 ≠ .cell) (hkind : scope.kind = .function)
    (hnames : ∀ y ∈ scope.names, y.2 = .local → scope.names.lookup y.1 = some .local) (hx : scope.names.lookup x = some .local) (hx₂ : scope.names.lookup x₂ = some .local) (hxx : x ≠ x₂)
    (kx : ∀ C, (compEnvC scope cl C env).kindOf x = some .local) (kx₂ : ∀ C, (compEnvC scope cl C env).kindOf x₂ = some .local) (hd : (x == ("__debug__" : Str)) = false) (hd₂ : (x₂ == ("__debug__" : Str)) = false)
    (h : wpAny (model prog w) A (eval iter env) (fun xv s₁ => Hold (∃ e vs n es news, xv = .ref e ∧ Fr h₀ L s₁.heap m ∧ News h₀ L s₁.heap news ∧ (e, listOf vs.toArray n) ∈ news ∧ EdgesAre news vs es ∧ vs.length ≤ 1000 ∧
      ∀ D ys j extra h' tk, Fr h₀ L h' m → News h₀ L h' ((D, listOf (List.toArray ys) j) :: (extra ++ news)) → EdgesAre extra ys (es.map swapE) → (∀ p ∈ extra ++ news, @Ne Nat p.1 D) → (∀ p ∈ extra, ∀ q ∈ news, @LT.lt Nat _ q.1 p.1) → Q (.ref D) { s₁ with heap := h', toks := tk })) E s)
    (hs : ∀ x, foldedSetIterable iter env x = pure x) :
    wpAny (model prog w) A (eval (.ListComp (.Tuple [.Name x₂ px₂, .Name x px] k tp) [⟨.Tuple [.Name x qx, .Name x₂ qx₂] k2 tq, iter, [], 0⟩] scope pos) env) Q E s := by
  refine ListComp_P F₀ hclos hcell hkind hnames hx hx₂ hxx (wpAny_mono h (fun xv s₁ h₁ => ?_) fun _ _ e => e) hs
  obtain ⟨e, vs, n, es, news, rfl, F, N, hm, hE, hz, hQ⟩ := h₁
  refine SrcLP.ledger hh F N hm (by rw [List.size_toArray, sizeLine_eq]; omega) fun g => ?_
  have := swap_rest (prog := prog) (w := w) (A := A) (hp := g) (px := px) (px₂ := px₂) (k := k) (tp := tp) kx kx₂ hkind hd hd₂ hm hE hQ vs.length 0 [] [] (by omega) .nil (fun p hp => nomatch hp)
  rw [List.size_toArray]
  exact this
end
theorem compSI {h₀ : Heap} {L : Addr} {h : Heap} {m : Str → Option Value} {K : List Value → List (Nat × Nat) → List (Addr × Obj) → Prop} {e : Addr} {vs : List Value} {n : Nat} {es : List (Nat × Nat)} {news : List (Addr × Obj)}
    (F : Fr h₀ L h m) (N : News h₀ L h news) (hm : (e, listOf vs.toArray n) ∈ news) (hE : EdgesAre news vs es) (hl : vs.length ≤ 1000) (hk : K vs es news) :
    ∃ e' vs n es news, Value.ref e = .ref e' ∧ Fr h₀ L h m ∧ News h₀ L h news ∧ (e', listOf vs.toArray n) ∈ news ∧ EdgesAre news vs es ∧ vs.length ≤ 1000 ∧ K vs es news :=
  ⟨e, vs, n, es, news, rfl, F, N, hm, hE, hl, hk⟩
end Mine
end PartSwap

/- part W12 -/
section PartW12
open PySem PySem.W PyProof.Rows Mine
set_option Elab.async false
set_option maxRecDepth 100000
set_option maxHeartbeats 4000000
namespace Mine
inductive KvsAre : List (Int × Value) → List Nat → List Str → Prop
  | nil : KvsAre [] [] []
  | cons {v : Nat} {p : Str} {t : Tok} {kvs : List (Int × Value)} {order : List Nat} {ps : List Str} : KvsAre kvs order ps → KvsAre (((v : Int), .str p t) :: kvs) (v :: order) (p :: ps)
theorem KvsAre.snoc {kvs : List (Int × Value)} {order : List Nat} {ps : List Str} {v : Nat} {p : Str} {t : Tok} (h : KvsAre kvs order ps) : KvsAre (kvs ++ [((v : Int), .str p t)]) (order ++ [v]) (ps ++ [p]) := by
  induction h with
  | nil => exact .cons .nil
  | cons _ ih => exact .cons ih
theorem KvsAre.at {kvs : List (Int × Value)} {order : List Nat} {ps : List Str} (h : KvsAre kvs order ps) {i v : Nat} {p : Str} (hv : order[i]? = some v) (hp : ps[i]? = some p) : ∃ t, kvs[i]? = some ((v : Int), .str p t) := by
  induction h generalizing i with
  | nil => cases hv
  | @cons v' p' t kvs order ps _ ih =>
    cases i with
    | zero =>
      have e1 : v' = v := by simpa using hv
      have e2 : p' = p := by simpa using hp
      subst e1 e2
      exact ⟨t, rfl⟩
    | succ i => exact ih (i := i) (by simpa using hv) (by simpa using hp)
theorem KvsAre.length {kvs : List (Int × Value)} {order : List Nat} {ps : List Str} (h : KvsAre kvs order ps) : kvs.length = order.length ∧ ps.length = order.length := by
  induction h with
  | nil => exact ⟨rfl, rfl⟩
  | cons _ ih => exact ⟨by rw [List.length_cons, List.length_cons, ih.1], by rw [List.length_cons, List.length_cons, ih.2]⟩
theorem KvsAre.new {kvs : List (Int × Value)} {order : List Nat} {ps : List Str} {v : Nat} {x : Value} (h : KvsAre kvs order ps) (hv : v ∉ order) : stored kvs (v : Int) x = kvs ++ [((v : Int), x)] := by
  have e : kvs.any (fun kv => kv.1 = (v : Int)) = false := by
    induction h with
    | nil => rfl
    | @cons v' p' t kvs order ps _ ih =>
      rw [List.any_cons, ih fun h => hv (List.mem_cons_of_mem _ h)]
      have : ¬ ((v' : Int) = (v : Int)) := fun e => hv (by rw [Int.ofNat.inj e]; exact List.mem_cons_self ..)
      simp [this]
  unfold stored
  rw [if_neg (by rw [e]; exact Bool.false_ne_true)]
theorem fr_say4 {h₀ h : Heap} {L : Addr} {m : Str → Option Value} {x y z r : Str} {v w u q : Value} (F : Fr h₀ L h m) (hx : m x = some v) (hy : m y = some w) (hz : m z = some u) (hr : m r = some q) : Fr h₀ L h (fun a => if a = x then some v else if a = y then some w else if a = z then some u else if a = r then some q else m a) := by
  have e : (fun a => if a = x then some v else if a = y then some w else if a = z then some u else if a = r then some q else m a) = m := by
    funext a
    by_cases h : a = x
    · rw [if_pos h, h, hx]
    · rw [if_neg h]
      by_cases h2 : a = y
      · rw [if_pos h2, h2, hy]
      · rw [if_neg h2]
        by_cases h3 : a = z
        · rw [if_pos h3, h3, hz]
        · rw [if_neg h3]
          by_cases h4 : a = r
          · rw [if_pos h4, h4, hr]
          · rw [if_neg h4]
  rw [e]; exact F
theorem EdgesAre.append {im : List (Addr × Obj)} {vs ws : List Value} {es fs : List (Nat × Nat)} (h : EdgesAre im vs es) (k : EdgesAre im ws fs) : EdgesAre im (vs ++ ws) (es ++ fs) := by
  induction h with
  | nil => exact k
  | cons hb _ ih => exact .cons hb ih
theorem N_ex {h₀ h : Heap} {L : Addr} {q a b c f : Addr × Obj} {ex im : List (Addr × Obj)} (N : News h₀ L h (q :: (ex ++ a :: b :: c :: f :: im))) : News h₀ L h (q :: f :: a :: b :: c :: (ex ++ im)) := cb_drop N (by
  intro p hp
  simp only [List.mem_cons, List.mem_append] at hp ⊢
  rcases hp with h | h | h | h | h | h | h <;> simp [h])
theorem N_sw {h₀ h : Heap} {L : Addr} {a b c e f g : Addr × Obj} {im : List (Addr × Obj)} (N : News h₀ L h (a :: b :: c :: e :: f :: g :: im)) : News h₀ L h (a :: b :: g :: e :: f :: c :: im) := cb_drop N (by
  repeat' (first | refine sub_cons ?_ ?_ | exact .head _ | refine .tail _ ?_ | exact hp | intro p hp))
theorem JEnd.introB {h₀ : Heap} {L I : Addr} {it : Obj} {J : (Str → Option Value) → List (Addr × Obj) → Prop} {s₁ : Shared} {h' : Heap} {tk : Nat} {m' : Str → Option Value} {b : Addr × Obj} {rest : List (Addr × Obj)} (F : Fr h₀ L h' m')
    (N : News h₀ L h' (b :: (I, it) :: rest)) (ho : ∀ p ∈ rest, p.1 ≠ I) (hj : J m' rest) : JEnd h₀ L I it J s₁ { s₁ with heap := h', toks := tk } :=
  JEnd.intro F N (.tail _ (.head _)) (fun p hp => .tail _ (.tail _ hp)) ho hj
theorem N_add9 {h₀ h : Heap} {L : Addr} {a1 a2 a3 a4 a5 l x d b : Addr × Obj} {im : List (Addr × Obj)} (N : News h₀ L h (a1 :: a2 :: a3 :: a4 :: a5 :: l :: x :: d :: b :: im)) : News h₀ L h (x :: d :: l :: a1 :: a2 :: a3 :: a4 :: a5 :: b :: im) := cb_drop N (by
  repeat' (first | refine sub_cons ?_ ?_ | exact .head _ | refine .tail _ ?_ | exact hp | intro p hp))
theorem JEnd.intro9 {h₀ : Heap} {L I : Addr} {it : Obj} {J : (Str → Option Value) → List (Addr × Obj) → Prop} {s₁ : Shared} {h' : Heap} {tk : Nat} {m' : Str → Option Value} {l b x d a1 a3 a4 a5 b3 : Addr × Obj} {im : List (Addr × Obj)} (F : Fr h₀ L h' m')
    (N : News h₀ L h' (l :: b :: x :: d :: a1 :: (I, it) :: a3 :: a4 :: a5 :: b3 :: im)) (ho : ∀ p ∈ a3 :: a4 :: a5 :: l :: x :: d :: b3 :: b :: im, p.1 ≠ I) (hj : J m' (a3 :: a4 :: a5 :: l :: x :: d :: b3 :: b :: im)) : JEnd h₀ L I it J s₁ { s₁ with heap := h', toks := tk } :=
  JEnd.intro F N (.tail _ (.tail _ (.tail _ (.tail _ (.tail _ (.head _)))))) (by
    repeat' (first | refine sub_cons ?_ ?_ | exact .head _ | refine .tail _ ?_ | exact hp | intro p hp)) ho hj
theorem PairsAre.snoc {im : List (Addr × Obj)} {vs : List Value} {rows : List (Str × Str)} {b : Addr} {k v : Str} {t u : Tok} (h : PairsAre im vs rows) (hb : (b, pairOf k v t u) ∈ im) : PairsAre im (vs ++ [Value.ref b]) (rows ++ [(k, v)]) := by
  induction h with
  | nil => exact .cons hb .nil
  | cons hc _ ih => exact .cons hc ih
theorem N_ex2 {h₀ h : Heap} {L : Addr} {q r f a b c : Addr × Obj} {im : List (Addr × Obj)} (N : News h₀ L h (q :: r :: f :: a :: b :: c :: im)) : News h₀ L h (q :: a :: b :: c :: im) := cb_drop N (by
  repeat' (first | refine sub_cons ?_ ?_ | exact .head _ | refine .tail _ ?_ | exact hp | intro p hp))
theorem fr_say5 {h₀ h : Heap} {L : Addr} {m : Str → Option Value} {x y z r s : Str} {v w u q o : Value} (F : Fr h₀ L h m) (hx : m x = some v) (hy : m y = some w) (hz : m z = some u) (hr : m r = some q) (hs : m s = some o) : Fr h₀ L h (fun a => if a = x then some v else if a = y then some w else if a = z then some u else if a = r then some q else if a = s then some o else m a) := by
  have e : (fun a => if a = x then some v else if a = y then some w else if a = z then some u else if a = r then some q else if a = s then some o else m a) = m := by
    funext a
    by_cases h : a = x
    · rw [if_pos h, h, hx]
    · rw [if_neg h]
      by_cases h2 : a = y
      · rw [if_pos h2, h2, hy]
      · rw [if_neg h2]
        by_cases h3 : a = z
        · rw [if_pos h3, h3, hz]
        · rw [if_neg h3]
          by_cases h4 : a = r
          · rw [if_pos h4, h4, hr]
          · rw [if_neg h4]
            by_cases h5 : a = s
            · rw [if_pos h5, h5, hs]
            · rw [if_neg h5]
  rw [e]; exact F
theorem News.more1 {h₀ h : Heap} {L : Addr} {q : Addr × Obj} {all : List (Addr × Obj)} (N : News h₀ L h all) (hq : q ∈ all) : News h₀ L h (q :: all) := cb_drop N (fun p hp => by
  rcases List.mem_cons.mp hp with rfl | hp
  · exact hq
  · exact hp)
theorem abc_item : ∀ v : Nat, v < 8 → Txt.item (Str.ofString "abcdefgh") (v : Int) = letter v := by decide +kernel
theorem abc_at {prog : Program} {w : World} {A : Around} {E : Value → Shared → Prop} {s : Shared} {value slice : Expr} {v : Nat} {t u : Tok} {Q : Value → Shared → Prop} (hv : v < 8) (h : Q (.str (letter v) s.toks) { s with toks := s.toks + 1 })
    (hs : subscripted slice false (.str (Str.ofString "abcdefgh") t) (.int (v : Int) u) = operate [.str (Str.ofString "abcdefgh") t, .int (v : Int) u] (getItem (.str (Str.ofString "abcdefgh") t) (.int (v : Int) u)) := by with_unfolding_all rfl)
    (ht : ∀ r, letTemporaryGo value (.str (Str.ofString "abcdefgh") t) r = pure () := by intro _; with_unfolding_all rfl) :
    wpAny (model prog w) A (subscriptTail value slice (.str (Str.ofString "abcdefgh") t) (.int (v : Int) u)) Q E s := by
  have e8 : (Str.ofString "abcdefgh").length = 8 := by decide +kernel
  refine item_str ?_ ?_ ?_ (fun _ => ?_) hs ht
  · unfold fitsSsize
    simp
    omega
  · rw [e8]; omega
  · rw [e8]; omega
  · rw [abc_item v hv]; exact h
def HJ (w : World) (x dd l o d b : Addr) (kt : Tok) (bs : List Value) (jb : Nat) (im : List (Addr × Obj)) (st : HS) (m : Str → Option Value) (nw : List (Addr × Obj)) : Prop :=
  ∃ od kvs jo ords vs j im', nw = (o, listOf (List.toArray ords) jo) :: (d, od) :: (l, listOf (List.toArray vs) j) :: (x, instObj 203 dd) :: (dd, headTab w l kt) :: (b, listOf (List.toArray bs) jb) :: im' ∧ PairsAre im' vs st.rows ∧ IntsAre ords (st.order.map Int.ofNat) ∧
    Obj.IsDictOf (PySem.intKind PySem.Challenge.rw_pg0256_01.row.prog w) od kvs ∧ KvsAre kvs st.order st.ps ∧ (∀ p ∈ im, p ∈ im') ∧ m (Str.ofString "table") = some (.ref x) ∧ m (Str.ofString "both") = some (.ref b) ∧ m (Str.ofString "paths") = some (.ref d) ∧ m (Str.ofString "order") = some (.ref o) ∧
    ((∀ p ∈ im', p.1 ≠ o) ∧ (∀ p ∈ im', p.1 ≠ d) ∧ (∀ p ∈ im', p.1 ≠ l)) ∧ HInv st
theorem HJ.out {w : World} {x dd l o d b : Addr} {kt : Tok} {bs : List Value} {jb : Nat} {im : List (Addr × Obj)} {st : HS} {m : Str → Option Value} {nw : List (Addr × Obj)} {G : Prop} (h : HJ w x dd l o d b kt bs jb im st m nw)
    (y : ∀ od kvs jo ords vs j im', nw = (o, listOf (List.toArray ords) jo) :: (d, od) :: (l, listOf (List.toArray vs) j) :: (x, instObj 203 dd) :: (dd, headTab w l kt) :: (b, listOf (List.toArray bs) jb) :: im' → PairsAre im' vs st.rows → IntsAre ords (st.order.map Int.ofNat) →
      Obj.IsDictOf (PySem.intKind PySem.Challenge.rw_pg0256_01.row.prog w) od kvs → KvsAre kvs st.order st.ps → (∀ p ∈ im, p ∈ im') → m (Str.ofString "table") = some (.ref x) → m (Str.ofString "both") = some (.ref b) → m (Str.ofString "paths") = some (.ref d) → m (Str.ofString "order") = some (.ref o) →
      (∀ p ∈ im', p.1 ≠ o) → (∀ p ∈ im', p.1 ≠ d) → (∀ p ∈ im', p.1 ≠ l) → HInv st → G) : G := by
  obtain ⟨od, kvs, jo, ords, vs, j, im', e, q1, q2, q3, q4, q5, q6, q7, q8, q9, ⟨q10, q11, q12⟩, q13⟩ := h
  exact y od kvs jo ords vs j im' e q1 q2 q3 q4 q5 q6 q7 q8 q9 q10 q11 q12 q13
theorem HJ.mk {w : World} {x dd l o d b : Addr} {kt : Tok} {bs : List Value} {jb : Nat} {im im' : List (Addr × Obj)} {st : HS} {m : Str → Option Value} {od : Obj} {kvs : List (Int × Value)} {ords vs : List Value} {jo j : Nat}
    (q1 : PairsAre im' vs st.rows) (q2 : IntsAre ords (st.order.map Int.ofNat)) (q3 : Obj.IsDictOf (PySem.intKind PySem.Challenge.rw_pg0256_01.row.prog w) od kvs) (q4 : KvsAre kvs st.order st.ps) (q5 : ∀ p ∈ im, p ∈ im')
    (q6 : m (Str.ofString "table") = some (.ref x)) (q7 : m (Str.ofString "both") = some (.ref b)) (q8 : m (Str.ofString "paths") = some (.ref d)) (q9 : m (Str.ofString "order") = some (.ref o))
    (q10 : ∀ p ∈ im', p.1 ≠ o) (q11 : ∀ p ∈ im', p.1 ≠ d) (q12 : ∀ p ∈ im', p.1 ≠ l) (q13 : HInv st) :
    HJ w x dd l o d b kt bs jb im st m ((o, listOf (List.toArray ords) jo) :: (d, od) :: (l, listOf (List.toArray vs) j) :: (x, instObj 203 dd) :: (dd, headTab w l kt) :: (b, listOf (List.toArray bs) jb) :: im') :=
  ⟨od, kvs, jo, ords, vs, j, im', rfl, q1, q2, q3, q4, q5, q6, q7, q8, q9, ⟨q10, q11, q12⟩, q13⟩
def HJ2 (I : Addr) (ito : Obj) (i : Nat) (d : Nat) (tv : Tok) (J : HS → (Str → Option Value) → List (Addr × Obj) → Prop) (st : HS) (m : Str → Option Value) (nw : List (Addr × Obj)) : Prop :=
  ∃ nw', nw = (I, ito) :: nw' ∧ J st m nw' ∧ m (Str.ofString "v") = some (.int (d : Int) tv) ∧ i < st.order.length ∧ st.order.getD i 0 = d ∧ (∀ p ∈ nw', p.1 ≠ I)
theorem HJ2.out {I : Addr} {ito : Obj} {i d : Nat} {tv : Tok} {J : HS → (Str → Option Value) → List (Addr × Obj) → Prop} {st : HS} {m : Str → Option Value} {nw : List (Addr × Obj)} {G : Prop} (h : HJ2 I ito i d tv J st m nw)
    (k : ∀ nw', nw = (I, ito) :: nw' → J st m nw' → m (Str.ofString "v") = some (.int (d : Int) tv) → i < st.order.length → st.order.getD i 0 = d → (∀ p ∈ nw', p.1 ≠ I) → G) : G := by
  obtain ⟨nw', e, q1, q2, q3, q4, q5⟩ := h
  exact k nw' e q1 q2 q3 q4 q5
theorem HJ2.mk {I : Addr} {ito : Obj} {i d : Nat} {tv : Tok} {J : HS → (Str → Option Value) → List (Addr × Obj) → Prop} {st : HS} {m : Str → Option Value} {nw' : List (Addr × Obj)}
    (q1 : J st m nw') (q2 : m (Str.ofString "v") = some (.int (d : Int) tv)) (q3 : i < st.order.length) (q4 : st.order.getD i 0 = d) (q5 : ∀ p ∈ nw', p.1 ≠ I) : HJ2 I ito i d tv J st m ((I, ito) :: nw') := ⟨_, rfl, q1, q2, q3, q4, q5⟩
local macro_rules | `(tactic| k_ne) => `(tactic| (refine neN ?_; (try dsimp only); first | exact Hold.ne (by with_reducible assumption) | exact Hold.ne' (by with_reducible assumption) | omega))
local macro_rules | `(tactic| k_room) => `(tactic| ktr_room)
local macro_rules | `(tactic| k_units) => `(tactic| (ktr_units))
local macro_rules | `(tactic| k_all) => `(tactic| first | with_reducible assumption | assumption)
local macro_rules | `(tactic| walk_at "pyIter ref") => `(tactic| ((with_reducible show wpAny _ _ (pyIter (Value.ref _)) (fun it s₂ => TurnsAt _ _ _ _ _ _ _ _ _ it s₂) _ _); refine Hold.out ?_))
local macro_rules | `(tactic| walk_at "exec For") => `(tactic| (k_here; refine Hold.out ?_))
local macro_rules | `(tactic| walk_at "exec For Name Call cons nil") => `(tactic| (k_here; refine Hold.out ?_))
local macro_rules | `(tactic| walk_at "eval Dict") => `(tactic| (k_here; k_dflt (refine' kdn_eval (knd := PySem.intKind _ _) ?F ?N ?b ?a ?l ?e ?n ?_; (case F => k_asm); (case N => k_asm); (case b => exact Top.nolimit (by k_asm)); (case a => rfl); (case l => rfl); (case e => exact List.cons_ne_nil _ _); (case n => exact Nat.le_of_ble_eq_true rfl)); intro d' h' o' F' N' l1 lo' hd'; (try k_lt l1); (try k_sweep)))
local macro_rules | `(tactic| walk_at "compareOp NotIn int ref") => `(tactic| (k_here; refine Hold.out ?_))
local macro_rules | `(tactic| walk_at "call builtin:list.append") => `(tactic| (k_here; (with_reducible show wpAny _ _ (call (Value.builtin _) [Value.ref _, Value.int _ _]) _ _ _); refine Hold.out ?_))
local macro_rules | `(tactic| walk_at "setItem ref int") => `(tactic| (k_here; refine Hold.out ?_))
local macro_rules | `(tactic| walk_at "subscriptTail Name Name ref int") => `(tactic| (k_here; k_dflt (refine' kda_item (knd := PySem.intKind _ _) ?N ?hp ?hd ?hk ?hl ?_; (case N => k_asm); (case hp => k_mem); (case hd => assumption); (case hk => exact PySem.intKind_is _ _ _ _); (case hl => assumption); k_whole)))
local macro_rules | `(tactic| walk_at "binaryOp Add str str") => `(tactic| (k_here; k_dflt (refine' PyProof.Rows.add_str ?_ ?z; (case z => (simp only [Str.length_append, sizeLine_eq]; omega)); k_whole); intro t' k'; (try dsimp only)))
local macro_rules | `(tactic| walk_at "call ref") => `(tactic| (k_here; (with_reducible show wpAny _ _ (call (Value.ref 200) _ _) _ _ _); refine Hold.out ?_))
local macro_rules | `(tactic| walk_at "KdnMade") => `(tactic| (k_here; refine Hold.out ?_))
local macro_rules | `(tactic| walk_at "subscriptTail") => `(tactic| (k_here; (with_reducible show wpAny _ _ (subscriptTail _ _ (Value.str _ _) (Value.int _ _)) _ _ _); refine Hold.out ?_))
local macro_rules | `(tactic| walk_at "eval ListComp") => `(tactic| (k_here; refine Hold.out ?_))
local macro_rules | `(tactic| walk_at "call ref") => `(tactic| (k_here; (with_reducible show wpAny _ _ (call (Value.ref 203) _ _) _ _ _); refine Hold.out ?_))
local macro_rules | `(tactic| walk_at "binaryOp Add ref ref") => `(tactic| (k_here; refine Hold.out ?_))
theorem hang_c : ∀ (w : World) (p : Program) (loose : List Str) (mean : ExcName → Option Value) (mg mb : Str → Option Value) (e : Addr) (vs : List Value) (nv : Nat) (es : List (Nat × Nat)) (root : Nat) (tr : Tok) (im : List (Addr × Obj)) (hE : EdgesAre im vs es) (hl : es.length = 7) (hroot : root < 8) (hb : ∀ a ∈ es, a.1 < 8 ∧ a.2 < 8)
    (hgrow : ∀ i, i < 8 → i < (hangN es root i).order.length) (him : ∀ p ∈ im, p.1 ≠ e)
    (dp un : Nat) (gd : Option (List Code)) (cn : Str) (cs : Scope) (a : Addr) (ccd : Value) (cl : List (Str × Addr)) (outer : List Env) (A₀ : Around) (base h₀ : Heap) (L : Addr) (m : Str → Option Value) (s : Shared) (Q E : Value → Shared → Prop)
    (B : Below A₀ base outer h₀) (F : Fr h₀ L s.heap m) (X : (hd.heap_39 w.params).In h₀) (N : News h₀ L s.heap ((e, listOf vs.toArray nv) :: im)) (T : Top p loose mean mg mb h₀) (hcs : cs.kind = .function) (hdp : dp + 30 < recursionLimit) (hun : un + 200 < cLine)
    (hret : ∀ (x d l : Addr) (kt : Tok) (ws : List Value) (j : Nat) (im' : List (Addr × Obj)) (h' : Heap) (tk' : Nat), Fr h₀ L h' m → News h₀ L h' ((x, instObj 203 d) :: (d, headTab w l kt) :: (l, listOf ws.toArray j) :: im') → PairsAre im' ws (hangN es root 8).rows → (∀ p ∈ im, p ∈ im') → @Ne Nat x l → @Ne Nat d l → (∀ p ∈ im', p.1 ≠ l) → Q (.ref x) { s with heap := h', toks := tk' }),
    wpAny (model PySem.Challenge.rw_pg0256_01.row.prog w) (ktrTop dp un gd cn cs L a ccd cl outer) (call (.ref 217) [.ref e, .int (root : Int) tr]) Q E s := by
  w_top off
  k_fill
  intro w p loose mean mg mb e vs nv es root tr im hE hl hroot hb hgrow him dp un gd cn cs a ccd cl outer A₀ base h₀ L m s Q E B F X N T hcs hdp hun hret
  obtain ⟨ck, c2, c3, c4, c5⟩ := cs
  cases (show ck = .function from hcs)
  k_steps
  unfold Hold
  (with_reducible rename And (@LT.lt Nat _ e _) (AllLt _ im) => l9)
  k_dflt (refine' new_c _ _ _ _ _ _ _ _ ((e, listOf vs.toArray nv) :: im) ?hl _ _ _ _ _ _ _ _ _ _ _ _ _ _ _ _ _ ?kB ?kF ?kX ?kN ?kT ?kk ?kd ?ku ?_)
  case hl =>
    intro p hp
    rcases List.mem_cons.mp hp with rfl | hp
    · exact Nat.ne_of_lt l9.1
    · exact Nat.ne_of_lt (ktn_ltOf l9.2 p hp)
  case kB => k_asm
  case kF => k_asm
  case kX => k_asm
  case kN => k_asm
  case kT => k_asm
  case kk => exact rfl
  case kd => ktr_room
  case ku => ktr_units
  intro x d kt h1 tk1 F1 N1 l1 l2 l3

  k_sweep
  k_steps
  unfold Hold
  refine' comp_swap ?F0 ?hh ?clos ?cell ?kd2 ?names ?x1 ?x2 ?x3 ?x4 ?x5 ?x6 ?x7 ?_ (fun _ => rfl)
  case F0 => k_asm
  case hh => rfl
  case clos => with_unfolding_all rfl
  case cell => decide
  case kd2 => rfl
  case names => decide
  case x1 => rfl
  case x2 => rfl
  case x3 => decide
  case x4 => intro C; rfl
  case x5 => intro C; rfl
  case x6 => decide
  case x7 => decide
  k_steps
  unfold Hold
  (with_reducible rename Fr _ _ _ _ => F2)
  (with_reducible rename News _ _ _ _ => N2)
  refine compSI (e := e) (vs := vs) (n := nv) (es := es) F2 N2 (by k_mem) (hE.mono (fun p hp => by repeat' (first | exact hp | refine .tail _ ?_))) (by rw [hE.length, hl]; omega) ?_
  clear F2 N2
  intro D2 ys j2 ex h2 tk2 F2 N2 hE2 l4 l5
  k_steps
  unfold Hold
  have N3 := N_ex N2
  have hE3 : EdgesAre (ex ++ im) (vs ++ ys) (bothOf es) := EdgesAre.append (hE.mono fun p hp => List.mem_append_right _ hp) (hE2.mono fun p hp => List.mem_append_left _ hp)
  have him3 : ∀ p ∈ im, p ∈ ex ++ im := fun p hp => List.mem_append_right _ hp
  rename_i l hX hY
  have hl3 : ∀ p ∈ ex ++ im, @Ne Nat p.1 l := by
    intro p hp
    rcases List.mem_append.mp hp with hp | hp
    · exact Nat.ne_of_gt (l5 p hp (l, _) (.tail _ (.tail _ (.head _))))
    · exact Nat.ne_of_lt (ktn_ltOf l9.2 p hp)
  generalize ex ++ im = imx at N3 hE3 him3 hl3
  have hlen : vs.length = 7 ∧ ys.length = 7 := ⟨by rw [hE.length, hl], by rw [hE2.length, List.length_map, hl]⟩
  clear N2 l4 l5 hE2
  k_dflt (refine' add_LL ?kF ?kN ?ka ?kb ?kz ?_)
  case kF => k_asm
  case kN => exact N3
  case ka => k_mem
  case kb => k_mem
  case kz => omega
  intro D3 h3 F4 N4 l6
  have N5 := N_ex2 N4
  have hD3l : @LT.lt Nat _ l D3 := l6 (l, _) (.tail _ (.tail _ (.tail _ (.tail _ (.head _)))))
  clear N4 N3 l6
  k_sweep
  k_steps
  unfold Hold
  refine abc_at hroot ?_
  k_steps
  unfold Hold
  k_dflt (refine' kdn_made_int ?F ?N ?U ?d ?k ?n ?_)
  case F => k_asm
  case N => k_asm
  case U => k_updF
  case d => k_asm
  case k => rfl
  case n => exact (show [((root : Nat) : Int)].Nodup by simp)
  intro h5 od F5 N5 hod
  (try dsimp only at N5)
  k_sweep
  k_steps
  unfold Hold
  rename_i g1 L1 hA FG1 B1 X1 T1 tkA tkB hB P hC odd lo0 hd0 lP hD O hE lO hF F9 N9
  refine cut6 lO ?_
  intro o1 o2 o3 o4 o5 o6
  clear lO
  refine cut5 lP ?_
  intro p1 p2 p3 p4 p5
  clear lP
  clear hd0
  refine For_turns (by k_asm) ?_ (fun _ => rfl) (by passes_own)
  k_steps
  unfold Hold
  rename Fr _ _ _ _ => F3
  rename News _ _ _ _ => N3
  (rename IsRange _ _ _ _ _ _ _ _ => rgX)
  replace N3 := N_sw N3
  refine' iter_rangeJ (n := 8) (fun i => HJ w x d l O P D3 kt (vs ++ ys) 0 imx (hangN es root i)) ?hh rgX ?sm ?sz F3 N3 ?j0 ?turn ?done
  case hh => rfl
  case sm => decide
  case sz => decide
  case j0 =>
    refine HJ.mk (jo := 0) (vs := []) .nil (.cons _ _ .nil) hod (.cons .nil) (fun _ h => h) rfl rfl rfl rfl ?_ ?_ hl3 (HInv.start hroot)
    · exact fun p hp => Nat.ne_of_lt (ktn_ltOf o6 p hp)
    · exact fun p hp => Nat.ne_of_lt (ktn_ltOf p5 p hp)
  case turn =>
    clear F3 N3 rgX
    intro i t m₁ nw I ito h tk hi8 hz9
    intro hoI F4 N4
    refine genT ?_
    intro P1 hP1
    refine HJ.out hz9 ?_
    intro od kvs jo ords ws j im' e9 q1 q2 q3 q4 q5 q6 q7 q8 q9 q10 q11 q12 q13
    rw [e9] at hoI N4
    clear hz9 e9
    replace F4 := fr_say4 F4 q6 q7 q8 q9
    have hoI0 := hoI
    refine offs6 hoI ?_
    intro i1 i2 i3 i4 i5 i6 i7
    clear hoI
    k_steps
    unfold Hold
    refine For_turns (by k_asm) ?_ (fun _ => rfl) (by passes_own)
    k_steps
    unfold Hold
    rename Fr _ _ _ _ => F3
    rename News _ _ _ _ => N3
    rename_i tv hG
    generalize hst : hangN es root i = st at *
    have hvv : (List.map Int.ofNat st.order).getD ((0 : Int) + (i : Int)).toNat 0 = ((st.order.getD i 0 : Nat) : Int) := by
      have e0 : ((0 : Int) + (i : Int)).toNat = i := by omega
      rw [e0, getD_nat]
    have hgi : i < st.order.length := by rw [← hst]; exact hgrow i hi8
    rw [hvv] at F3
    refine' iter_listJ (l := D3) (vs := vs ++ ys) (n := 0) (fun k => HJ2 I ito i (st.order.getD i 0) tv (HJ w x d l O P D3 kt (vs ++ ys) 0 imx) (((bothOf es).take k).foldl (visitF i) st)) ?hh2 F3 N3 ?hJl ?j02 ?turn2 ?done2
    case hh2 => rfl
    case hJl =>
      intro k m nw hz9
      refine HJ2.out hz9 fun nw' e8 hj9 _ _ _ _ => HJ.out hj9 fun _ _ _ _ _ _ _ e9 _ _ _ _ _ _ _ _ _ _ _ _ _ => ?_
      rw [e8, e9]
      exact .tail _ (.tail _ (.tail _ (.tail _ (.tail _ (.tail _ (.head _))))))
    case j02 =>
      exact HJ2.mk (HJ.mk q1 q2 q3 q4 q5 rfl rfl rfl rfl q10 q11 q12 q13) rfl hgi rfl hoI0
    case turn2 =>
      clear F3 N3 q1 q2 q3 q4 q5 q6 q7 q8 q9 q10 q11 q12 i7
      intro k vx m₁ nw I2 ito2 h tk hvx hz9
      intro hoI F4 N4
      refine genT ?_
      intro P2 hP2
      generalize hst2 : ((bothOf es).take k).foldl (visitF i) st = st2 at hz9
      refine HJ2.out hz9 ?_
      intro nw' e8 hj9 q14 q15 q16 q17
      refine HJ.out hj9 ?_
      intro od kvs jo ords ws j im' e9 q1 q2 q3 q4 q5 q6 q7 q8 q9 q10 q11 q12 q13
      rw [e9] at e8 q17
      rw [e8] at hoI N4
      clear hz9 hj9 e8 e9
      refine slimG ?_
      intro hG9
      obtain ⟨bb, ed, t1, u1, rfl, hed, hbb⟩ := hE3.at hvx
      refine hG9 ?_
      clear hG9
      replace F4 := fr_say5 F4 q6 q7 q8 q9 q14
      have hbb2 := q5 _ hbb
      have z1 : Hold (@Ne Nat bb O) := q10 _ hbb2
      have z2 : Hold (@Ne Nat bb P) := q11 _ hbb2
      have z3 : Hold (@Ne Nat bb l) := q12 _ hbb2
      replace N4 := News.more1 N4 (q := (bb, pairI ed.1 ed.2 t1 u1)) (by repeat' (first | exact hbb2 | refine .tail _ ?_))
      have hoI' := hoI
      refine offs7 hoI ?_
      intro y0 y1 y2 y3 y4 y5 y6 y7
      clear hoI
      have y8 : Hold (@Ne Nat bb I2) := y7 _ hbb2
      k_steps
      · unfold Hold
        (with_reducible rename @Eq Int _ _ => ce)
        (with_reducible rename Fr g1 _ _ _ => F6)
        (with_reducible rename News g1 _ _ _ => N6)
        have c1 : ed.1 = st.order.getD i 0 := Int.ofNat.inj ce
        refine notin_N N6 (by k_mem) q2 ?_
        by_cases c2 : ed.2 ∈ st2.order
        · have e1 : (!st2.order.contains ed.2) = false := by simpa using c2
          rw [e1]
          k_steps
          have hst3 := visit_stay (st := st2) (step := i) (e := ed) (fun h => h.2 c2)
          refine hP2 _ _ ?_
          show JEnd g1 _ I2 ito2 _ _ _
          exact JEnd.introB F6 N6 hoI' (by rw [visits_next hst2 hed, hst3]; exact HJ2.mk (HJ.mk q1 q2 q3 q4 q5 rfl rfl rfl rfl q10 q11 q12 q13) rfl q15 q16 q17)
        · have e1 : (!st2.order.contains ed.2) = true := by simpa using c2
          rw [e1]
          have hq8 := q13.size
          obtain ⟨pv, hpv⟩ : ∃ pv, st2.ps[i]? = some pv := ⟨_, List.getElem?_eq_getElem (by rw [q13.len]; exact q15)⟩
          have hov : st2.order[i]? = some (st.order.getD i 0) := by
            rw [← q16, List.getD_eq_getElem?_getD, List.getElem?_eq_getElem q15]; rfl
          have hat : st2.at i = pv := by unfold HS.at; rw [List.getD_eq_getElem?_getD, hpv]; rfl
          refine slimG ?_
          intro hG9
          obtain ⟨tp, htp⟩ := q4.at hov hpv
          refine hG9 ?_
          clear hG9
          have hv1 := valueAt_of_get (keysNodup_of_isDictOf q3) htp
          have hl1 : ords.length ≤ 16 := by rw [q2.length, List.length_map]; omega
          k_steps
          unfold Hold
          k_dflt (refine' append_K ?k1 N6 ?k3 ?_ ?z)
          case k1 => k_asm
          case k3 => k_upd
          case z => rw [List.size_toArray, sizeLine_eq]; omega
          intro h9 F9 N9
          clear N6 F6
          k_sweep
          (try dsimp only)
          have hpok := q13.paths i pv _ hpv hov
          have hi8' : i < 8 := hi8
          have hv8 : st.order.getD i 0 < 8 := q13.small _ (List.mem_of_getElem? hov)
          have he8 : ed.2 < 8 := (both_small hb ed (List.mem_of_getElem? hed)).2
          have hpl : pv.length ≤ 64 := (hpok.wl hi8' hv8).1
          have hdl : (Str.ofString ".").length = 1 := by decide +kernel
          k_steps
          unfold Hold
          refine abc_at he8 ?_
          have hel : (letter ed.2).length = 1 := rfl
          k_steps
          unfold Hold
          have edot : Str.ofString "." = dot := by decide +kernel
          rw [edot] at *
          rename_i tw kw
          k_dflt (refine' kda_set ?F2 ?N2 ?U2 q3 (PySem.intKind_is _ _ _ _) ?z2 ?_)
          case F2 => k_asm
          case N2 => k_asm
          case U2 => k_updF
          case z2 => rw [sizeLine_eq, q4.length.1]; omega
          intro h8 od2 F8 N8 hod2
          (try dsimp only at N8)
          rw [q4.new c2] at hod2
          have q4' := q4.snoc (v := ed.2) (p := pv ++ dot ++ letter ed.2) (t := tw)
          have hnd := keysNodup_of_isDictOf hod2
          have hv3 := valueAt_of_get hnd (i := i) (by rw [List.getElem?_append_left (by rw [q4.length.1]; exact q15)]; exact htp)
          have hv4 := valueAt_of_get hnd (i := kvs.length) (by rw [List.getElem?_append_right (Nat.le_refl _), Nat.sub_self]; rfl)
          clear hv1 hnd
          k_sweep
          k_steps
          unfold Hold
          (with_reducible rename Fr g1 _ _ _ => F7)
          (with_reducible rename News g1 _ _ _ => N7)
          have N8 := N_add9 N7
          clear N7
          have hwl : ws.length ≤ 16 := by have := q13.rlen; rw [q1.length]; omega
          k_dflt (refine' add_c _ _ _ _ _ _ _ _ _ _ _ _ _ _ _ _ _ ?ok1 ?ok2 ?ok3 ?ok4 ?ok5 ?ok6 _ _ _ _ _ _ _ _ _ _ _ _ _ _ _ _ _ ?kB ?kF ?kX N8 ?kT ?kk ?kd ?ku ?_)
          case ok1 => exact (hpok.wl hi8' hv8).ok
          case ok2 => exact ((hpok.grow (j := 7) (w := ed.2) (by have := visit_len7 q13 q15 he8 c1 c2 hov; omega) hv8).wl (by omega) he8).ok
          case ok3 => omega
          case ok4 => exact Nat.ne_of_gt (Nat.lt_trans l1 l3)
          case ok5 => exact Nat.ne_of_gt l1
          case ok6 =>
            exact off_cons (z3) (off_cons (Ne.symm y3) (off_cons (Ne.symm i3) (off_cons (Nat.ne_of_gt o5) (off_cons (Nat.ne_of_gt p4) (off_cons (Nat.ne_of_gt hD3l) (q12))))))
          case kB => k_asm
          case kF => k_asm
          case kX => k_asm
          case kT => k_asm
          case kk => exact rfl
          case kd => ktr_room
          case ku => ktr_units
          intro bn tn un' h10 tk10 F10 N10 lb hab
          k_sweep
          k_steps
          refine cut7 hab ?_
          intro ab1 ab2 ab3 ab4 ab5 ab6 ab7
          clear hab
          (with_reducible rename Fr g1 _ _ _ => F11)
          (with_reducible rename News g1 _ _ _ => N11)
          simp only [List.push_toArray] at N11
          have hst3 := visit_go (st := st2) (step := i) (e := ed) (by rw [q16]; exact c1) c2
          rw [hat] at hst3
          have hinv3 := q13.visit q15 (e := ed) he8
          have hgd3 := visit_getD (st := st2) (e := ed) q15
          have hlen3 := Nat.lt_of_lt_of_le q15 (visit_len (st := st2) (step := i) (e := ed))
          rw [hst3] at hinv3 hgd3 hlen3
          refine hP2 _ _ ?_
          show JEnd g1 _ I2 ito2 _ _ _
          have gi : IntsAre (ords ++ [Value.int (ed.2 : Int) u1]) ((st2.order ++ [ed.2]).map Int.ofNat) := by
            rw [List.map_append]
            exact IntsAre.append q2 (.cons _ _ .nil)
          have gp : PairsAre ((bn, pairOf pv (pv ++ dot ++ letter ed.2) tn un') :: im') (ws ++ [Value.ref bn]) (st2.rows ++ [(pv, pv ++ dot ++ letter ed.2)]) :=
            PairsAre.snoc (q1.mono fun p hp => List.mem_cons_of_mem _ hp) (List.mem_cons_self ..)
          have g1 : ∀ p ∈ (bn, pairOf pv (pv ++ dot ++ letter ed.2) tn un') :: im', p.1 ≠ O := off_cons (Nat.ne_of_gt ab4) q10
          have g2 : ∀ p ∈ (bn, pairOf pv (pv ++ dot ++ letter ed.2) tn un') :: im', p.1 ≠ P := off_cons (Nat.ne_of_gt ab5) q11
          have g3 : ∀ p ∈ (bn, pairOf pv (pv ++ dot ++ letter ed.2) tn un') :: im', p.1 ≠ l := off_cons (Nat.ne_of_gt lb) q12
          have hz' : ∀ oo : Obj, ∀ p ∈ (O, oo) :: (P, od2) :: (l, listOf (List.toArray (ws ++ [Value.ref bn])) (j + 1)) :: (x, instObj 203 d) :: (d, headTab w l kt) :: (D3, listOf (List.toArray (vs ++ ys)) 0) :: (bn, pairOf pv (pv ++ dot ++ letter ed.2) tn un') :: im', p.1 ≠ I :=
            fun _ => offs6 q17 fun _ _ _ _ _ _ a7 => off_cons i1 (off_cons i2 (off_cons i3 (off_cons i4 (off_cons i5 (off_cons i6 (off_cons (Nat.ne_of_gt ab3) a7))))))
          refine JEnd.intro9 F11 N11 ?ho (by rw [visits_next hst2 hed, hst3]; exact HJ2.mk (HJ.mk gp gi hod2 q4' (fun p hp => List.mem_cons_of_mem _ (q5 p hp)) rfl rfl rfl rfl g1 g2 g3 hinv3) rfl hlen3 (hgd3.trans q16) (hz' _))
          case ho =>
            exact off_cons (y0) (off_cons (y1) (off_cons (y2) (off_cons (y3) (off_cons (y4) (off_cons (y5) (off_cons (y6) (off_cons (Nat.ne_of_gt ab2) (y7))))))))
      · (with_reducible rename @Ne Int _ _ => ce)
        (with_reducible rename Fr g1 _ _ _ => F6)
        (with_reducible rename News g1 _ _ _ => N6)
        have c1 : ¬ ed.1 = st2.order.getD i 0 := fun e => ce (by rw [e, q16])
        have hst3 := visit_stay (st := st2) (step := i) (e := ed) (fun h => c1 h.1)
        refine hP2 _ _ ?_
        show JEnd g1 _ I2 ito2 _ _ _
        exact JEnd.introB F6 N6 hoI' (by rw [visits_next hst2 hed, hst3]; exact HJ2.mk (HJ.mk q1 q2 q3 q4 q5 rfl rfl rfl rfl q10 q11 q12 q13) rfl q15 q16 q17)
    case done2 =>
      intro m₁ nw h tk hz9
      intro F4 N4
      refine HJ2.out hz9 ?_
      intro nw' e8 hj9 q14 q15 q16 q17
      refine HJ.out hj9 ?_
      intro od kvs jo ords ws j im' e9 q1 q2 q3 q4 q5 q6 q7 q8 q9 q10 q11 q12 q13
      rw [e9] at e8 q17
      rw [e8] at N4
      clear hz9 hj9 e8 e9
      have hall : (bothOf es).take (vs ++ ys).length = bothOf es := List.take_of_length_le (by rw [List.length_append, hlen.1, hlen.2]; unfold bothOf; rw [List.length_append, List.length_map, hl]; exact Nat.le_refl _)
      rw [hall] at q1 q2 q4 q13
      replace F4 := fr_say4 F4 q6 q7 q8 q9
      k_steps
      (with_reducible rename Fr g1 _ _ _ => F6)
      (with_reducible rename News g1 _ _ _ => N6)
      refine hP1 _ _ ?_
      show JEnd g1 _ I ito _ _ _
      refine JEnd.intro F6 N6 (.head _) (fun p hp => .tail _ hp) q17 ?_
      rw [hangN_succ, hst]
      exact HJ.mk q1 q2 q3 q4 q5 rfl rfl rfl rfl q10 q11 q12 q13
  case done =>
    intro m₁ nw h tk hz9
    intro F4 N4
    refine HJ.out hz9 ?_
    intro od kvs jo ords ws j im' e9 q1 q2 q3 q4 q5 q6 q7 q8 q9 q10 q11 q12 q13
    rw [e9] at N4
    clear hz9 e9
    replace F4 := fr_say4 F4 q6 q7 q8 q9
    k_steps
    (with_reducible rename Fr h₀ _ _ _ => F6)
    (with_reducible rename News h₀ _ _ _ => N6)
    refine hret x d l kt ws j im' _ _ F6 (cb_drop N6 ?_) q1 (fun p hp => q5 p (him3 p hp)) (Nat.ne_of_gt (Nat.lt_trans l1 l3)) (Nat.ne_of_gt l1) q12
    repeat' (first | refine sub_cons ?_ ?_ | exact .head _ | refine .tail _ ?_ | exact hp | intro p hp)
end Mine
end PartW12

/- part MinS -/
section PartMinS
open PySem PySem.W PyProof.Rows
set_option maxRecDepth 100000
namespace Mine
open PySem PySem.Calls PySem.Spec PySem.W PyProof.Rows
abbrev chr (c : Nat) : Str := ⟨#[c]⟩
theorem strs_at {vs : List Value} {ys : List Str} (h : StrsAre vs ys) {i : Nat} {v : Value} (hv : vs[i]? = some v) : ∃ y t, v = Value.str y t ∧ ys[i]? = some y := by
  induction h generalizing i with
  | nil => cases hv
  | cons y t _ ih =>
    cases i with
    | zero => exact ⟨y, t, by simpa using hv.symm, rfl⟩
    | succ i => exact ih (i := i) (by simpa using hv)
section
variable {prog : Program} {w : World} {A : Around} {E : Value → Shared → Prop} {s : Shared} {h₀ : Heap} {L l : Addr} {m : Str → Option Value} {news : List (Addr × Obj)} {vs : List Value} {cs : List Nat} {nv : Nat} {Q : Value → Shared → Prop}
theorem min_C {hh : A.handled = none} (F : Fr h₀ L s.heap m) (N : News h₀ L s.heap news) (hm : (l, listOf vs.toArray nv) ∈ news) (hi : StrsAre vs (cs.map chr)) (hne : cs ≠ [])
    (h : ∀ h' (t : Tok) tk, Fr h₀ L h' m → News h₀ L h' news → Q (.str (chr (minL cs)) t) { s with heap := h', toks := tk }) :
    wpAny (model prog w) A (call (.builtin "min") [.ref l]) Q E s := by
  have hl := N.isList hm
  have hlo := (N _ hm).1
  have hlt : l < s.heap.objs.size := Heap.lt_size hlo
  have hlen : vs.length = cs.length := by rw [StrsAre.len_eq hi, List.length_map]
  have hpos : 0 < cs.length := Nat.pos_of_ne_zero fun e => hne (List.eq_nil_of_length_eq_zero e)
  have hat : ∀ (i : Nat) (v : Value), vs.toArray[i]? = some v → ∃ t, v = Value.str (chr (cs.getD i 0)) t := by
    intro i v hv
    obtain ⟨y, t, e1, e2⟩ := strs_at hi (i := i) (by simpa using hv)
    rw [List.getElem?_map] at e2
    obtain ⟨c, hc, rfl⟩ := Option.map_eq_some_iff.mp e2
    refine ⟨t, ?_⟩
    rw [e1, List.getD_eq_getElem?_getD, hc]
    rfl
  refine call_min_walk (wpAny_pyIter_list hl ?_)
  refine ⟨s.heap.objs.size, _, _, _, _, _, fun i j => decide (((cs.getD i 0 : Nat) : Int) < ((cs.getD j 0 : Nat) : Int)), rfl, Walks.list (A := A.in1) hh s.heap.objs.size l (Nat.ne_of_lt hlt) vs.toArray, ⟨⟨_, Heap.get?_push_size _ rfl, rfl, rfl⟩, hl.at fun o e => Heap.get?_push_of_some _ e⟩, ?_, ?_, ?_, ?_⟩
  · intro b hb
    show b < (s.heap.push _).objs.size
    rw [Heap.size_push]
    rcases List.mem_cons.mp hb with rfl | hb
    · exact Nat.lt_succ_self _
    · rw [List.mem_singleton.mp hb]; exact Nat.lt_succ_of_lt hlt
  · rw [List.size_toArray, hlen]; exact hpos
  · intro i j vi vj s Q E hvi hvj hQ
    obtain ⟨t, rfl⟩ := hat i vi hvi
    obtain ⟨u, rfl⟩ := hat j vj hvj
    show wpAny _ _ (compareOp .Lt _ _) _ _ _
    refine PyProof.Rows.lt_str ?_
    have e : decide ((chr (cs.getD i 0)).cps.toList < (chr (cs.getD j 0)).cps.toList) = decide (((cs.getD i 0 : Nat) : Int) < ((cs.getD j 0 : Nat) : Int)) := by
      apply decide_eq_decide.mpr
      show [cs.getD i 0] < [cs.getD j 0] ↔ _
      rw [List.cons_lt_cons_iff]
      simp
    rw [e]
    exact hQ
  · intro v h' tk hP hk
    obtain ⟨t, rfl⟩ := hat _ v hP
    obtain ⟨g1, g2⟩ := argBest_lt (fun i => ((cs.getD i 0 : Nat) : Int)) (cs.length - 1)
    have hsz : vs.toArray.size - 1 = cs.length - 1 := by rw [List.size_toArray, hlen]
    rw [hsz] at hP ⊢
    generalize argBest (fun i j => decide (((cs.getD i 0 : Nat) : Int) < ((cs.getD j 0 : Nat) : Int))) (cs.length - 1) = b at *
    have hb : b < cs.length := by omega
    have hbv : cs.getD b 0 = cs[b] := by rw [List.getD_eq_getElem?_getD, List.getElem?_eq_getElem hb]; rfl
    have e : cs.getD b 0 = minL cs := by
      rw [hbv]
      refine minL_unique (List.getElem_mem hb) fun a ha => ?_
      obtain ⟨j, hj, rfl⟩ := List.mem_iff_getElem.mp ha
      have := g2 j (by omega)
      rw [hbv, List.getD_eq_getElem?_getD, List.getElem?_eq_getElem hj] at this
      simpa using this
    rw [e]
    have keep : ∀ b o, s.heap.get? b = some o → h'.get? b = some o := fun b o e => hk b o (fun hm => by rcases List.mem_cons.mp hm with rfl | hm; exact Nat.lt_irrefl _ (Heap.lt_size e); cases hm) (Heap.get?_push_of_some _ e)
    exact h h' t tk (F.keeps keep) (N.grown keep)
end
end Mine
end PartMinS

/- part PN -/
section PartPN
open PySem PySem.W PyProof.Rows
set_option maxRecDepth 100000
namespace Mine
theorem Wl.ascii {s : Str} (h : Wl s) : ∀ c ∈ s.cps.toList, c < 128 := fun c hc => by
  have := h.chars c hc
  omega
theorem up_chars : ∀ c, (c = 46 ∨ (97 ≤ c ∧ c ≤ 104)) → up1 c < 128 ∧ okc (up1 c) = true ∧ lo1 (up1 c) = c ∧ lo1 c = c := by
  intro c hc
  have hd : ∀ c, c ≤ 104 → 97 ≤ c → up1 c < 128 ∧ okc (up1 c) = true ∧ lo1 (up1 c) = c ∧ lo1 c = c := by decide +kernel
  rcases hc with rfl | hc
  · decide +kernel
  · exact hd c hc.2 hc.1
theorem Wl.upper {s : Str} (h : Wl s) : okS (Txt.upper s) ∧ Txt.lower (Txt.upper s) = s ∧ Txt.lower s = s := by
  have e := upper_ascii h.ascii
  have hlen : (Txt.upper s).length = s.length := by rw [e]; simp [Str.length]
  refine ⟨⟨by rw [hlen]; exact Nat.le_trans h.1 (by decide), ?_⟩, ?_, ?_⟩
  · intro i hi
    rw [e] at hi ⊢
    have hi2 : i < s.cps.size := by simpa using hi
    have hm : s.cps[i] ∈ s.cps.toList := Array.getElem_mem_toList hi2
    have := (up_chars _ (h.chars _ hm)).2.1
    simpa [Array.getD_eq_getD_getElem?, Array.getElem?_map, Array.getElem?_eq_getElem hi2] using this
  · rw [e, lower_ascii]
    · apply Str.ext'
      apply Array.toList_inj.mp
      simp only [Array.toList_map, List.map_map]
      refine (List.map_congr_left (g := id) fun c hc => ?_).trans (List.map_id _)
      exact (up_chars c (h.chars c hc)).2.2.1
    · intro c hc
      simp only [Array.toList_map, List.mem_map] at hc
      obtain ⟨d, hd, rfl⟩ := hc
      exact (up_chars d (h.chars d hd)).1
  · rw [lower_ascii h.ascii]
    apply Str.ext'
    apply Array.toList_inj.mp
    simp only [Array.toList_map]
    refine (List.map_congr_left (g := id) fun c hc => ?_).trans (List.map_id _)
    exact (up_chars c (h.chars c hc)).2.2.2
theorem note_sub {leaf : Nat} {st : List Nat × List (Str × Str)} {r : Str × Str} : ∀ q ∈ (noteStep leaf st r).2, q ∈ st.2 := by
  intro q hq
  unfold noteStep at hq
  split at hq
  · rcases List.mem_append.mp hq with hq | hq
    · exact (List.mem_filter.mp hq).1
    · obtain ⟨o, ho, rfl⟩ := List.mem_map.mp hq
      obtain ⟨r2, hr2, rfl⟩ := List.mem_map.mp (List.mem_filter.mp ho).1
      obtain ⟨h1, h2⟩ := List.mem_filter.mp hr2
      have : r2.1 = r.1 := by simpa using h2
      rw [← this]
      exact h1
  · exact hq
theorem filter_len {α : Type} (p : α → Bool) (l : List α) : (l.filter p).length + (l.filter fun a => !p a).length = l.length := by
  induction l with
  | nil => rfl
  | cons a l ih =>
    rw [List.filter_cons, List.filter_cons]
    cases p a <;> simp <;> omega
theorem note_len {leaf : Nat} {st : List Nat × List (Str × Str)} {r : Str × Str} : (noteStep leaf st r).2.length ≤ st.2.length := by
  unfold noteStep
  split
  · simp only [List.length_append, List.length_map]
    have h1 := filter_len (fun q : Str × Str => q.1 != r.1) st.2
    have h2 := List.length_filter_le (fun o => o != r.2) ((st.2.filter fun q => q.1 == r.1).map (·.2))
    have h3 : (st.2.filter fun q => !(q.1 != r.1)) = st.2.filter fun q => q.1 == r.1 := by
      apply List.filter_congr
      intro q _
      unfold bne
      rw [Bool.not_not]
    rw [h3] at h1
    rw [List.length_map] at h2
    omega
  · exact Nat.le_refl _
theorem notes_fold_sub {leaf : Nat} : ∀ (l : List (Str × Str)) (st : List Nat × List (Str × Str)), (∀ q ∈ (l.foldl (noteStep leaf) st).2, q ∈ st.2) ∧ (l.foldl (noteStep leaf) st).2.length ≤ st.2.length
  | [], _ => ⟨fun _ h => h, Nat.le_refl _⟩
  | r :: l, st => by
    obtain ⟨h1, h2⟩ := notes_fold_sub l (noteStep leaf st r)
    exact ⟨fun q hq => note_sub q (h1 q hq), Nat.le_trans h2 note_len⟩
theorem note_grow {leaf : Nat} {st : List Nat × List (Str × Str)} {r : Str × Str} : (noteStep leaf st r).1.length ≤ st.1.length + 1 := by
  unfold noteStep
  split
  · simp
  · exact Nat.le_succ _
theorem notes_fold_grow {leaf : Nat} : ∀ (l : List (Str × Str)) (st : List Nat × List (Str × Str)), (l.foldl (noteStep leaf) st).1.length ≤ st.1.length + l.length
  | [], _ => Nat.le_refl _
  | r :: l, st => by
    have h1 := notes_fold_grow (leaf := leaf) l (noteStep leaf st r)
    have h2 := note_grow (leaf := leaf) (st := st) (r := r)
    rw [List.length_cons]
    exact Nat.le_trans h1 (by omega)
theorem notesN_sub (tab : List (Str × Str)) : ∀ n, (∀ q ∈ (notesN tab n).2, q ∈ tab) ∧ (notesN tab n).2.length ≤ tab.length
  | 0 => ⟨fun _ h => h, Nat.le_refl _⟩
  | n + 1 => by
    obtain ⟨h1, h2⟩ := notesN_sub tab n
    obtain ⟨h3, h4⟩ := notes_fold_sub (leaf := leafR (notesN tab n).2) (notesN tab n).2 (notesN tab n)
    exact ⟨fun q hq => h1 q (h3 q hq), Nat.le_trans h4 h2⟩
theorem notesN_grow (tab : List (Str × Str)) (ht : tab.length ≤ 16) : ∀ n, (notesN tab n).1.length ≤ 16 * n
  | 0 => Nat.le_refl _
  | n + 1 => by
    have h1 := notesN_grow tab ht n
    have h2 := notes_fold_grow (leaf := leafR (notesN tab n).2) (notesN tab n).2 (notesN tab n)
    have h3 := (notesN_sub tab n).2
    show ((notesN tab n).2.foldl (noteStep (leafR (notesN tab n).2)) (notesN tab n)).1.length ≤ _
    omega
end Mine
end PartPN

/- part DelIt -/
section PartDelIt
open PySem PySem.W PyProof.Rows
set_option maxRecDepth 100000
namespace Mine
open PySem.Calls
/-- del x[i], of an own object whose class has a __delitem__ -/
theorem own_delItem {M : Model} {A : Around} {E : Value → Shared → Prop} {s : Shared} {K : Frag} {x C L f : Addr} {h₀ : Heap} {m : Str → Option Value} {ox : Obj} {od : Option Obj} {i : Value} {Q : Unit → Shared → Prop} (F : Fr h₀ L s.heap m) (Y : K.In h₀) (J : InstAt s.heap x ox C od)
    (hq : noSeq K C = true) (hs : findIn K (.ref C) "__delitem__" = some (some (.ref f))) (hf : isFn K (.ref f) = true) (h : wpAny M A (call (.ref f) [.ref x, i]) (fun _ s' => Q () s') E s) : wpAny M A (delItem (.ref x) i) Q E s := by
  have Z := Y.keeps F.keep
  unfold delItem sequenceKey
  refine wpAny_holding (wpAny_bind (wpAny_bind (J.type.here (wpAny_bind ((anyM_none Z hq).here ?_)))))
  rw [if_pos (show (!false) = true from rfl)]
  exact wpAny_pure (wpAny_bind (special_fn Z J hs (beq_iff_eq.mp hf) (wpAny_mono h (fun _ _ z => wpAny_pure z) fun _ _ z => z)))
end Mine
end PartDelIt

/- part W13 -/
section PartW13
open PySem PySem.W PyProof.Rows Mine
set_option Elab.async false
set_option maxRecDepth 100000
set_option maxHeartbeats 4000000
namespace Mine
def NJ (w : World) (x dd l nt LE LW : Addr) (kt : Tok) (im : List (Addr × Obj)) (st : List Nat × List (Str × Str)) (m : Str → Option Value) (nw : List (Addr × Obj)) : Prop :=
  ∃ oE oW vE vW ns jn vs j im', nw = (nt, listOf (List.toArray ns) jn) :: (l, listOf (List.toArray vs) j) :: (x, instObj 203 dd) :: (dd, headTab w l kt) :: (LE, oE) :: (LW, oW) :: im' ∧ PairsAre im' vs st.2 ∧ StrsAre ns (st.1.map chr) ∧ oE.data = Data.cell vE ∧ oW.data = Data.cell vW ∧ (∀ p ∈ im, p ∈ im') ∧
    m (Str.ofString "table") = some (.ref x) ∧ m (Str.ofString "notes") = some (.ref nt) ∧ ((∀ p ∈ im', p.1 ≠ nt) ∧ (∀ p ∈ im', p.1 ≠ l) ∧ (∀ p ∈ im', p.1 ≠ LE) ∧ (∀ p ∈ im', p.1 ≠ LW))
theorem NJ.out {w : World} {x dd l nt LE LW : Addr} {kt : Tok} {im : List (Addr × Obj)} {st : List Nat × List (Str × Str)} {m : Str → Option Value} {nw : List (Addr × Obj)} {G : Prop} (h : NJ w x dd l nt LE LW kt im st m nw)
    (k : ∀ oE oW vE vW ns jn vs j im', nw = (nt, listOf (List.toArray ns) jn) :: (l, listOf (List.toArray vs) j) :: (x, instObj 203 dd) :: (dd, headTab w l kt) :: (LE, oE) :: (LW, oW) :: im' → PairsAre im' vs st.2 → StrsAre ns (st.1.map chr) → oE.data = Data.cell vE → oW.data = Data.cell vW → (∀ p ∈ im, p ∈ im') →
      m (Str.ofString "table") = some (.ref x) → m (Str.ofString "notes") = some (.ref nt) → (∀ p ∈ im', p.1 ≠ nt) → (∀ p ∈ im', p.1 ≠ l) → (∀ p ∈ im', p.1 ≠ LE) → (∀ p ∈ im', p.1 ≠ LW) → G) : G := by
  obtain ⟨oE, oW, vE, vW, ns, jn, vs, j, im', e, q1, q2, q3, q4, q5, q6, q7, q8, q9, q10, q11⟩ := h
  exact k oE oW vE vW ns jn vs j im' e q1 q2 q3 q4 q5 q6 q7 q8 q9 q10 q11
theorem NJ.mk {w : World} {x dd l nt LE LW : Addr} {kt : Tok} {im im' : List (Addr × Obj)} {st : List Nat × List (Str × Str)} {m : Str → Option Value} {oE oW : Obj} {vE vW : Option Value} {ns vs : List Value} {jn j : Nat}
    (q1 : PairsAre im' vs st.2) (q2 : StrsAre ns (st.1.map chr)) (q3 : oE.data = Data.cell vE) (q4 : oW.data = Data.cell vW) (q5 : ∀ p ∈ im, p ∈ im') (q6 : m (Str.ofString "table") = some (.ref x)) (q7 : m (Str.ofString "notes") = some (.ref nt))
    (q8 : ∀ p ∈ im', p.1 ≠ nt) (q9 : ∀ p ∈ im', p.1 ≠ l) (q10 : ∀ p ∈ im', p.1 ≠ LE) (q11 : ∀ p ∈ im', p.1 ≠ LW) :
    NJ w x dd l nt LE LW kt im st m ((nt, listOf (List.toArray ns) jn) :: (l, listOf (List.toArray vs) j) :: (x, instObj 203 dd) :: (dd, headTab w l kt) :: (LE, oE) :: (LW, oW) :: im') :=
  ⟨oE, oW, vE, vW, ns, jn, vs, j, im', rfl, q1, q2, q3, q4, q5, q6, q7, q8, q9, q10, q11⟩
def NJ2 (I r : Addr) (ito ro : Obj) (v : Value) (J : (Str → Option Value) → List (Addr × Obj) → Prop) (m : Str → Option Value) (nw : List (Addr × Obj)) : Prop :=
  ∃ nw', nw = (I, ito) :: (r, ro) :: nw' ∧ J m nw' ∧ m (Str.ofString "leaf") = some v ∧ (∀ p ∈ nw', p.1 ≠ I)
theorem NJ2.out {I r : Addr} {ito ro : Obj} {v : Value} {J : (Str → Option Value) → List (Addr × Obj) → Prop} {m : Str → Option Value} {nw : List (Addr × Obj)} {G : Prop} (h : NJ2 I r ito ro v J m nw)
    (k : ∀ nw', nw = (I, ito) :: (r, ro) :: nw' → J m nw' → m (Str.ofString "leaf") = some v → (∀ p ∈ nw', p.1 ≠ I) → G) : G := by
  obtain ⟨nw', e, q1, q2, q3⟩ := h
  exact k nw' e q1 q2 q3
theorem NJ2.mk {I r : Addr} {ito ro : Obj} {v : Value} {J : (Str → Option Value) → List (Addr × Obj) → Prop} {m : Str → Option Value} {nw' : List (Addr × Obj)}
    (q1 : J m nw') (q2 : m (Str.ofString "leaf") = some v) (q3 : ∀ p ∈ nw', p.1 ≠ I) : NJ2 I r ito ro v J m ((I, ito) :: (r, ro) :: nw') := ⟨_, rfl, q1, q2, q3⟩
theorem NJ2.mem {I r : Addr} {ito ro : Obj} {v : Value} {J : (Str → Option Value) → List (Addr × Obj) → Prop} {m : Str → Option Value} {nw : List (Addr × Obj)} (h : NJ2 I r ito ro v J m nw) : (r, ro) ∈ nw :=
  NJ2.out h fun _ e _ _ _ => by rw [e]; exact .tail _ (.head _)
def NJ4 (D I2 I r : Addr) (od ito2 ito ro : Obj) (v u : Value) (J : (Str → Option Value) → List (Addr × Obj) → Prop) (m : Str → Option Value) (nw : List (Addr × Obj)) : Prop :=
  ∃ nw', nw = (D, od) :: (I2, ito2) :: (I, ito) :: (r, ro) :: nw' ∧ J m nw' ∧ m (Str.ofString "leaf") = some v ∧ m (Str.ofString "path") = some u ∧ (∀ p ∈ nw', p.1 ≠ I) ∧ (∀ p ∈ nw', p.1 ≠ I2)
theorem NJ4.out {D I2 I r : Addr} {od ito2 ito ro : Obj} {v u : Value} {J : (Str → Option Value) → List (Addr × Obj) → Prop} {m : Str → Option Value} {nw : List (Addr × Obj)} {G : Prop} (h : NJ4 D I2 I r od ito2 ito ro v u J m nw)
    (k : ∀ nw', nw = (D, od) :: (I2, ito2) :: (I, ito) :: (r, ro) :: nw' → J m nw' → m (Str.ofString "leaf") = some v → m (Str.ofString "path") = some u → (∀ p ∈ nw', p.1 ≠ I) → (∀ p ∈ nw', p.1 ≠ I2) → G) : G := by
  obtain ⟨nw', e, q1, q2, q3, q4, q5⟩ := h
  exact k nw' e q1 q2 q3 q4 q5
theorem NJ4.mk {D I2 I r : Addr} {od ito2 ito ro : Obj} {v u : Value} {J : (Str → Option Value) → List (Addr × Obj) → Prop} {m : Str → Option Value} {nw' : List (Addr × Obj)}
    (q1 : J m nw') (q2 : m (Str.ofString "leaf") = some v) (q3 : m (Str.ofString "path") = some u) (q4 : ∀ p ∈ nw', p.1 ≠ I) (q5 : ∀ p ∈ nw', p.1 ≠ I2) : NJ4 D I2 I r od ito2 ito ro v u J m ((D, od) :: (I2, ito2) :: (I, ito) :: (r, ro) :: nw') := ⟨_, rfl, q1, q2, q3, q4, q5⟩
theorem N_nj {h₀ h : Heap} {L : Addr} {a b c e f g : Addr × Obj} {im : List (Addr × Obj)} (N : News h₀ L h (a :: b :: c :: e :: f :: g :: im)) : News h₀ L h (a :: g :: e :: f :: c :: b :: im) := cb_drop N (by
  repeat' (first | refine sub_cons ?_ ?_ | exact .head _ | refine .tail _ ?_ | exact hp | intro p hp))
theorem N_rows {h₀ h : Heap} {L : Addr} {i n l x d e w : Addr × Obj} {im : List (Addr × Obj)} (N : News h₀ L h (i :: n :: l :: x :: d :: e :: w :: im)) : News h₀ L h (x :: d :: l :: i :: n :: e :: w :: im) := cb_drop N (by
  repeat' (first | refine sub_cons ?_ ?_ | exact .head _ | refine .tail _ ?_ | exact hp | intro p hp))
theorem N_rows2 {h₀ h : Heap} {L : Addr} {r i n l x d e w : Addr × Obj} {qim im : List (Addr × Obj)} (N : News h₀ L h (r :: x :: d :: l :: (qim ++ i :: n :: e :: w :: im))) : News h₀ L h (i :: n :: l :: x :: d :: e :: w :: r :: (qim ++ im)) := cb_drop N (by
  intro p hp
  simp only [List.mem_cons, List.mem_append] at hp ⊢
  rcases hp with h | h | h | h | h | h | h | h | h | h <;> simp [h])
theorem N_dd {h₀ h : Heap} {L : Addr} {a b c : Addr × Obj} {im : List (Addr × Obj)} (N : News h₀ L h (a :: b :: c :: im)) : News h₀ L h (a :: im) := cb_drop N (by
  repeat' (first | refine sub_cons ?_ ?_ | exact .head _ | refine .tail _ ?_ | exact hp | intro p hp))
theorem share {P G : Prop} (h : Nonempty (PLift P) → G) (p : P) : G := h ⟨⟨p⟩⟩
def strV : Value → Nat
  | .str s _ => lastN s
  | _ => 0
theorem strs_mem {vs : List Value} {cs : List Nat} (h : StrsAre vs (cs.map chr)) : ∀ v ∈ vs, ∃ (c : Nat) (t : Tok), v = Value.str (chr c) t ∧ c ∈ cs := by
  intro v hv
  obtain ⟨i, hi, rfl⟩ := List.mem_iff_getElem.mp hv
  obtain ⟨y, t, e1, e2⟩ := strs_at h (List.getElem?_eq_getElem hi)
  rw [List.getElem?_map] at e2
  obtain ⟨c, hc, rfl⟩ := Option.map_eq_some_iff.mp e2
  exact ⟨c, t, e1, List.mem_of_getElem? hc⟩
theorem strs_filter {vs ys : List Value} {cs : List Nat} (f : Nat → Bool) (h : StrsAre vs (cs.map chr)) (hP : Paired (fun a y => y = a) (vs.filter fun v => f (strV v)) ys) : StrsAre ys ((cs.filter f).map chr) := by
  induction cs generalizing vs ys with
  | nil => cases h; cases hP; exact .nil
  | cons a cs ih =>
    rw [List.map_cons] at h
    cases h with
    | cons n t h2 =>
      rw [List.filter_cons] at hP ⊢
      have e : strV (Value.str (chr a) t) = a := rfl
      rw [e] at hP
      cases hf : f a with
      | true =>
        rw [hf] at hP
        simp only [if_true] at hP ⊢
        cases hP with
        | cons h1 h3 =>
          subst h1
          exact .cons _ _ (ih h2 h3)
      | false =>
        rw [hf] at hP
        exact ih h2 hP
theorem N_j2 {h₀ h : Heap} {L : Addr} {q i n l x d e w r : Addr × Obj} {im : List (Addr × Obj)} (N : News h₀ L h (q :: i :: n :: l :: x :: d :: e :: w :: r :: im)) : News h₀ L h (i :: r :: n :: l :: x :: d :: e :: w :: im) := cb_drop N (by
  repeat' (first | refine sub_cons ?_ ?_ | exact .head _ | refine .tail _ ?_ | exact hp | intro p hp))
theorem count_chr (c : Nat) (cs : List Nat) : PySem.Spec.countIn (PyData.str (chr c)) (List.map PyData.str (List.map chr cs)) = ((cs.count c : Nat) : Int) := by
  rw [PySem.W.cnt_strs]
  congr 1
  induction cs with
  | nil => rfl
  | cons a cs ih =>
    rw [List.map_cons, List.count_cons, List.count_cons, ih]
    congr 1
    by_cases h : a = c
    · subst h; simp
    · have h2 : ¬ chr a = chr c := fun e => h (by injection e with e; injection e with e; injection e)
      rw [if_neg (by simpa using h2), if_neg (by simpa using h)]
theorem chr_inj {a b : Nat} (h : chr a = chr b) : a = b := by
  injection h with h
  injection h with h
  injection h
def cutRow (rows : List (Str × Str)) (r : Str × Str) : List (Str × Str) := (rows.filter fun q => q.1 != r.1) ++ (((rows.filter fun q => q.1 == r.1).map (·.2)).filter fun o => o != r.2).map fun o => (r.1, o)
theorem note_above {leaf : Nat} {st : List Nat × List (Str × Str)} {r : Str × Str} (h : leaf = lastN r.1) : noteStep leaf st r = (st.1 ++ [lastN r.2], cutRow st.2 r) := by
  unfold noteStep cutRow
  rw [if_pos (.inl h), if_pos h]
theorem note_below {leaf : Nat} {st : List Nat × List (Str × Str)} {r : Str × Str} (h : ¬ leaf = lastN r.1) (h2 : leaf = lastN r.2) : noteStep leaf st r = (st.1 ++ [lastN r.1], cutRow st.2 r) := by
  unfold noteStep cutRow
  rw [if_pos (.inr h2), if_neg h]
theorem note_none {leaf : Nat} {st : List Nat × List (Str × Str)} {r : Str × Str} (h : ¬ leaf = lastN r.1) (h2 : ¬ leaf = lastN r.2) : noteStep leaf st r = st := by
  unfold noteStep
  rw [if_neg (fun e => e.elim h h2)]
theorem notes_next {l : List (Str × Str)} {k leaf : Nat} {st st2 : List Nat × List (Str × Str)} {r : Str × Str} (h : (l.take k).foldl (noteStep leaf) st = st2) (hr : l[k]? = some r) : (l.take (k + 1)).foldl (noteStep leaf) st = noteStep leaf st2 r := by
  rw [List.take_add_one, hr, List.foldl_append, h]
  rfl
def strW : Value → Str
  | .str s _ => s
  | _ => ⟨#[]⟩
theorem N_x10 {h₀ h : Heap} {L : Addr} {b i2 i r n l x d e w : Addr × Obj} {im : List (Addr × Obj)} (N : News h₀ L h (b :: i2 :: i :: r :: n :: l :: x :: d :: e :: w :: im)) : News h₀ L h (x :: d :: l :: b :: i2 :: i :: r :: n :: e :: w :: im) := cb_drop N (by
  repeat' (first | refine sub_cons ?_ ?_ | exact .head _ | refine .tail _ ?_ | exact hp | intro p hp))
theorem N_x12 {h₀ h : Heap} {L : Addr} {f g x d l b i2 i r n e w : Addr × Obj} {im : List (Addr × Obj)} (N : News h₀ L h (f :: g :: x :: d :: l :: b :: i2 :: i :: r :: n :: e :: w :: im)) : News h₀ L h (x :: d :: l :: f :: b :: i2 :: i :: r :: n :: e :: w :: im) := cb_drop N (by
  repeat' (first | refine sub_cons ?_ ?_ | exact .head _ | refine .tail _ ?_ | exact hp | intro p hp))
theorem N_j3 {h₀ h : Heap} {L : Addr} {l x d f b i2 i r n e w : Addr × Obj} {im : List (Addr × Obj)} (N : News h₀ L h (l :: x :: d :: f :: b :: i2 :: i :: r :: n :: e :: w :: im)) : News h₀ L h (f :: i2 :: i :: r :: n :: l :: x :: d :: e :: w :: im) := cb_drop N (by
  repeat' (first | refine sub_cons ?_ ?_ | exact .head _ | refine .tail _ ?_ | exact hp | intro p hp))
theorem N_a4 {h₀ h : Heap} {L : Addr} {i3 f i2 i r n l x d e w : Addr × Obj} {im : List (Addr × Obj)} (N : News h₀ L h (i3 :: f :: i2 :: i :: r :: n :: l :: x :: d :: e :: w :: im)) : News h₀ L h (x :: d :: l :: i3 :: f :: i2 :: i :: r :: n :: e :: w :: im) := cb_drop N (by
  repeat' (first | refine sub_cons ?_ ?_ | exact .head _ | refine .tail _ ?_ | exact hp | intro p hp))
theorem JEnd.intro13 {h₀ : Heap} {L I : Addr} {it : Obj} {J : (Str → Option Value) → List (Addr × Obj) → Prop} {s₁ : Shared} {h' : Heap} {tk : Nat} {m' : Str → Option Value} {l b x d f i2 i r n e w : Addr × Obj} {im : List (Addr × Obj)} (F : Fr h₀ L h' m')
    (N : News h₀ L h' (l :: b :: x :: d :: (I, it) :: f :: i2 :: i :: r :: n :: e :: w :: im)) (ho : ∀ p ∈ f :: i2 :: i :: r :: n :: l :: x :: d :: e :: w :: b :: im, p.1 ≠ I) (hj : J m' (f :: i2 :: i :: r :: n :: l :: x :: d :: e :: w :: b :: im)) : JEnd h₀ L I it J s₁ { s₁ with heap := h', toks := tk } :=
  JEnd.intro F N (.tail _ (.tail _ (.tail _ (.tail _ (.head _))))) (by
    repeat' (first | refine sub_cons ?_ ?_ | exact .head _ | refine .tail _ ?_ | exact hp | intro p hp)) ho hj
theorem strs_mem2 {vs : List Value} {ys : List Str} (h : StrsAre vs ys) : ∀ v ∈ vs, ∃ (o : Str) (t : Tok), v = Value.str o t ∧ o ∈ ys := by
  intro v hv
  obtain ⟨i, hi, rfl⟩ := List.mem_iff_getElem.mp hv
  obtain ⟨y, t, e1, e2⟩ := strs_at h (List.getElem?_eq_getElem hi)
  exact ⟨y, t, e1, List.mem_of_getElem? e2⟩
theorem strs_filter2 {vs ys : List Value} {xs : List Str} (f : Str → Bool) (h : StrsAre vs xs) (hP : Paired (fun a y => y = a) (vs.filter fun v => f (strW v)) ys) : StrsAre ys (xs.filter f) := by
  induction h generalizing ys with
  | nil => cases hP; exact .nil
  | cons a t h2 ih =>
    rw [List.filter_cons] at hP ⊢
    have e : strW (Value.str a t) = a := rfl
    rw [e] at hP
    cases hf : f a with
    | true =>
      rw [hf] at hP
      simp only [if_true] at hP ⊢
      cases hP with
      | cons h1 h3 =>
        subst h1
        exact .cons _ _ (ih h3)
    | false =>
      rw [hf] at hP
      exact ih hP
theorem count_one (c : Nat) (cs : List Nat) : (((cs.count c : Nat) : Int) == 1) = (cs.count (strV (Value.str (chr c) 0)) == 1) := by
  show _ = (cs.count c == 1)
  by_cases h : cs.count c = 1
  · rw [h]; rfl
  · have h2 : ¬ ((cs.count c : Nat) : Int) = 1 := by omega
    rw [beq_eq_false_iff_ne.mpr h, beq_eq_false_iff_ne.mpr h2]
theorem QuadsAre.atI {im : List (Addr × Obj)} {vs : List Value} {qs : List Quad} (h : QuadsAre im vs qs) {i : Nat} {v : Value} (hv : vs[i]? = some v) : ∃ b q t1 t2 t3 t4, v = Value.ref b ∧ qs[i]? = some q ∧ (b, quadOf q t1 t2 t3 t4) ∈ im := by
  induction h generalizing i with
  | nil => cases hv
  | @cons b q t1 t2 t3 t4 vs qs hb _ ih =>
    cases i with
    | zero => exact ⟨b, q, t1, t2, t3, t4, by simpa using hv.symm, rfl, hb⟩
    | succ i => exact ih (i := i) (by simpa using hv)
theorem QuadsAre.at {im : List (Addr × Obj)} {vs : List Value} {qs : List Quad} (h : QuadsAre im vs qs) {v : Value} (hv : v ∈ vs) : ∃ b q t1 t2 t3 t4, v = Value.ref b ∧ (b, quadOf q t1 t2 t3 t4) ∈ im := by
  induction h with
  | nil => cases hv
  | @cons b q t1 t2 t3 t4 vs qs hb _ ih =>
    rcases List.mem_cons.mp hv with rfl | hv
    · exact ⟨b, q, t1, t2, t3, t4, rfl, hb⟩
    · exact ih hv
theorem quadOf_inj {q q' : Quad} {t1 t2 t3 t4 u1 u2 u3 u4 : Tok} (h : quadOf q t1 t2 t3 t4 = quadOf q' u1 u2 u3 u4) : q = q' := by
  injection h with _ _ h3 _
  injection h3 with h4 _
  have h5 := congrArg Array.toList h4
  simp at h5
  obtain ⟨a, b, c, d⟩ := q
  obtain ⟨a', b', c', d'⟩ := q'
  obtain ⟨⟨h1, _⟩, ⟨h2, _⟩, ⟨h3, _⟩, h4, _⟩ := h5
  dsimp only at h1 h2 h3 h4
  rw [h1, h2, h3, h4]
theorem QuadsAre.strs {im : List (Addr × Obj)} {vs ys : List Value} {qs : List Quad} (f : Quad → Str) (h : QuadsAre im vs qs)
    (hP : Paired (fun a y => ∀ b q t1 t2 t3 t4, a = Value.ref b → (b, quadOf q t1 t2 t3 t4) ∈ im → ∃ t', y = Value.str (f q) t') vs ys) : StrsAre ys (qs.map f) := by
  induction h generalizing ys with
  | nil => cases hP; exact .nil
  | @cons b q t1 t2 t3 t4 vs qs hb _ ih =>
    cases hP with
    | cons h1 h2 =>
      obtain ⟨t', rfl⟩ := h1 b q t1 t2 t3 t4 rfl hb
      exact StrsAre.cons _ _ (ih h2)
local macro_rules | `(tactic| k_ne) => `(tactic| (refine neN ?_; (try dsimp only); first | exact Hold.ne (by with_reducible assumption) | exact Hold.ne' (by with_reducible assumption) | omega))
local macro_rules | `(tactic| k_room) => `(tactic| ktr_room)
local macro_rules | `(tactic| k_units) => `(tactic| (ktr_units))
local macro_rules | `(tactic| k_all) => `(tactic| first | with_reducible assumption | assumption)
local macro_rules | `(tactic| walk_at "pyIter ref") => `(tactic| ((with_reducible show wpAny _ _ (pyIter (Value.ref _)) (fun it s₂ => TurnsAt _ _ _ _ _ _ _ _ _ it s₂) _ _); refine Hold.out ?_))
local macro_rules | `(tactic| walk_at "eval ListComp") => `(tactic| (k_here; refine Hold.out ?_))
local macro_rules | `(tactic| walk_at "exec For") => `(tactic| (k_here; refine Hold.out ?_))
local macro_rules | `(tactic| walk_at "exec For Name Call cons nil") => `(tactic| (k_here; refine Hold.out ?_))
local macro_rules | `(tactic| walk_at "call ref") => `(tactic| (k_here; (with_reducible show wpAny _ _ (call (Value.ref 224) _ _) _ _ _); refine Hold.out ?_))
local macro_rules | `(tactic| walk_at "call ref") => `(tactic| (k_here; (with_reducible show wpAny _ _ (call (Value.ref 142) _ _) _ _ _); refine Hold.out ?_))
local macro_rules | `(tactic| walk_at "call ref") => `(tactic| (k_here; (with_reducible show wpAny _ _ (call (Value.ref 123) _ _) _ _ _); refine Hold.out ?_))
local macro_rules | `(tactic| walk_at "call ref") => `(tactic| (k_here; (with_reducible show wpAny _ _ (call (Value.ref 200) _ _) _ _ _); refine Hold.out ?_))
local macro_rules | `(tactic| walk_at "subscriptTail") => `(tactic| (k_here; (with_reducible show wpAny _ _ (subscriptTail _ _ (Value.ref _) (Value.int _ _)) _ _ _); (rename IsTup _ _ _ => hT9); k_dflt (refine' item_tupleT hT9 ?a ?b ?c ?d ?_; (case a => decide); (case b => decide); (case c => rfl); (case d => rfl); k_whole)))
local macro_rules | `(tactic| walk_at "delItem ref str") => `(tactic| (k_here; k_dflt (refine' own_delItem ?F ?X ?I ?hQ ?hS ?hF ?_; (case F => k_asm); (case X => k_asm); (case I => k_inst); (case hS => k_is); (case hF => k_is); (case hQ => k_is); k_whole)))
local macro_rules | `(tactic| walk_at "exec Assign cons ListComp") => `(tactic| (k_here; refine Hold.out ?_))
local macro_rules | `(tactic| walk_at "call builtin:list.append") => `(tactic| (k_here; (with_reducible show wpAny _ _ (call (Value.builtin _) [Value.ref _, Value.str _ _]) _ _ _); refine Hold.out ?_))
local macro_rules | `(tactic| walk_at "binaryOp Add ref ref") => `(tactic| (k_here; refine Hold.out ?_))
local macro_rules | `(tactic| walk_at "call builtin:min") => `(tactic| (refine Hold.out ?_))
theorem notes_c : ∀ (w : World) (p : Program) (loose : List Str) (mean : ExcName → Option Value) (mg mb : Str → Option Value) (x d l : Addr) (kt : Tok) (vs : List Value) (n : Nat) (rows : List (Str × Str)) (im : List (Addr × Obj)) (hp : PairsAre im vs rows) (hro : RowsOk rows) (hvs : vs.length ≤ 16) (o1 : @Ne Nat x l) (o2 : @Ne Nat d l) (o3 : ∀ p ∈ im, p.1 ≠ l)
    (honce : ∀ k, k < 6 → onceOf (notesN rows k).2 ≠ [])
    (dp un : Nat) (gd : Option (List Code)) (cn : Str) (cs : Scope) (a : Addr) (ccd : Value) (cl : List (Str × Addr)) (outer : List Env) (A₀ : Around) (base h₀ : Heap) (L : Addr) (m : Str → Option Value) (s : Shared) (Q E : Value → Shared → Prop)
    (B : Below A₀ base outer h₀) (F : Fr h₀ L s.heap m) (X : (hd.heap_39 w.params).In h₀) (N : News h₀ L s.heap ((x, instObj 203 d) :: (d, headTab w l kt) :: (l, listOf vs.toArray n) :: im)) (T : Top p loose mean mg mb h₀) (hcs : cs.kind = .function) (hdp : dp + 30 < recursionLimit) (hun : un + 200 < cLine)
    (hret : ∀ (nt : Addr) (ns : List Value) (jn : Nat) (ws : List Value) (j : Nat) (im' : List (Addr × Obj)) (h' : Heap) (tk' : Nat), Fr h₀ L h' m → News h₀ L h' ((nt, listOf ns.toArray jn) :: (x, instObj 203 d) :: (d, headTab w l kt) :: (l, listOf ws.toArray j) :: im') → StrsAre ns ((notesN rows 6).1.map chr) → PairsAre im' ws (notesN rows 6).2 → (∀ p ∈ im, p ∈ im') → (∀ p ∈ im', p.1 ≠ l) → (∀ p ∈ im', p.1 ≠ nt) → @Ne Nat l nt → @Ne Nat x nt → @Ne Nat d nt → Q (.ref nt) { s with heap := h', toks := tk' }),
    wpAny (model PySem.Challenge.rw_pg0256_01.row.prog w) (ktrTop dp un gd cn cs L a ccd cl outer) (call (.ref 229) [.ref x]) Q E s := by
  w_top off
  k_fill
  intro w p loose mean mg mb x d l kt vs n rows im hp hro hvs o1 o2 o3 honce dp un gd cn cs a ccd cl outer A₀ base h₀ L m s Q E B F X N T hcs hdp hun hret
  obtain ⟨ck, c2, c3, c4, c5⟩ := cs
  cases (show ck = .function from hcs)
  have hrl : rows.length ≤ 16 := by rw [← hp.length]; exact hvs
  k_steps
  unfold Hold
  rename_i g1 L1 hA tkA FG1 B1 X1 T1 lL oW oE dW dE nt hB lnt hC F9 N9
  refine For_turns (by k_asm) ?_ (fun _ => rfl) (by passes_own)
  k_steps
  unfold Hold
  rename Fr _ _ _ _ => F3
  rename News _ _ _ _ => N3
  (rename IsRange _ _ _ _ _ _ _ _ => rgX)
  replace N3 := N_nj N3
  refine cut6 lnt ?_
  intro n1 n2 n3 n4 n5 n6
  clear lnt
  refine cut4 lL ?_
  intro f1 f2 f3 f4
  clear lL
  refine' iter_rangeJ (n := 6) (fun i => NJ w x d l nt (L1 + 1) (L1 + 1 + 1) kt im (notesN rows i)) ?hh rgX ?sm ?sz F3 N3 ?j0 ?turn ?done
  case hh => rfl
  case sm => decide
  case sz => decide
  case j0 =>
    exact NJ.mk (ns := []) (jn := 0) hp .nil dE dW (fun _ h => h) rfl rfl (fun p hp => Nat.ne_of_lt (ktn_ltOf n6 p hp)) o3 (ne_above f4) (ne_above2 f4)
  case turn =>
    clear F3 N3 rgX dE dW
    intro i t m₁ nw I ito h tk hi6 hz9
    intro hoI F4 N4
    refine NJ.out hz9 ?_
    intro oE oW vE vW ns jn vs j im' e9 q1 q2 dE dW q5 q6 q7 q8 q9 q10 q11
    rw [e9] at hoI N4
    clear hz9 e9
    refine genT ?_
    intro P1 hP1
    replace F4 := fr_say2 F4 q6 q7
    have hoI0 := hoI
    refine offs6 hoI ?_
    intro i1 i2 i3 i4 i5 i6 i7
    clear hoI
    have hsub := notesN_sub rows i
    have hro2 : RowsOk (notesN rows i).2 := fun r hr => hro r (hsub.1 r hr)
    have hvs2 : vs.length ≤ 16 := by rw [q1.length]; exact Nat.le_trans hsub.2 (by rw [← hp.length]; assumption)
    have hon := honce i hi6
    have hgr := notesN_grow rows (by rw [← hp.length]; assumption) i
    generalize hst : notesN rows i = st at *
    k_steps
    unfold Hold
    rename News _ _ _ _ => N5
    have N6 := N_rows N5
    clear N5
    k_dflt (refine' rows_c _ _ _ _ _ _ _ _ _ _ _ _ _ _ (q1.mono fun p hp => .tail _ (.tail _ (.tail _ (.tail _ hp)))) hro2 hvs2 ?ko3 _ _ _ _ _ _ _ _ _ _ _ _ _ _ _ _ _ ?kB ?kF ?kX N6 ?kT ?kk ?kd ?ku ?_)
    case ko3 =>
      exact off_cons (Ne.symm i2) (off_cons (Nat.ne_of_gt n5) (off_cons (Nat.ne_of_gt (Nat.lt_succ_of_lt f3)) (off_cons (Nat.ne_of_gt (Nat.lt_succ_of_lt (Nat.lt_succ_of_lt f3))) (q9))))
    case kB => k_asm
    case kF => k_asm
    case kX => k_asm
    case kT => k_asm
    case kk => exact rfl
    case kd => ktr_room
    case ku => ktr_units
    intro r ws jr qim h5 tk5 F5 N5 hq r1 r2 r3 r4 r5 r6
    have N7 := N_rows2 N5
    clear N5 N6
    k_sweep
    k_steps
    unfold Hold
    have hqs : ∀ p ∈ qim, p ∈ qim ++ im' := fun p hp => List.mem_append_left _ hp
    have g1' : ∀ p ∈ qim ++ im', p.1 ≠ nt := fun p hp => (List.mem_append.mp hp).elim (fun h => Nat.ne_of_gt (r6 p h (nt, _) (.tail _ (.head _)))) (q8 p)
    have g2' : ∀ p ∈ qim ++ im', p.1 ≠ l := fun p hp => r2 p ((List.mem_append.mp hp).elim (fun h => List.mem_append_left _ h) fun h => List.mem_append_right _ (.tail _ (.tail _ (.tail _ (.tail _ h)))))
    have g3' : ∀ p ∈ qim ++ im', p.1 ≠ L1 + 1 := fun p hp => (List.mem_append.mp hp).elim (fun h => Nat.ne_of_gt (r6 p h (L1 + 1, _) (.tail _ (.tail _ (.head _))))) (q10 p)
    have g4' : ∀ p ∈ qim ++ im', p.1 ≠ L1 + 1 + 1 := fun p hp => (List.mem_append.mp hp).elim (fun h => Nat.ne_of_gt (r6 p h (L1 + 1 + 1, _) (.tail _ (.tail _ (.tail _ (.head _)))))) (q11 p)
    have g5' : ∀ p ∈ qim ++ im', p.1 ≠ I := fun p hp => (List.mem_append.mp hp).elim (fun h => Nat.ne_of_gt (r6 p h (I, _) (.head _))) (i7 p)
    have r7 : Hold (@Ne Nat nt r) := r1 (nt, _) (List.mem_append_right _ (.tail _ (.head _)))
    have r8 : Hold (@Ne Nat (L1 + 1) r) := r1 (L1 + 1, _) (List.mem_append_right _ (.tail _ (.tail _ (.head _))))
    have r9 : Hold (@Ne Nat (L1 + 1 + 1) r) := r1 (L1 + 1 + 1, _) (List.mem_append_right _ (.tail _ (.tail _ (.tail _ (.head _)))))
    have q5' : ∀ p ∈ im, p ∈ qim ++ im' := fun p hp => List.mem_append_right _ (q5 p hp)
    have q1' : PairsAre (qim ++ im') vs st.2 := q1.mono fun p hp => List.mem_append_right _ hp
    (with_reducible rename News g1 _ _ _ => N8)
    generalize qim ++ im' = imq at N8 g1' g2' g3' g4' g5' q5' q1' hqs
    have hwl : ws.length ≤ 16 := by rw [hq.length, List.length_map, ← q1.length]; exact hvs2
    refine' comp_L (fun _ => true) (fun a y => ∀ b q t1 t2 t3 t4, a = Value.ref b → (b, quadOf q t1 t2 t3 t4) ∈ qim → ∃ t', y = Value.str q.2.1 t') ?F0 rfl ?clos ?cell rfl ?names rfl ?_ (fun _ => rfl)
    case F0 => k_asm
    case clos => with_unfolding_all rfl
    case cell => decide
    case names => decide
    k_steps
    unfold Hold
    (with_reducible rename Fr g1 _ _ _ => F8)
    (with_reducible rename News g1 _ _ _ => N8)
    refine compI (l := r) (vs := ws) (n := jr) F8 N8 (by k_mem) (by omega) ?_ ?_ ?_
    · intro C v s₂ m₂ E' hv hn hm hk9
      exact wpAny_pure (show _ ∧ _ from ⟨rfl, _, _, rfl, fun _ _ e => e⟩)
    · intro C v s₂ m₂ E' hv _ hn hm hk9
      refine slimG ?_
      intro hG9
      obtain ⟨b, q, t1, t2, t3, t4, rfl, hb⟩ := hq.at hv
      refine hG9 ?_
      clear hG9
      have hb2 : (b, quadOf q t1 t2 t3 t4) ∈ imq := hqs _ hb
      have hbg := hk9 _ _ (N8 (b, quadOf q t1 t2 t3 t4) (by repeat' (first | exact hb2 | refine .tail _ ?_))).1
      have hbT : IsTup s₂.heap b [Value.str q.1 t1, Value.str q.2.1 t2, Value.str q.2.2.1 t3, Value.str q.2.2.2 t4].toArray := ⟨_, hbg, rfl, _, rfl⟩
      k_steps
      refine (show _ ∧ _ from ⟨?_, _, _, rfl, fun _ _ e => e⟩)
      intro b' q' u1 u2 u3 u4 e' hb'
      cases e'
      have hb2' : (b, quadOf q' u1 u2 u3 u4) ∈ imq := hqs _ hb'
      have hbg2 := hk9 _ _ (N8 (b, quadOf q' u1 u2 u3 u4) (by repeat' (first | exact hb2' | refine .tail _ ?_))).1
      rw [← quadOf_inj (Option.some.inj (hbg.symm.trans hbg2))]
      exact ⟨_, rfl⟩
    intro D1 ys1 jy1 h6 tk6 F9 N9 hD1 hP
    clear F8 N8
    have hfl : List.filter (fun (_ : Value) => true) ws = ws := List.filter_eq_self.mpr fun _ _ => rfl
    rw [hfl] at hP
    have hS1 := hq.strs (fun q => q.2.1) hP
    clear hP hfl
    k_steps
    unfold Hold
    refine' comp_L (fun _ => true) (fun a y => ∀ b q t1 t2 t3 t4, a = Value.ref b → (b, quadOf q t1 t2 t3 t4) ∈ qim → ∃ t', y = Value.str q.2.2.2 t') ?F0 rfl ?clos ?cell rfl ?names rfl ?_ (fun _ => rfl)
    case F0 => k_asm
    case clos => with_unfolding_all rfl
    case cell => decide
    case names => decide
    k_steps
    unfold Hold
    (with_reducible rename Fr g1 _ _ _ => F8)
    (with_reducible rename News g1 _ _ _ => N8)
    refine compI (l := r) (vs := ws) (n := jr) F8 N8 (by k_mem) (by omega) ?_ ?_ ?_
    · intro C v s₂ m₂ E' hv hn hm hk9
      exact wpAny_pure (show _ ∧ _ from ⟨rfl, _, _, rfl, fun _ _ e => e⟩)
    · intro C v s₂ m₂ E' hv _ hn hm hk9
      refine slimG ?_
      intro hG9
      obtain ⟨b, q, t1, t2, t3, t4, rfl, hb⟩ := hq.at hv
      refine hG9 ?_
      clear hG9
      have hb2 : (b, quadOf q t1 t2 t3 t4) ∈ imq := hqs _ hb
      have hbg := hk9 _ _ (N8 (b, quadOf q t1 t2 t3 t4) (by repeat' (first | exact hb2 | refine .tail _ ?_))).1
      have hbT : IsTup s₂.heap b [Value.str q.1 t1, Value.str q.2.1 t2, Value.str q.2.2.1 t3, Value.str q.2.2.2 t4].toArray := ⟨_, hbg, rfl, _, rfl⟩
      k_steps
      refine (show _ ∧ _ from ⟨?_, _, _, rfl, fun _ _ e => e⟩)
      intro b' q' u1 u2 u3 u4 e' hb'
      cases e'
      have hb2' : (b, quadOf q' u1 u2 u3 u4) ∈ imq := hqs _ hb'
      have hbg2 := hk9 _ _ (N8 (b, quadOf q' u1 u2 u3 u4) (by repeat' (first | exact hb2' | refine .tail _ ?_))).1
      rw [← quadOf_inj (Option.some.inj (hbg.symm.trans hbg2))]
      exact ⟨_, rfl⟩
    intro D2 ys2 jy2 h7 tk7 F9 N9 hD2 hP
    clear F8 N8
    have hfl : List.filter (fun (_ : Value) => true) ws = ws := List.filter_eq_self.mpr fun _ _ => rfl
    rw [hfl] at hP
    have hS2 := hq.strs (fun q => q.2.2.2) hP
    clear hP hfl
    k_steps
    unfold Hold
    have hyl1 : ys1.length ≤ 16 := by rw [StrsAre.len_eq hS1, List.length_map, List.length_map, ← q1'.length]; exact hvs2
    have hyl2 : ys2.length ≤ 16 := by rw [StrsAre.len_eq hS2, List.length_map, List.length_map, ← q1'.length]; exact hvs2
    k_dflt (refine' add_LL ?kF ?kN ?ka ?kb ?kz ?_)
    case kF => k_asm
    case kN => exact N9
    case ka => k_mem
    case kb => k_mem
    case kz => omega
    intro D3 h8 F10 N10 lD3
    have hS3 : StrsAre (ys1 ++ ys2) ((endsOf st.2).map chr) := by
      have := strsAre_append hS1 hS2
      rw [List.map_map, List.map_map] at this
      unfold endsOf
      rw [List.map_append, List.map_map, List.map_map]
      exact this
    have N11 := N_dd N10
    have lD4 : ∀ p ∈ (I, ito) :: (nt, listOf ns.toArray jn) :: (l, listOf vs.toArray j) :: (x, instObj 203 d) :: (d, headTab w l kt) :: (L1 + 1, oE) :: (L1 + 1 + 1, oW) :: (r, listOf ws.toArray jr) :: imq, p.1 < D3 := fun p hp => lD3 p (.tail _ (.tail _ hp))
    have hyl3 : (ys1 ++ ys2).length ≤ 32 := by rw [List.length_append]; omega
    generalize ys1 ++ ys2 = ys3 at N11 hS3 hyl3
    clear lD3 N9 N10 hD1 hD2 hS1 hS2 hyl1 hyl2
    k_lt lD4
    k_sweep
    k_steps
    unfold Hold
    refine' comp_L (fun v => (endsOf st.2).count (strV v) == 1) (fun a y => y = a) ?F0 rfl ?clos ?cell rfl ?names rfl ?_ (fun _ => rfl)
    case F0 => k_asm
    case clos => with_unfolding_all rfl
    case cell => decide
    case names => decide
    k_steps
    unfold Hold
    (with_reducible rename Fr g1 _ _ _ => F8)
    (with_reducible rename News g1 _ _ _ => N8)
    refine compI (l := D3) (vs := ys3) (n := 0) F8 N8 (by k_mem) (by omega) ?_ ?_ ?_
    · intro C v s₂ m₂ E' hv hn hm hk9
      refine slimG ?_
      intro hG9
      obtain ⟨c, t, rfl, hc⟩ := strs_mem hS3 v hv
      refine hG9 ?_
      clear hG9
      refine comp_test1 ?_
      k_steps
      refine (show _ ∧ _ from ⟨?_, _, _, rfl, fun _ _ e => e⟩)
      rw [count_chr]
      exact count_one _ _
    · intro C v s₂ m₂ E' hv _ hn hm hk9
      refine slimG ?_
      intro hG9
      obtain ⟨c, t, rfl, hc⟩ := strs_mem hS3 v hv
      refine hG9 ?_
      clear hG9
      k_steps
      exact (show _ ∧ _ from ⟨rfl, _, _, rfl, fun _ _ e => e⟩)
    intro D4 ys4 jy4 h6 tk6 F9 N9 hD4 hP
    clear F8 N8
    have hS4 : StrsAre ys4 ((onceOf st.2).map chr) := strs_filter (fun c => (endsOf st.2).count c == 1) hS3 hP
    clear hP
    k_steps
    unfold Hold
    refine min_C (hh := rfl) F9 N9 (by k_mem) hS4 hon ?_
    intro h7 tl tk7 F8 N8
    replace N8 := cb_drop N8 (fun p hp => .tail _ hp)
    clear F9 N9 hD4 hS4
    k_sweep
    k_steps
    unfold Hold
    refine For_turns (by k_asm) ?_ (fun _ => rfl) (by passes_own)
    k_steps
    unfold Hold
    rename Fr _ _ _ _ => F3
    rename News _ _ _ _ => N3
    replace N3 := N_j2 N3
    have q2' := q2
    generalize hlf : minL (onceOf st.2) = leaf at F3
    refine' iter_listJ (l := r) (vs := ws) (n := jr) (fun k => NJ2 I r ito (listOf ws.toArray jr) (.str (chr leaf) tl) (NJ w x d l nt (L1 + 1) (L1 + 1 + 1) kt imq ((st.2.take k).foldl (noteStep leaf) st))) ?hh2 F3 N3 ?hJl ?j02 ?turn2 ?done2
    case hh2 => rfl
    case hJl => exact fun k m nw hz9 => NJ2.mem hz9
    case j02 =>
      refine NJ2.mk (NJ.mk q1' q2 (by assumption) dW (fun _ h => h) rfl rfl g1' g2' g3' g4') rfl ?_
      exact off_cons (i1) (off_cons (i2) (off_cons (i3) (off_cons (i4) (off_cons (i5) (off_cons (i6) (g5'))))))
    case turn2 =>
      clear F3 N3 q1 q2 q1' q5 q6 q7 q8 q9 q10 q11 g1' g2' g3' g4' g5' i7 dE dW
      intro k vx m₁ nw I2 ito2 h tk hvx hz9
      intro hoI F4 N4
      refine NJ2.out hz9 ?_
      intro nw' e8 hj9 q12 q13
      refine NJ.out hj9 ?_
      intro oE oW vE vW ns jn vs j im' e9 q1 q2 dE dW q5 q6 q7 q8 q9 q10 q11
      rw [e9] at e8 q13
      rw [e8] at hoI N4
      clear hz9 hj9 e8 e9
      refine genT ?_
      intro P2 hP2
      refine slimG ?_
      intro hG9
      obtain ⟨bb, qd, t1, t2, t3, t4, rfl, hqd, hbb⟩ := hq.atI hvx
      refine hG9 ?_
      clear hG9
      rw [List.getElem?_map] at hqd
      refine slimG ?_
      intro hG9
      obtain ⟨r1', hr1', rfl⟩ := Option.map_eq_some_iff.mp hqd
      refine hG9 ?_
      clear hG9
      have hgr2 := notes_fold_grow (leaf := leaf) (st.2.take k) st
      have hsub2 := notes_fold_sub (leaf := leaf) (st.2.take k) st
      generalize hst2 : (st.2.take k).foldl (noteStep leaf) st = st2 at *
      replace F4 := fr_say3 F4 q6 q7 q12
      have hbb2 := q5 _ (hqs _ hbb)
      have z1 : Hold (@Ne Nat bb nt) := q8 _ hbb2
      have z2 : Hold (@Ne Nat bb l) := q9 _ hbb2
      have z3 : Hold (@Ne Nat bb (L1 + 1)) := q10 _ hbb2
      have z4 : Hold (@Ne Nat bb (L1 + 1 + 1)) := q11 _ hbb2
      replace N4 := News.more1 N4 (q := (bb, quadOf (quad r1') t1 t2 t3 t4)) (by repeat' (first | exact hbb2 | refine .tail _ ?_))
      have hoI' := hoI
      refine offs8 hoI ?_
      intro y0 y9 y1 y2 y3 y4 y5 y6 y7
      clear hoI
      have y8 : Hold (@Ne Nat bb I2) := y7 _ hbb2
      have hnl : ns.length ≤ 1000 := by
        have h1 := List.length_take_le' k st.2
        have h2 : st.2.length ≤ 16 := Nat.le_trans hsub.2 hrl
        rw [StrsAre.len_eq q2, List.length_map]
        omega
      refine' share (fun common => ?main9) ?pf9
      case main9 =>
       k_steps
       rotate_left 2
       · (with_reducible rename (_ == (quad r1').2.1) = false => e1)
         (with_reducible rename (_ == (quad r1').2.2.2) = false => e2)
         have hA : ¬ leaf = lastN r1'.1 := fun e => by rw [e] at e1; exact absurd e1 (by simp [quad, lastS, lastN])
         have hB : ¬ leaf = lastN r1'.2 := fun e => by rw [e] at e2; exact absurd e2 (by simp [quad, lastS, lastN])
         have hns := note_none (st := st2) hA hB
         (with_reducible rename Fr g1 _ _ _ => F6)
         (with_reducible rename News g1 _ _ _ => N6)
         refine hP2 _ _ ?_
         show JEnd g1 _ I2 ito2 _ _ _
         refine JEnd.introB F6 N6 ?hoC (NJ2.mk (by rw [notes_next hst2 hr1', hns]; exact NJ.mk q1 q2 dE (by assumption) q5 rfl rfl q8 q9 q10 q11) rfl ?hiC)
         case hoC =>
           exact off_cons (y0) (off_cons (y9) (off_cons (y1) (off_cons (y2) (off_cons (y3) (off_cons (y4) (off_cons (y5) (off_cons (y6) (y7))))))))
         case hiC =>
           exact off_cons (i1) (off_cons (i2) (off_cons (i3) (off_cons (i4) (off_cons (i5) (off_cons (i6) (fun p hp => q13 p (by repeat' (first | exact hp | refine .tail _ ?_))))))))
       all_goals
        unfold Hold
        (first
          | ((with_reducible rename (_ == (quad r1').2.1) = true => e1)
             (have hA : leaf = lastN r1'.1 := chr_inj (eq_of_beq e1))
             (have hns := note_above (st := st2) hA)
             (have ec : (quad r1').2.2.2 = chr (lastN r1'.2) := rfl)
             (rw [ec])
             (clear ec)
             (generalize lastN r1'.2 = c0 at hns ⊢)
             (generalize t4 = tq)
             (clear e1 hA))
          | ((with_reducible rename (_ == (quad r1').2.2.2) = true => e2)
             (with_reducible rename (_ == (quad r1').2.1) = false => e1)
             (have hA : ¬ leaf = lastN r1'.1 := fun e => by rw [e] at e1; exact absurd e1 (by simp [quad, lastS, lastN]))
             (have hB : leaf = lastN r1'.2 := chr_inj (eq_of_beq e2))
             (have hns := note_below (st := st2) hA hB)
             (have ec : (quad r1').2.1 = chr (lastN r1'.1) := rfl)
             (rw [ec])
             (clear ec)
             (generalize lastN r1'.1 = c0 at hns ⊢)
             (generalize t2 = tq)
             (clear e1 e2 hA hB)))
        (with_reducible rename Fr g1 _ _ _ => F6)
        (with_reducible rename News g1 _ _ _ => N6)
        (with_reducible rename (_ = Data.cell (some (Value.str (quad r1').2.2.1 t3))) => d6)
        rename_i o6 h6
        revert o6 h6 tk c0 tq
        exact common.elim PLift.down
      case pf9 =>
        intro o6 d6 h6 F6 N6 tk6 c0 hns tq
        k_dflt (refine' append_K ?p1 N6 ?p3 ?_ ?p4)
        case p1 => k_asm
        case p3 => k_upd
        case p4 => rw [List.size_toArray, sizeLine_eq]; omega
        intro h9 F9 N9
        clear N6 F6
        k_sweep
        (try dsimp only)
        have hw1 := (hro2 r1' (List.mem_of_getElem? hr1')).1
        have hw2 := (hro2 r1' (List.mem_of_getElem? hr1')).2
        have hpl : (quad r1').1.length ≤ 4096 := hw1.ok.1
        k_steps
        unfold Hold
        have hwP := hw1.upper
        have hps : ∀ r ∈ st2.2, okS r.1 ∧ Txt.lower r.1 = r.1 := fun r hr => by
          have h := (hro2 r (hsub2.1 r hr)).1
          exact ⟨h.ok, h.upper.2.2⟩
        have hvl : vs.length ≤ 16 := by rw [q1.length]; exact Nat.le_trans hsub2.2 (Nat.le_trans hsub.2 hrl)
        refine' comp_LA (fun v => strW v != r1'.2) (fun a y => y = a) ?m1 ?m2 ?m3 ?m4 ?m5 ?m6 ?m7 ?m8 ?m9 ?m10 ?m11 ?_ (fun _ => rfl)
        case m1 => k_asm
        case m2 => with_unfolding_all rfl
        case m3 => rfl
        case m4 => rfl
        case m5 => with_unfolding_all rfl
        case m6 => decide
        case m7 => rfl
        case m8 => decide
        case m9 => rfl
        case m10 => rfl
        case m11 => rfl
        k_steps
        refine Hold.into ?_
        (with_reducible rename News g1 _ _ _ => N6)
        have N7 := N_x10 N6
        k_dflt (refine' all_c _ _ _ _ _ _ _ _ _ _ _ _ _ _ (q1.mono fun p hp => .tail _ (.tail _ (.tail _ (.tail _ (.tail _ (.tail _ (.tail _ hp))))))) hps (by omega) _ _ hwP.1 ?lo1 _ _ _ _ _ _ _ _ _ _ _ _ _ _ _ _ _ ?kB ?kF ?kX N7 ?kT ?kk ?kd ?ku ?_)
        case lo1 => exact (show okS (Txt.lower (Txt.upper r1'.1)) by rw [hwP.2.1]; exact hw1.ok)
        case kB => k_asm
        case kF => k_asm
        case kX => k_asm
        case kT => k_asm
        case kk => exact rfl
        case kd => ktr_room
        case ku => ktr_units
        intro D5 ys5 j5 h10 tk10 F10 N10 hD5 hS5
        clear N6 N7
        have hS5' : StrsAre ys5 ((st2.2.filter fun q => q.1 == r1'.1).map (·.2)) := by
          have e : Txt.lower (Txt.upper r1'.1) = r1'.1 := hwP.2.1
          rw [e] at hS5
          exact hS5
        clear hS5
        have hl5 : ys5.length ≤ 16 := by
          rw [StrsAre.len_eq hS5', List.length_map]
          exact Nat.le_trans (List.length_filter_le _ _) (by rw [← q1.length]; exact hvl)
        have hlens : ∀ o ∈ (st2.2.filter fun q => q.1 == r1'.1).map (·.2), o.length ≤ 64 := fun o ho => by
          refine slimG ?_
          intro hG9
          obtain ⟨q, hq, rfl⟩ := List.mem_map.mp ho
          refine hG9 ?_
          clear hG9
          exact (hro2 q (hsub2.1 q (List.mem_filter.mp hq).1)).2.1
        refine compI (l := D5) (vs := ys5) (n := j5) F10 N10 (.head _) (by omega) ?_ ?_ ?_
        · intro C v s₂ m₂ E' hv hn hm hk9
          refine slimG ?_
          intro hG9
          obtain ⟨o, t9, rfl, ho⟩ := strs_mem2 hS5' v hv
          refine hG9 ?_
          clear hG9
          refine comp_test1 ?_
          k_steps
          exact (show _ ∧ _ from ⟨rfl, _, _, rfl, fun _ _ e => e⟩)
        · intro C v s₂ m₂ E' hv _ hn hm hk9
          refine slimG ?_
          intro hG9
          obtain ⟨o, t9, rfl, ho⟩ := strs_mem2 hS5' v hv
          refine hG9 ?_
          clear hG9
          k_steps
          exact (show _ ∧ _ from ⟨rfl, _, _, rfl, fun _ _ e => e⟩)
        intro D6 ys6 j6 h11 tk11 F11 N11 hD6 hP
        have hS6 : StrsAre ys6 (((st2.2.filter fun q => q.1 == r1'.1).map (·.2)).filter fun o => o != r1'.2) := strs_filter2 (fun o => o != r1'.2) hS5' hP
        clear hP F10 N10
        have v1 : Hold (@Ne Nat l D6) := hD6 (l, _) (.tail _ (.tail _ (.tail _ (.head _))))
        have v2 : Hold (@Ne Nat nt D6) := hD6 (nt, _) (.tail _ (.tail _ (.tail _ (.tail _ (.tail _ (.tail _ (.tail _ (.tail _ (.head _)))))))))
        have N12 := N_x12 N11
        clear N11 hD6
        k_sweep
        k_steps
        refine Hold.into ?_
        (with_reducible rename News g1 _ _ _ => N6)
        k_dflt (refine' del_c _ _ _ _ _ _ _ _ _ _ _ _ _ _ (q1.mono fun p hp => .tail _ (.tail _ (.tail _ (.tail _ (.tail _ (.tail _ (.tail _ (.tail _ hp)))))))) hps (by omega) _ _ hwP.1 ?lo2 _ _ _ _ _ _ _ _ _ _ _ _ _ _ _ _ _ ?kB ?kF ?kX N6 ?kT ?kk ?kd ?ku o1 o2 ?do3 ?_)
        case lo2 => exact (show okS (Txt.lower (Txt.upper r1'.1)) by rw [hwP.2.1]; exact hw1.ok)
        case do3 =>
          exact off_cons (Ne.symm v1) (off_cons (z2) (off_cons (Ne.symm y2) (off_cons (Ne.symm i2) (off_cons (Ne.symm r5) (off_cons (Nat.ne_of_gt n5) (off_cons (Nat.ne_of_gt (Nat.lt_succ_of_lt f3)) (off_cons (Nat.ne_of_gt (Nat.lt_succ_of_lt (Nat.lt_succ_of_lt f3))) (q9))))))))
        case kB => k_asm
        case kF => k_asm
        case kX => k_asm
        case kT => k_asm
        case kk => exact rfl
        case kd => ktr_room
        case ku => ktr_units
        intro ws8 j8 h12 tk12 F12 N13 hP8
        clear N6
        have hP9 : PairsAre im' ws8 (st2.2.filter fun q => q.1 != r1'.1) := by
          have h := hP8 im' (fun p hp => .tail _ (.tail _ (.tail _ (.tail _ (.tail _ (.tail _ (.tail _ (.tail _ hp)))))))) q1
          have e : Txt.lower (Txt.upper r1'.1) = r1'.1 := hwP.2.1
          rw [e] at h
          exact h
        clear hP8
        k_sweep
        k_steps
        refine Hold.into ?_
        refine For_turns (by k_asm) ?_ (fun _ => rfl) (by passes_own)
        k_steps
        unfold Hold
        (with_reducible rename Fr _ _ _ _ => F7)
        (with_reducible rename News _ _ _ _ => N7)
        replace N7 := N_j3 N7
        generalize hkp : ((st2.2.filter fun q => q.1 == r1'.1).map (·.2)).filter (fun o => o != r1'.2) = kept at hS6
        have hkw : ∀ o ∈ kept, Wl o := fun o ho => by
          rw [← hkp] at ho
          refine slimG ?_
          intro hG9
          obtain ⟨q, hq, rfl⟩ := List.mem_map.mp (List.mem_filter.mp ho).1
          refine hG9 ?_
          clear hG9
          exact (hro2 q (hsub2.1 q (List.mem_filter.mp hq).1)).2
        have hkl : kept.length ≤ 16 := by
          rw [← hkp]
          refine Nat.le_trans (List.length_filter_le _ _) ?_
          rw [List.length_map]
          exact Nat.le_trans (List.length_filter_le _ _) (by rw [← q1.length]; exact hvl)
        have hbl : (st2.2.filter fun q => q.1 != r1'.1).length ≤ 16 := Nat.le_trans (List.length_filter_le _ _) (by rw [← q1.length]; exact hvl)
        generalize hbs : (st2.2.filter fun q => q.1 != r1'.1) = bs at hP9 hbl
        have hcut : cutRow st2.2 r1' = bs ++ kept.map fun o => (r1'.1, o) := by unfold cutRow; rw [hkp, hbs]
        simp only [List.push_toArray] at N7
        have q2c : ∀ tq, StrsAre (ns ++ [Value.str (chr c0) tq]) ((st2.1 ++ [c0]).map chr) := by
          intro tq
          rw [List.map_append]
          exact strsAre_append q2 (.cons _ _ .nil)
        refine' iter_listJ (l := D6) (vs := ys6) (n := j6) (fun k => NJ4 D6 I2 I r (listOf ys6.toArray j6) ito2 ito (listOf ws.toArray jr) (.str (chr leaf) tl) (.str (quad r1').1 t1) (NJ w x d l nt (L1 + 1) (L1 + 1 + 1) kt im' (st2.1 ++ [c0], bs ++ (kept.take k).map fun o => (r1'.1, o)))) ?hh4 F7 N7 ?hJl4 ?j04 ?turn4 ?done4
        case hh4 => rfl
        case hJl4 =>
          exact fun k m nw hz9 => NJ4.out hz9 fun _ e _ _ _ _ _ => by rw [e]; exact .head _
        case j04 =>
          refine NJ4.mk (NJ.mk (by rw [List.take_zero, List.map_nil, List.append_nil]; exact hP9) (q2c _) dE (by assumption) (fun _ h => h) rfl rfl q8 q9 q10 q11) rfl rfl ?_ ?_
          · intro p hp
            simp only [List.mem_cons] at hp
            rcases hp with rfl | rfl | rfl | rfl | rfl | rfl | hp
            · exact i1
            · exact i2
            · exact i3
            · exact i4
            · exact i5
            · exact i6
            · exact q13 p (by repeat' (first | exact hp | refine .tail _ ?_))
          · intro p hp
            simp only [List.mem_cons] at hp
            rcases hp with rfl | rfl | rfl | rfl | rfl | rfl | hp
            · exact y1
            · exact y2
            · exact y3
            · exact y4
            · exact y5
            · exact y6
            · exact y7 p hp
        case turn4 =>
          clear F7 N7 q1 q2 dE q6 q7 q8 q9 q10 q11 hP9 q2c hD5
          intro k4 vx m₁ nw I3 ito3 h tk hvx4 hz9
          intro hoI3 F4 N4
          refine NJ4.out hz9 ?_
          intro nw' e8 hj9 u12 u13 u14 u15
          refine NJ.out hj9 ?_
          intro oE oW vE vW ns jn vs j im3 e9 u1 u2 dE dW u5 u6 u7 u8 u9 u10 u11
          rw [e9] at e8 u14 u15
          rw [e8] at hoI3 N4
          clear hz9 hj9 e8 e9
          refine genT ?_
          intro P4 hP4
          refine slimG ?_
          intro hG9
          obtain ⟨o, t9, rfl, ho⟩ := strs_at hS6 hvx4
          refine hG9 ?_
          clear hG9
          replace F4 := fr_say4 F4 u6 u7 u12 u13
          have hoI3' := hoI3
          refine offs10 hoI3 ?_
          intro w0 w1 w2 w3 w4 w5 w6 w7 w8 w9 w10
          clear hoI3
          have hol : ws.length ≤ 1000 := by omega
          k_steps
          refine Hold.into ?_
          (with_reducible rename News g1 _ _ _ => N6)
          have N7 := N_a4 N6
          clear N6
          have hvl4 : vs.length ≤ 1000 := by
            rw [u1.length, List.length_append, List.length_map]
            have := List.length_take_le' k4 kept
            omega
          k_dflt (refine' add_c _ _ _ _ _ _ _ _ _ _ _ _ _ _ _ _ _ ?ad1 ?ad2 hvl4 o1 o2 ?ad6 _ _ _ _ _ _ _ _ _ _ _ _ _ _ _ _ _ ?kB ?kF ?kX N7 ?kT ?kk ?kd ?ku ?_)
          case ad1 => exact hw1.ok
          case ad2 => exact (hkw o (List.mem_of_getElem? ho)).ok
          case ad6 =>
            exact off_cons (Ne.symm w5) (off_cons (Ne.symm v1) (off_cons (Ne.symm y2) (off_cons (Ne.symm i2) (off_cons (Ne.symm r5) (off_cons (Nat.ne_of_gt n5) (off_cons (Nat.ne_of_gt (Nat.lt_succ_of_lt f3)) (off_cons (Nat.ne_of_gt (Nat.lt_succ_of_lt (Nat.lt_succ_of_lt f3))) (u9))))))))
          case kB => k_asm
          case kF => k_asm
          case kX => k_asm
          case kT => k_asm
          case kk => exact rfl
          case kd => ktr_room
          case ku => ktr_units
          intro bn tn un' h10 tk10 F10 N10 lb hab
          k_sweep
          k_steps
          refine cut9 hab ?_
          intro ab1 ab2 ab3 ab4 ab5 ab6 ab7 ab8 ab9
          clear hab
          (with_reducible rename Fr g1 _ _ _ => F11)
          (with_reducible rename News g1 _ _ _ => N11)
          have gp : PairsAre ((bn, pairOf (quad r1').1 o tn un') :: im3) (vs ++ [Value.ref bn]) (bs ++ (kept.take (k4 + 1)).map fun o => (r1'.1, o)) := by
            rw [List.take_add_one, ho, List.map_append, ← List.append_assoc]
            exact PairsAre.snoc (u1.mono fun p hp => List.mem_cons_of_mem _ hp) (List.mem_cons_self ..)
          have e1' : ∀ p ∈ (bn, pairOf (quad r1').1 o tn un') :: im3, p.1 ≠ nt := off_cons (Nat.ne_of_gt ab6) u8
          have e2' : ∀ p ∈ (bn, pairOf (quad r1').1 o tn un') :: im3, p.1 ≠ l := off_cons (Nat.ne_of_gt lb) u9
          have e3' : ∀ p ∈ (bn, pairOf (quad r1').1 o tn un') :: im3, p.1 ≠ L1 + 1 := off_cons (Nat.ne_of_gt ab7) u10
          have e4' : ∀ p ∈ (bn, pairOf (quad r1').1 o tn un') :: im3, p.1 ≠ L1 + 1 + 1 := off_cons (Nat.ne_of_gt ab8) u11
          refine hP4 _ _ ?_
          show JEnd g1 _ I3 ito3 _ _ _
          refine JEnd.intro13 F11 N11 ?ho4 (NJ4.mk (NJ.mk gp u2 dE dW (fun p hp => List.mem_cons_of_mem _ (u5 p hp)) rfl rfl e1' e2' e3' e4') rfl rfl ?hz1 ?hz2)
          case ho4 =>
            exact off_cons (w0) (off_cons (w1) (off_cons (w2) (off_cons (w3) (off_cons (w4) (off_cons (w5) (off_cons (w6) (off_cons (w7) (off_cons (w8) (off_cons (w9) (off_cons (Nat.ne_of_gt ab1) (w10)))))))))))
          case hz1 =>
            refine offs6 u14 ?_
            intro a1 a2 a3 a4 a5 a6 a7
            exact off_cons a1 (off_cons i2 (off_cons a3 (off_cons a4 (off_cons a5 (off_cons a6 (off_cons (Nat.ne_of_gt ab4) a7))))))
          case hz2 =>
            refine offs6 u15 ?_
            intro a1 a2 a3 a4 a5 a6 a7
            exact off_cons a1 (off_cons y2 (off_cons a3 (off_cons a4 (off_cons a5 (off_cons a6 (off_cons (Nat.ne_of_gt ab3) a7))))))
        case done4 =>
          clear F7 N7 q1 q2 dE q6 q7 q8 q9 q10 q11 hP9 q2c hD5
          intro m₁ nw h tk hz9
          intro F4 N4
          refine NJ4.out hz9 ?_
          intro nw' e8 hj9 u12 u13 u14 u15
          refine NJ.out hj9 ?_
          intro oE oW vE vW ns jn vs j im3 e9 u1 u2 dE dW u5 u6 u7 u8 u9 u10 u11
          rw [e9] at e8 u14 u15
          rw [e8] at N4
          clear hz9 hj9 e8 e9
          have hall : kept.take ys6.length = kept := List.take_of_length_le (by rw [StrsAre.len_eq hS6]; exact Nat.le_refl _)
          rw [hall, ← hcut] at u1
          replace F4 := fr_say4 F4 u6 u7 u12 u13
          k_steps
          (with_reducible rename Fr g1 _ _ _ => F6)
          (with_reducible rename News g1 _ _ _ => N6)
          refine hP2 _ _ ?_
          show JEnd g1 _ I2 ito2 _ _ _
          refine JEnd.intro F6 N6 (.tail _ (.head _)) (fun p hp => .tail _ (.tail _ hp)) ?ho5 (NJ2.mk (by rw [notes_next hst2 hr1', hns]; exact NJ.mk u1 u2 dE dW (fun p hp => u5 p (q5 p hp)) rfl rfl u8 u9 u10 u11) rfl u14)
          case ho5 =>
            exact off_cons y0 (off_cons y9 u15)
    case done2 =>
      intro m₁ nw h tk hz9
      intro F4 N4
      refine NJ2.out hz9 ?_
      intro nw' e8 hj9 u12 u13
      refine NJ.out hj9 ?_
      intro oE oW vE vW ns jn vs j im3 e9 u1 u2 dE dW u5 u6 u7 u8 u9 u10 u11
      rw [e9] at e8 u13
      rw [e8] at N4
      clear hz9 hj9 e8 e9
      have hall : st.2.take ws.length = st.2 := List.take_of_length_le (by rw [hq.length, List.length_map]; exact Nat.le_refl _)
      rw [hall] at u1 u2
      replace F4 := fr_say2 F4 u6 u7
      k_steps
      (with_reducible rename Fr g1 _ _ _ => F6)
      (with_reducible rename News g1 _ _ _ => N6)
      have hnext : notesN rows (i + 1) = st.2.foldl (noteStep leaf) st := by
        show roundF (notesN rows i) = _
        rw [hst, ← hlf]
        rfl
      refine hP1 _ _ ?_
      show JEnd g1 _ I ito _ _ _
      refine JEnd.intro F6 N6 (.head _) (fun p hp => .tail _ (.tail _ hp)) u13 ?_
      rw [hnext]
      exact NJ.mk u1 u2 dE dW (fun p hp => u5 p (q5' p hp)) rfl rfl u8 u9 u10 u11
  case done =>
    intro m₁ nw h tk hz9
    intro F4 N4
    refine NJ.out hz9 ?_
    intro oE oW vE vW ns jn vs j im3 e9 u1 u2 dE dW u5 u6 u7 u8 u9 u10 u11
    rw [e9] at N4
    clear hz9 e9
    replace F4 := fr_say2 F4 u6 u7
    k_steps
    (with_reducible rename Fr h₀ _ _ _ => F6)
    (with_reducible rename News h₀ _ _ _ => N6)
    refine hret nt ns jn vs j im3 _ _ F6 (cb_drop N6 ?_) u2 u1 u5 u9 u8 (Nat.ne_of_lt n5) (Nat.ne_of_lt n3) (Nat.ne_of_lt n4)
    repeat' (first | refine sub_cons ?_ ?_ | exact .head _ | refine .tail _ ?_ | exact hp | intro p hp)
end Mine
end PartW13

/- part PD -/
section PartPD
open PySem PySem.W PyProof.Rows
set_option maxRecDepth 100000
namespace Mine
def nd (n x : Nat) : Nat := (Builtin.Int.intBits (x : Int) + n - 1) / n
theorem nd_fdiv {n x : Nat} (hn : 0 < n) : Int.fdiv ((Builtin.Int.intBits (x : Int) : Int) + n - 1) n = (nd n x : Int) := by
  rw [Int.fdiv_eq_ediv_of_nonneg _ (by omega)]
  unfold nd
  have e : ((Builtin.Int.intBits (x : Int) : Int) + n - 1) = ((Builtin.Int.intBits (x : Int) + n - 1 : Nat) : Int) := by omega
  rw [e]
  rfl
theorem bits_spec (x : Nat) : x < 2 ^ Builtin.Int.intBits (x : Int) ∧ (x ≠ 0 → 0 < Builtin.Int.intBits (x : Int) ∧ 2 ^ (Builtin.Int.intBits (x : Int) - 1) ≤ x) := by
  unfold Builtin.Int.intBits
  by_cases h : x = 0
  · subst h
    exact ⟨by decide, fun h => absurd rfl h⟩
  · have h2 : ((x : Int) == 0) = false := by
      rw [beq_eq_false_iff_ne]
      omega
    rw [h2]
    simp only [Bool.false_eq_true, if_false, Int.natAbs_natCast, Nat.add_sub_cancel]
    exact ⟨Nat.lt_log2_self, fun _ => ⟨Nat.succ_pos _, Nat.log2_self_le h⟩⟩
theorem nd_lt {n x : Nat} (hn : 0 < n) : x < 2 ^ (n * nd n x) := by
  refine Nat.lt_of_lt_of_le (bits_spec x).1 (Nat.pow_le_pow_right (by decide) ?_)
  unfold nd
  have h1 := Nat.div_add_mod (Builtin.Int.intBits (x : Int) + n - 1) n
  have h2 := Nat.mod_lt (Builtin.Int.intBits (x : Int) + n - 1) hn
  omega
theorem nd_ge {n x : Nat} (hn : 0 < n) (hd : 0 < nd n x) : 2 ^ (n * (nd n x - 1)) ≤ x := by
  have hx : x ≠ 0 := by
    intro e
    subst e
    have h0 : Builtin.Int.intBits ((0 : Nat) : Int) = 0 := rfl
    unfold nd at hd
    rw [h0, Nat.zero_add, Nat.div_eq_of_lt (by omega)] at hd
    exact Nat.lt_irrefl _ hd
  obtain ⟨h1, h2⟩ := (bits_spec x).2 hx
  refine Nat.le_trans (Nat.pow_le_pow_right (by decide) ?_) h2
  unfold nd at hd ⊢
  have h3 := Nat.div_mul_le_self (Builtin.Int.intBits (x : Int) + n - 1) n
  generalize (Builtin.Int.intBits (x : Int) + n - 1) / n = q at *
  obtain ⟨q, rfl⟩ : ∃ q', q = q' + 1 := ⟨q - 1, by omega⟩
  rw [Nat.add_sub_cancel]
  rw [Nat.add_mul, Nat.one_mul, Nat.mul_comm] at h3
  omega
theorem valD_shift (n : Nat) : ∀ (fs : List Nat) (i : Nat), (∀ a ∈ fs, a < 2 ^ n) → (valD n fs >>> (n * i)) % 2 ^ n = fs.getD i 0
  | [], i, _ => by simp [valD]
  | a :: fs, 0, h => by
    have ha := h a (List.mem_cons_self ..)
    rw [Nat.mul_zero, Nat.shiftRight_zero, valD, Nat.add_mul_mod_self_left, Nat.mod_eq_of_lt ha]
    rfl
  | a :: fs, i + 1, h => by
    have ha := h a (List.mem_cons_self ..)
    have e : valD n (a :: fs) >>> n = valD n fs := by
      rw [valD, Nat.shiftRight_eq_div_pow, Nat.add_mul_div_left _ _ (Nat.two_pow_pos n), Nat.div_eq_of_lt ha, Nat.zero_add]
    have e2 : n * (i + 1) = n + n * i := by rw [Nat.mul_add, Nat.mul_one, Nat.add_comm]
    rw [e2, Nat.shiftRight_add, e, valD_shift n fs i fun b hb => h b (List.mem_cons_of_mem _ hb)]
    rfl
theorem dig_mod {n x i d : Nat} (hx : x < 2 ^ (n * d)) (hi : i < d) : dig n x i d = (x >>> (n * i)) % 2 ^ n := by
  unfold dig
  by_cases h : i + 1 = d
  · rw [if_pos h, Nat.mod_eq_of_lt]
    rw [Nat.shiftRight_eq_div_pow]
    refine Nat.div_lt_of_lt_mul ?_
    rw [← Nat.pow_add]
    have e : n * i + n = n * d := by rw [← h, Nat.mul_add, Nat.mul_one]
    rw [e]
    exact hx
  · rw [if_neg h]
theorem digs_facts {n : Nat} (hn : 3 ≤ n) (fs : List Nat) (h : ∀ a ∈ fs, a < 2 ^ n) : nd n (valD n fs) ≤ fs.length ∧ digsOf n (valD n fs) (nd n (valD n fs)) ++ List.replicate (fs.length - nd n (valD n fs)) 0 = fs ∧
    (digsOf n (valD n fs) (nd n (valD n fs))).drop (nd n (valD n fs) - 1) ≠ [0] := by
  have hlt := valD_lt n fs h
  have hx := nd_lt (n := n) (x := valD n fs) (by omega)
  have hle : nd n (valD n fs) ≤ fs.length := by
    by_cases hd : 0 < nd n (valD n fs)
    · have hge := nd_ge (n := n) (x := valD n fs) (by omega) hd
      have h2 := Nat.lt_of_le_of_lt hge hlt
      have h3 := (Nat.pow_lt_pow_iff_right (by decide : 1 < 2)).mp h2
      have h4 := Nat.lt_of_mul_lt_mul_left h3
      omega
    · omega
  have hdig : digsOf n (valD n fs) (nd n (valD n fs)) = (List.range (nd n (valD n fs))).map fun i => fs.getD i 0 := by
    unfold digsOf
    apply List.map_congr_left
    intro i hi
    rw [dig_mod hx (List.mem_range.mp hi), valD_shift n fs i h]
  refine ⟨hle, ?_, ?_⟩
  · rw [hdig]
    apply List.ext_getElem?
    intro i
    by_cases h1 : i < nd n (valD n fs)
    · rw [List.getElem?_append_left (by simpa using h1), List.getElem?_map, List.getElem?_range h1]
      have h2 : i < fs.length := by omega
      simp [List.getD_eq_getElem?_getD, List.getElem?_eq_getElem h2]
    · rw [List.getElem?_append_right (by simpa using Nat.not_lt.mp h1)]
      simp only [List.length_map, List.length_range]
      by_cases h2 : i < fs.length
      · rw [List.getElem?_replicate, if_pos (by omega)]
        have h3 := valD_shift n fs i h
        have h4 : valD n fs >>> (n * i) = 0 := by
          rw [Nat.shiftRight_eq_div_pow]
          exact Nat.div_eq_of_lt (Nat.lt_of_lt_of_le hx (Nat.pow_le_pow_right (by decide) (Nat.mul_le_mul_left n (Nat.not_lt.mp h1))))
        rw [h4, Nat.zero_mod, List.getD_eq_getElem?_getD, List.getElem?_eq_getElem h2] at h3
        rw [List.getElem?_eq_getElem h2]
        simp at h3
        rw [← h3]
      · rw [List.getElem?_replicate, if_neg (by omega), List.getElem?_eq_none (by omega)]
  · intro e
    have hpos : 0 < nd n (valD n fs) := by
      rcases Nat.eq_zero_or_pos (nd n (valD n fs)) with h0 | h0
      · rw [h0] at e
        cases e
      · exact h0
    have hge := nd_ge (n := n) (x := valD n fs) (by omega) hpos
    have h1 : (digsOf n (valD n fs) (nd n (valD n fs)))[nd n (valD n fs) - 1]? = some 0 := by
      have := congrArg (fun l => l[0]?) e
      simpa [List.getElem?_drop] using this
    unfold digsOf at h1
    rw [List.getElem?_map, List.getElem?_range (by omega)] at h1
    have h2 : dig n (valD n fs) (nd n (valD n fs) - 1) (nd n (valD n fs)) = 0 := by simpa using h1
    unfold dig at h2
    rw [if_pos (by omega), Nat.shiftRight_eq_div_pow] at h2
    have h3 := (Nat.le_div_iff_mul_le (Nat.two_pow_pos _)).mpr (show 1 * 2 ^ (n * (nd n (valD n fs) - 1)) ≤ valD n fs by omega)
    omega
end Mine
end PartPD

/- part SumN -/
section PartSumN
open PySem PySem.W PyProof.Rows
set_option maxRecDepth 100000
namespace Mine
open PySem PySem.Calls PySem.Spec PySem.W PyProof.Rows
theorem numAt_eq {xs : Array (Int × Tok)} {ns : List Nat} (h : ns.map Int.ofNat = xs.toList.map (·.1)) (j : Nat) : numAt xs j = ((ns.getD j 0 : Nat) : Int) := by
  have e : (ns.map Int.ofNat)[j]? = (xs.toList.map (·.1))[j]? := by rw [h]
  rw [List.getElem?_map, List.getElem?_map, Array.getElem?_toList (xs := xs)] at e
  unfold numAt
  rw [← e, List.getD_eq_getElem?_getD]
  cases ns[j]? <;> rfl
theorem preSum_nat (g : Nat → Nat) (val : Nat → Int) (h : ∀ j, val j = (g j : Int)) : ∀ n, preSum val n = (((List.range n).map g).sum : Int)
  | 0 => rfl
  | n + 1 => by
    rw [preSum, preSum_nat g val h n, h, List.range_succ, List.map_append, List.sum_append]
    simp
theorem sum_range_get (ns : List Nat) : ((List.range ns.length).map fun j => ns.getD j 0) = ns := by
  apply List.ext_getElem?
  intro i
  by_cases h : i < ns.length
  · rw [List.getElem?_map, List.getElem?_range h]
    simp [List.getD_eq_getElem?_getD, List.getElem?_eq_getElem h]
  · rw [List.getElem?_eq_none (by simpa using h), List.getElem?_eq_none (by omega)]
theorem sum_range_le (g : Nat → Nat) {j n : Nat} (h : j ≤ n) : ((List.range j).map g).sum ≤ ((List.range n).map g).sum := by
  induction n with
  | zero => rw [Nat.le_zero.mp h]; exact Nat.le_refl _
  | succ n ih =>
    by_cases e : j = n + 1
    · rw [e]; exact Nat.le_refl _
    · have := ih (by omega)
      rw [List.range_succ, List.map_append, List.sum_append]
      omega
section
variable {prog : Program} {w : World} {A : Around} {E : Value → Shared → Prop} {s : Shared} {h₀ : Heap} {L l : Addr} {m : Str → Option Value} {news : List (Addr × Obj)} {vs : List Value} {ns : List Nat} {nv : Nat} {Q : Value → Shared → Prop}
theorem sum_N {hh : A.handled = none} (F : Fr h₀ L s.heap m) (N : News h₀ L s.heap news) (hm : (l, listOf vs.toArray nv) ∈ news) (hi : IntsAre vs (ns.map Int.ofNat)) (hb : ns.sum < 2 ^ 60)
    (h : ∀ h' (t : Tok) tk, Fr h₀ L h' m → News h₀ L h' news → Q (.int (ns.sum : Int) t) { s with heap := h', toks := tk }) :
    wpAny (model prog w) A (call (.builtin "sum") [.ref l]) Q E s := by
  have hl := N.isList hm
  obtain ⟨xs, e⟩ := hi.allInts.items
  have hns : ns.map Int.ofNat = xs.toList.map (·.1) := by
    rw [← hi.numsOf, ← nums_intItems, ← e]
  have hsz : xs.size = ns.length := by
    have := congrArg List.length hns
    simpa using this.symm
  rw [e] at hl
  have hv := numAt_eq hns
  have hp := preSum_nat (fun j => ns.getD j 0) (numAt xs) hv
  have hall := sum_range_get ns
  refine sum_intList hh hl (fun j hj => ?_) fun h' tk t' hk => ?_
  · rw [hsz] at hj
    have h1 := sum_range_le (fun j => ns.getD j 0) (show j + 1 ≤ ns.length by omega)
    rw [hall] at h1
    have h2 : ns.getD j 0 ≤ ((List.range (j + 1)).map fun j => ns.getD j 0).sum := by
      rw [List.range_succ, List.map_append, List.sum_append]
      simp
    rw [hv, hp]
    unfold InLong
    constructor
    · constructor
      · omega
      · omega
    · constructor
      · omega
      · omega
  · rw [hp, hsz, hall]
    exact h h' t' tk (F.keeps hk) (N.grown hk)
end
theorem valD_sum (n : Nat) : ∀ (fs : List Nat) (k : Nat), ((List.range k).map fun j => fs.getD j 0 * 2 ^ (n * j)).sum = valD n (fs.take k)
  | [], k => by
    have e : ((List.range k).map fun j => ([] : List Nat).getD j 0 * 2 ^ (n * j)) = List.replicate k 0 := by
      apply List.ext_getElem?
      intro i
      rw [List.getElem?_replicate]
      by_cases h : i < k
      · rw [if_pos h, List.getElem?_map, List.getElem?_range h]; simp
      · rw [if_neg h, List.getElem?_eq_none (by simpa using h)]
    rw [e]
    simp [valD]
  | a :: fs, 0 => rfl
  | a :: fs, k + 1 => by
    have ih := valD_sum n fs k
    rw [List.range_succ_eq_map, List.map_cons, List.map_map, List.sum_cons, List.take_succ_cons, valD, ← ih]
    have e : ((fun j => (a :: fs).getD j 0 * 2 ^ (n * j)) ∘ Nat.succ) = fun j => 2 ^ n * (fs.getD j 0 * 2 ^ (n * j)) := by
      funext j
      show fs.getD j 0 * 2 ^ (n * (j + 1)) = _
      rw [Nat.mul_add, Nat.mul_one, Nat.pow_add, Nat.mul_comm (2 ^ (n * j)), ← Nat.mul_assoc, Nat.mul_comm (fs.getD j 0), Nat.mul_assoc]
    rw [e]
    have e2 : ∀ (l : List Nat) (c : Nat) (g : Nat → Nat), (l.map fun j => c * g j).sum = c * (l.map g).sum := by
      intro l c g
      induction l with
      | nil => rfl
      | cons b l ih => rw [List.map_cons, List.map_cons, List.sum_cons, List.sum_cons, ih, Nat.mul_add]
    rw [e2]
    have e3 : (a :: fs).getD 0 0 * 2 ^ (n * 0) = a := by simp
    rw [e3]
end Mine
end PartSumN

/- part Comps2 -/
section PartComps2
open PySem PySem.W PyProof.Rows
set_option maxRecDepth 100000
namespace Mine
open PySem PySem.Calls PySem.Spec PySem.W PyProof.Rows
section
variable {prog : Program} {w : World} {A : Around} {E : Value → Shared → Prop} {s : Shared} {env : Env} {h₀ : Heap} {L : Addr}
theorem comp_R {elt iter : Expr} {x : Str} {px : Pos} {scope : Scope} {cl : List (Str × Addr)} {pos : Pos} {Q : Value → Shared → Prop} {m0 : Str → Option Value} (f : Nat → Nat) (_F : Fr h₀ L s.heap m0)
    (hh : A.handled = none) (hclos : closureFor scope env = pure cl) (hcell : ∀ y ∈ scope.names, y.2 ≠ .cell) (hkind : scope.kind = .function)
    (hnames : ∀ y ∈ scope.names, y.2 = .local → scope.names.lookup y.1 = some .local) (hx : scope.names.lookup x = some .local)
    (h : wpAny (model prog w) A (eval iter env) (fun xv s₁ => Hold (∃ (r : Addr) (b : Int) (t₀ u₀ v₀ : Tok) (n : Nat) (m : Str → Option Value) (news : List (Addr × Obj)), xv = .ref r ∧ IsRange s₁.heap r 0 b 1 t₀ u₀ v₀ ∧ Builtin.Range.small 0 b 1 = true ∧ Builtin.Range.rangeSize 0 b 1 = (n : Int) ∧ n ≤ 1000 ∧ Fr h₀ L s₁.heap m ∧ News h₀ L s₁.heap news ∧
      (∀ (C : Addr) (i : Nat) (t : Tok) (s₂ : Shared) (m₂ : Str → Option Value) (E' : Value → Shared → Prop), i < n → s₂.heap.Ns (compEnvC scope cl C env).locals m₂ → m₂ x = some (.int (i : Int) t) → (∀ b o, s₁.heap.get? b = some o → s₂.heap.get? b = some o) →
        wpAny (model prog w) A (eval elt (compEnvC scope cl C env)) (fun y s₃ => Hold ((∃ t', y = .int (f i : Int) t') ∧ Keeps s₂ s₃)) E' s₂) ∧
      (∀ D (ys : List Value) k h' tk, Fr h₀ L h' m → News h₀ L h' ((D, listOf ys.toArray k) :: news) → (∀ q ∈ news, q.1 ≠ D) → IntsAre ys (((List.range n).map f).map Int.ofNat) → Q (.ref D) { s₁ with heap := h', toks := tk }))) E s)
    (hs : ∀ x, foldedSetIterable iter env x = pure x) :
    wpAny (model prog w) A (eval (.ListComp elt [⟨.Name x px, iter, [], 0⟩] scope pos) env) Q E s := by
  refine wpAny_ListComp_free (fun _ => true) (fun v y => ∃ t', y = Value.int (f (natV v) : Int) t') hclos hcell hkind hnames hx (wpAny_mono h (fun xv s₁ h₁ => ?_) fun _ _ e => e) hs
  obtain ⟨r, b, t₀, u₀, v₀, n, m, news, rfl, hr, hsmall, hn, hz, F, N, helt, hQ⟩ := h₁
  refine wpAny_pyIter_range hr hsmall ?_
  have W : Walks prog w A s₁.heap.objs.size [s₁.heap.objs.size] [s₁.heap.objs.size] n (fun i v => i < n ∧ ∃ t, v = .int (0 + i * 1) t)
      (fun i h => IsRangeIter h s₁.heap.objs.size (0 + (i : Nat) * 1) ((n : Int) - (i : Nat)) 1) := (Walks.range hh _ 0 1 n).bound
  have up : ∀ (o : Obj) (s₃ : Shared), (∀ b o', b ∉ [s₁.heap.objs.size] → (s₁.heap.push o).get? b = some o' → s₃.heap.get? b = some o') → ∀ b o', s₁.heap.get? b = some o' → s₃.heap.get? b = some o' :=
    fun o s₃ hk b o' e => hk b o' (fun hm => by rw [List.mem_singleton.mp hm] at e; exact Nat.lt_irrefl _ (Heap.lt_size e)) (Heap.get?_push_of_some _ e)
  refine ⟨s₁.heap.objs.size, [s₁.heap.objs.size], [s₁.heap.objs.size], n, _, _, rfl, W, (by rw [sizeLine_eq]; omega), (by show IsRangeIter _ _ _ _ _; rw [hn]; simpa using Heap.get?_push_size _ rfl), ?_, ⟨?_, ?_⟩, ?_⟩
  · intro b hb
    show b < (s₁.heap.push _).objs.size
    rw [Heap.size_push, List.mem_singleton.mp hb]
    exact Nat.lt_succ_self _
  · intro C i v s₃ m₃ E' hC hP hn hm hk _
    exact wpAny_pure ⟨rfl, _, _, rfl, fun _ _ e => e⟩
  · intro C i v s₃ m₃ E' hC hP hp hn hm hk _
    obtain ⟨hi, t, rfl⟩ := hP
    have e : ((0 : Int) + (i : Int) * 1) = (i : Int) := by omega
    rw [e] at hm ⊢
    exact helt C i t s₃ m₃ E' hi hn hm (up _ s₃ hk)
  · intro D h' tk ys vs' hnew hlD hplD hlen hP hF hk
    have keep : ∀ b o, s₁.heap.get? b = some o → h'.get? b = some o := up _ { s₁ with heap := h' } hk
    have hD0 : ∀ b o, s₁.heap.get? b = some o → b ≠ D := fun b o e q => by rw [← q, Heap.get?_push_of_some _ e] at hnew; cases hnew
    obtain ⟨k, hk2⟩ := hplD
    refine hQ D ys.toList k h' tk (F.keeps keep) ?_ (fun q hq => hD0 _ _ (N q hq).1) ?_
    · intro q hq
      rcases List.mem_cons.mp hq with rfl | hq
      · refine ⟨by rw [Array.toArray_toList]; exact hk2, ?_, ?_⟩
        · obtain ⟨oL, _, _, ho, _⟩ := F.ns
          exact fun e => hD0 _ _ ho e.symm
        · cases e : h₀.get? D with
          | none => rfl
          | some o' => exact absurd rfl (hD0 _ _ (F.keep _ _ e))
      · exact N.grown keep q hq
    · have hfl : vs'.filter (fun (_ : Value) => true) = vs' := List.filter_eq_self.mpr fun _ _ => rfl
      rw [hfl] at hF
      have key : ∀ (vs' : List Value) (ys : List Value) (j : Nat), Paired (fun v y => ∃ t', y = Value.int (f (natV v) : Int) t') vs' ys → (∀ i v, vs'[i]? = some v → natV v = j + i) → IntsAre ys (((List.range' j vs'.length).map f).map Int.ofNat) := by
        intro vs' ys j hp
        induction hp generalizing j with
        | nil => intro _; exact .nil
        | @cons v y vs' ys h1 _ ih =>
          intro hv
          obtain ⟨t', rfl⟩ := h1
          have e0 : natV v = j := by simpa using hv 0 v rfl
          rw [e0]
          refine IntsAre.cons _ _ (ih (j + 1) fun i v' h => ?_)
          have := hv (i + 1) v' (by simpa using h)
          omega
      have := key vs' ys.toList 0 hF fun i v hv => by
        obtain ⟨_, t, rfl⟩ := hP i v hv
        show (0 + (i : Int) * 1).toNat = _
        omega
      rw [hlen, ← List.range_eq_range'] at this
      exact this
end
theorem compRI {h₀ : Heap} {L : Addr} {h : Heap} {El : Nat → Prop} {K : Nat → (Str → Option Value) → List (Addr × Obj) → Prop} {r : Addr} {b : Int} {t u v : Tok} {n : Nat} {m : Str → Option Value} {news : List (Addr × Obj)}
    (hr : IsRange h r 0 b 1 t u v) (h1 : Builtin.Range.small 0 b 1 = true) (h2 : Builtin.Range.rangeSize 0 b 1 = (n : Int)) (h3 : n ≤ 1000) (F : Fr h₀ L h m) (N : News h₀ L h news) (he : El n) (hk : K n m news) :
    ∃ (r' : Addr) (b : Int) (t₀ u₀ v₀ : Tok) (n : Nat) (m : Str → Option Value) (news : List (Addr × Obj)), Value.ref r = .ref r' ∧ IsRange h r' 0 b 1 t₀ u₀ v₀ ∧ Builtin.Range.small 0 b 1 = true ∧ Builtin.Range.rangeSize 0 b 1 = (n : Int) ∧ n ≤ 1000 ∧ Fr h₀ L h m ∧ News h₀ L h news ∧ El n ∧ K n m news :=
  ⟨r, b, t, u, v, n, m, news, rfl, hr, h1, h2, h3, F, N, he, hk⟩
end Mine
end PartComps2

/- part Comps3 -/
section PartComps3
open PySem PySem.W PyProof.Rows
set_option maxRecDepth 100000
namespace Mine
open PySem PySem.Calls PySem.Spec PySem.W PyProof.Rows
section
variable {prog : Program} {w : World} {A : Around} {E : Value → Shared → Prop} {s : Shared} {env : Env} {h₀ : Heap} {L : Addr}
/-- as comp_L, without a test, what an item gives being said when the source is known -/
theorem comp_G {elt iter : Expr} {x : Str} {px : Pos} {scope : Scope} {cl : List (Str × Addr)} {pos : Pos} {Q : Value → Shared → Prop} {m0 : Str → Option Value} (_F : Fr h₀ L s.heap m0)
    (hh : A.handled = none) (hclos : closureFor scope env = pure cl) (hcell : ∀ y ∈ scope.names, y.2 ≠ .cell) (hkind : scope.kind = .function)
    (hnames : ∀ y ∈ scope.names, y.2 = .local → scope.names.lookup y.1 = some .local) (hx : scope.names.lookup x = some .local)
    (h : wpAny (model prog w) A (eval iter env) (fun xv s₁ => Hold (∃ (G : Value → Value → Prop) (l : Addr) (vs : List Value) (n : Nat) (m : Str → Option Value) (news : List (Addr × Obj)), xv = .ref l ∧ Fr h₀ L s₁.heap m ∧ News h₀ L s₁.heap news ∧ (l, listOf vs.toArray n) ∈ news ∧ vs.length ≤ 1000 ∧
      CompElts prog w A scope cl env x elt (fun _ => true) G vs s₁.heap ∧
      (∀ D (ys : List Value) k h' tk, Fr h₀ L h' m → News h₀ L h' ((D, listOf ys.toArray k) :: news) → (∀ q ∈ news, q.1 ≠ D) → Paired G vs ys → Q (.ref D) { s₁ with heap := h', toks := tk }))) E s)
    (hs : ∀ x, foldedSetIterable iter env x = pure x) :
    wpAny (model prog w) A (eval (.ListComp elt [⟨.Name x px, iter, [], 0⟩] scope pos) env) Q E s := by
  rw [eval_ListComp]
  refine wpAny_comprehension_free (use := none) rfl hs hclos hkind hnames (wpAny_mono h (fun xv s₁ h₁ => ?_) fun _ _ e => e)
  obtain ⟨G, l, vs, n, m, news, rfl, F, N, hm, hsz, helt, hQ⟩ := h₁
  have hlo := (N _ hm).1
  have hl : s₁.heap.IsList l vs.toArray := ⟨_, hlo, rfl, n, rfl⟩
  have hlt : l < s₁.heap.objs.size := Heap.lt_size hlo
  have up : ∀ (s₃ : Shared), (∀ b o, b ∉ [s₁.heap.objs.size] → (s₁.heap.push { cls := .type "list_iterator", data := .fields #[.ref l, .int 0 0] }).get? b = some o → s₃.heap.get? b = some o) → ∀ b o, s₁.heap.get? b = some o → s₃.heap.get? b = some o :=
    fun s₃ hk b o e => hk b o (fun hm => by rcases List.mem_cons.mp hm with rfl | hm; exact Nat.lt_irrefl _ (Heap.lt_size e); cases hm) (Heap.get?_push_of_some _ e)
  refine wpAny_pyIter_list hl ?_
  refine comp_block_walkC (RR := fun acc C => compPost (model prog w) A E none Q acc C) (Walks.list hh s₁.heap.objs.size l (Nat.ne_of_lt hlt) vs.toArray) (by rw [List.size_toArray, sizeLine_eq]; omega) (fun _ => true) G hcell hkind hx ⟨⟨_, Heap.get?_push_size _ rfl, rfl, rfl⟩, hl.push _⟩ ?_ ⟨?_, ?_⟩ ?_
  · intro b hb
    show b < (s₁.heap.push _).objs.size
    rw [Heap.size_push]
    rcases List.mem_cons.mp hb with rfl | hb
    · exact Nat.lt_succ_self _
    · rcases List.mem_cons.mp hb with rfl | hb
      · exact Nat.lt_succ_of_lt hlt
      · cases hb
  · intro C i v s₃ m₃ E' hC hP hn hm hk _
    exact wpAny_pure ⟨rfl, _, _, rfl, fun _ _ e => e⟩
  · intro C i v s₃ m₃ E' hC hP hp hn hm hk _
    exact helt C v s₃ m₃ E' (by simpa using Array.mem_of_getElem? hP) hp hn hm (up s₃ hk)
  · intro D C h' tk m' ys vs' hD hC hDC hn hl' hpl hlen hP hF hk
    refine ⟨m', hn, fun h'' hs'' => ?_⟩
    have e : vs' = vs := by simpa using list_of_places hlen hP
    subst e
    have hfl : vs'.filter (fun (_ : Value) => true) = vs' := List.filter_eq_self.mpr fun _ _ => rfl
    rw [hfl] at hF
    have keep : ∀ b o, s₁.heap.get? b = some o → h''.get? b = some o := up { s₁ with heap := h'' } (fun b o hbf e => hs''.extBut b o (by rintro rfl; rw [hC] at e; cases e) (hk b o hbf e))
    have hD0 : ∀ b o, s₁.heap.get? b = some o → b ≠ D := fun b o e q => by rw [← q, Heap.get?_push_of_some _ e] at hD; cases hD
    obtain ⟨k, hk2⟩ := hpl.extBut hs''.extBut hDC
    refine hQ D ys.toList k h'' tk (F.keeps keep) ?_ (fun q hq => hD0 _ _ (N q hq).1) hF
    intro q hq
    rcases List.mem_cons.mp hq with rfl | hq
    · refine ⟨by rw [Array.toArray_toList]; exact hk2, ?_, ?_⟩
      · obtain ⟨oL, _, _, ho, _⟩ := F.ns
        exact fun e => hD0 _ _ ho e.symm
      · cases e : h₀.get? D with
        | none => rfl
        | some o' => exact absurd rfl (hD0 _ _ (F.keep _ _ e))
    · exact N.grown keep q hq
end
theorem compGI {h₀ : Heap} {L : Addr} {h : Heap} {El : (Value → Value → Prop) → List Value → Prop} {K : (Value → Value → Prop) → List Value → (Str → Option Value) → List (Addr × Obj) → Prop} (G : Value → Value → Prop) {l : Addr} {vs : List Value} {n : Nat} {m : Str → Option Value} {news : List (Addr × Obj)}
    (F : Fr h₀ L h m) (N : News h₀ L h news) (hm : (l, listOf vs.toArray n) ∈ news) (hl : vs.length ≤ 1000) (he : El G vs) (hk : K G vs m news) :
    ∃ (G : Value → Value → Prop) (l' : Addr) (vs : List Value) (n : Nat) (m : Str → Option Value) (news : List (Addr × Obj)), Value.ref l = .ref l' ∧ Fr h₀ L h m ∧ News h₀ L h news ∧ (l', listOf vs.toArray n) ∈ news ∧ vs.length ≤ 1000 ∧ El G vs ∧ K G vs m news :=
  ⟨G, l, vs, n, m, news, rfl, F, N, hm, hl, he, hk⟩
end Mine
end PartComps3

/- part W14 -/
section PartW14
open PySem PySem.W PyProof.Rows Mine
set_option Elab.async false
set_option maxRecDepth 100000
set_option maxHeartbeats 4000000
namespace Mine
def PJ (g LG LK : Addr) (og oG : Obj) (im im0 : List (Addr × Obj)) (m : Str → Option Value) (nw : List (Addr × Obj)) : Prop :=
  ∃ ps47 ps40 im' imt oK vK, nw = (47, tabObj ps47) :: (40, tabObj ps40) :: (LK, oK) :: (LG, oG) :: (g, og) :: im' ∧ TabOk 24 4 (Str.ofString "_digits2int.<locals>.inner") ps47 imt ∧ TabOk 9 4 (Str.ofString "_int2digits.<locals>.inner") ps40 imt ∧ (∀ p ∈ im, p ∈ im') ∧ oK.data = Data.cell vK ∧ (∀ p ∈ im', p.1 ≠ 47) ∧ (∀ p ∈ im', p.1 ≠ 40) ∧ (∀ p ∈ im', p.1 ≠ LK) ∧
    (∀ p ∈ imt, p ∈ im') ∧ (∀ p ∈ imt, p ∈ im0 ∨ ∀ q ∈ im, @LT.lt Nat _ q.1 p.1)
theorem PJ.out {g LG LK : Addr} {og oG : Obj} {im im0 : List (Addr × Obj)} {m : Str → Option Value} {nw : List (Addr × Obj)} {G : Prop} (h : PJ g LG LK og oG im im0 m nw)
    (y : ∀ ps47 ps40 im' imt oK vK, nw = (47, tabObj ps47) :: (40, tabObj ps40) :: (LK, oK) :: (LG, oG) :: (g, og) :: im' → TabOk 24 4 (Str.ofString "_digits2int.<locals>.inner") ps47 imt → TabOk 9 4 (Str.ofString "_int2digits.<locals>.inner") ps40 imt → (∀ p ∈ im, p ∈ im') → oK.data = Data.cell vK → (∀ p ∈ im', p.1 ≠ 47) → (∀ p ∈ im', p.1 ≠ 40) → (∀ p ∈ im', p.1 ≠ LK) →
      (∀ p ∈ imt, p ∈ im') → (∀ p ∈ imt, p ∈ im0 ∨ ∀ q ∈ im, @LT.lt Nat _ q.1 p.1) → G) : G := by
  obtain ⟨ps47, ps40, im', imt, oK, vK, e, q1, q2, q3, q4, q5, q6, q7, q8, q9⟩ := h
  exact y ps47 ps40 im' imt oK vK e q1 q2 q3 q4 q5 q6 q7 q8 q9
theorem PJ.mk {g LG LK : Addr} {og oG : Obj} {im im0 im' imt : List (Addr × Obj)} {m : Str → Option Value} {ps47 ps40 : Array Value} {oK : Obj} {vK : Option Value}
    (q1 : TabOk 24 4 (Str.ofString "_digits2int.<locals>.inner") ps47 imt) (q2 : TabOk 9 4 (Str.ofString "_int2digits.<locals>.inner") ps40 imt) (q3 : ∀ p ∈ im, p ∈ im') (q4 : oK.data = Data.cell vK) (q5 : ∀ p ∈ im', p.1 ≠ 47) (q6 : ∀ p ∈ im', p.1 ≠ 40) (q7 : ∀ p ∈ im', p.1 ≠ LK)
    (q8 : ∀ p ∈ imt, p ∈ im') (q9 : ∀ p ∈ imt, p ∈ im0 ∨ ∀ q ∈ im, @LT.lt Nat _ q.1 p.1) : PJ g LG LK og oG im im0 m ((47, tabObj ps47) :: (40, tabObj ps40) :: (LK, oK) :: (LG, oG) :: (g, og) :: im') :=
  ⟨ps47, ps40, im', imt, oK, vK, rfl, q1, q2, q3, q4, q5, q6, q7, q8, q9⟩
theorem N_pk {h₀ h : Heap} {L : Addr} {a b c d e : Addr × Obj} {im : List (Addr × Obj)} (N : News h₀ L h (a :: b :: c :: d :: e :: im)) : News h₀ L h (c :: d :: a :: b :: e :: im) := cb_drop N (by
  repeat' (first | refine sub_cons ?_ ?_ | exact .head _ | refine .tail _ ?_ | exact hp | intro p hp))
theorem N_v1 {h₀ h : Heap} {L : Addr} {d i a b k l g : Addr × Obj} {im : List (Addr × Obj)} (N : News h₀ L h (d :: i :: a :: b :: k :: l :: g :: im)) : News h₀ L h (a :: d :: i :: b :: k :: l :: g :: im) := cb_drop N (by
  repeat' (first | refine sub_cons ?_ ?_ | exact .head _ | refine .tail _ ?_ | exact hp | intro p hp))
theorem N_v2 {h₀ h : Heap} {L : Addr} {a c d i b k l g : Addr × Obj} {im : List (Addr × Obj)} (N : News h₀ L h (a :: c :: d :: i :: b :: k :: l :: g :: im)) : News h₀ L h (a :: b :: i :: k :: l :: g :: c :: im) := cb_drop N (by
  repeat' (first | refine sub_cons ?_ ?_ | exact .head _ | refine .tail _ ?_ | exact hp | intro p hp))
theorem N_v3 {h₀ h : Heap} {L : Addr} {a c i b k l g : Addr × Obj} {im : List (Addr × Obj)} (N : News h₀ L h (a :: b :: i :: k :: l :: g :: c :: im)) : News h₀ L h (b :: i :: a :: k :: l :: g :: c :: im) := cb_drop N (by
  repeat' (first | refine sub_cons ?_ ?_ | exact .head _ | refine .tail _ ?_ | exact hp | intro p hp))
theorem ints_rep (n : Nat) (t : Tok) : IntsAre (List.replicate n (Value.int 0 t)) ((List.replicate n 0).map Int.ofNat) := by
  induction n with
  | zero => exact .nil
  | succ n ih => exact .cons _ _ ih
theorem N_v4 {h₀ h : Heap} {L : Addr} {a b c d : Addr × Obj} {im : List (Addr × Obj)} (N : News h₀ L h (a :: b :: c :: d :: im)) : News h₀ L h im := cb_drop N fun p hp => .tail _ (.tail _ (.tail _ (.tail _ hp)))
theorem JEnd.introP {h₀ : Heap} {L I : Addr} {it : Obj} {J : (Str → Option Value) → List (Addr × Obj) → Prop} {s₁ : Shared} {h' : Heap} {tk : Nat} {m' : Str → Option Value} {d1 d2 d3 b c9 a k l g c8 : Addr × Obj} {im : List (Addr × Obj)} (F : Fr h₀ L h' m')
    (N : News h₀ L h' (d1 :: d2 :: d3 :: b :: c9 :: (I, it) :: a :: k :: l :: g :: c8 :: im)) (ho : ∀ p ∈ a :: b :: k :: l :: g :: c9 :: c8 :: im, p.1 ≠ I) (hj : J m' (a :: b :: k :: l :: g :: c9 :: c8 :: im)) : JEnd h₀ L I it J s₁ { s₁ with heap := h', toks := tk } :=
  JEnd.intro F N (by simp) (by
    repeat' (first | refine sub_cons ?_ ?_ | exact .head _ | refine .tail _ ?_ | exact hp | intro p hp)) ho hj
local macro_rules | `(tactic| k_ne) => `(tactic| (refine neN ?_; (try dsimp only); first | exact Hold.ne (by with_reducible assumption) | exact Hold.ne' (by with_reducible assumption) | omega))
local macro_rules | `(tactic| k_room) => `(tactic| ktr_room)
local macro_rules | `(tactic| k_units) => `(tactic| (ktr_units))
local macro_rules | `(tactic| k_all) => `(tactic| first | with_reducible assumption | assumption)
local macro_rules | `(tactic| walk_at "none") => `(tactic| fail "none")
local macro_rules | `(tactic| walk_at "pyIter ref") => `(tactic| ((with_reducible show wpAny _ _ (pyIter (Value.ref _)) (fun it s₂ => TurnsAt _ _ _ _ _ _ _ _ _ it s₂) _ _); refine Hold.out ?_))
local macro_rules | `(tactic| walk_at "eval ListComp") => `(tactic| (k_here; refine Hold.out ?_))
local macro_rules | `(tactic| walk_at "exec For") => `(tactic| (k_here; refine Hold.out ?_))
local macro_rules | `(tactic| walk_at "exec For Name Call cons nil") => `(tactic| (k_here; refine Hold.out ?_))
local macro_rules | `(tactic| walk_at "call ref") => `(tactic| (k_here; (with_reducible show wpAny _ _ (call (Value.ref 52) _ _) _ _ _); refine Hold.out ?_))
local macro_rules | `(tactic| walk_at "call ref") => `(tactic| (k_here; (with_reducible show wpAny _ _ (call (Value.ref 45) _ _) _ _ _); refine Hold.out ?_))
local macro_rules | `(tactic| walk_at "binaryOp Add ref ref") => `(tactic| (k_here; refine Hold.out ?_))
local macro_rules | `(tactic| walk_at "compareOp NotEq ref ref") => `(tactic| (k_here; refine Hold.out ?_))
local macro_rules | `(tactic| walk_at "compareOp Eq ref ref") => `(tactic| (k_here; refine Hold.out ?_))
local macro_rules | `(tactic| walk_at "binaryOp Mult ref int") => `(tactic| (k_here; refine Hold.out ?_))
local macro_rules | `(tactic| walk_at "binaryOp LShift int int") => `(tactic| (k_here; refine Hold.out ?_))
local macro_rules | `(tactic| walk_at "call builtin:sum") => `(tactic| (refine Hold.out ?_))
local macro_rules | `(tactic| walk_at "call builtin:len") => `(tactic| (k_here; refine Hold.out ?_))
local macro_rules | `(tactic| walk_at "subscriptTail Name Slice ref ref") => `(tactic| ((with_reducible show wpAny _ _ (subscriptTail _ _ (Value.ref _) (Value.ref _)) _ _ _); refine Hold.out ?_))
theorem packs_c : ∀ (w : World) (p : Program) (loose : List Str) (mean : ExcName → Option Value) (mg mb : Str → Option Value) (g : Addr) (vs : List Value) (nv : Nat) (figs : List Nat) (ps47 ps40 : Array Value) (im im0 : List (Addr × Obj)) (h0i : ∀ p ∈ im0, p ∈ im) (hi : IntsAre vs (figs.map Int.ofNat)) (hl : figs.length = 6) (hb : ∀ a ∈ figs, a < 8) (hg47 : Hold (@Ne Nat g 47)) (hg40 : Hold (@Ne Nat g 40)) (hi47 : ∀ p ∈ im, p.1 ≠ 47) (hi40 : ∀ p ∈ im, p.1 ≠ 40)
    (ht47 : TabOk 24 4 (Str.ofString "_digits2int.<locals>.inner") ps47 im0) (ht40 : TabOk 9 4 (Str.ofString "_int2digits.<locals>.inner") ps40 im0)
    (dp un : Nat) (gd : Option (List Code)) (cn : Str) (cs : Scope) (a : Addr) (ccd : Value) (cl : List (Str × Addr)) (outer : List Env) (A₀ : Around) (base h₀ : Heap) (L : Addr) (m : Str → Option Value) (s : Shared) (Q E : Value → Shared → Prop)
    (B : Below A₀ base outer h₀) (F : Fr h₀ L s.heap m) (X : (hd.heap_39 w.params).In h₀) (C47 : CodeHd base 51 47) (C40 : CodeHd base 44 40) (N : News h₀ L s.heap ((47, tabObj ps47) :: (40, tabObj ps40) :: (g, listOf vs.toArray nv) :: im)) (T : Top p loose mean mg mb h₀) (hcs : cs.kind = .function) (hdp : dp + 60 < recursionLimit) (hun : un + 300 < cLine)
    (hret : ∀ (t : Bool) (ps47' ps40' : Array Value) (im' imt : List (Addr × Obj)) (h' : Heap) (tk' : Nat), t = true → Fr h₀ L h' m → News h₀ L h' ((47, tabObj ps47') :: (40, tabObj ps40') :: (g, listOf vs.toArray nv) :: im') → TabOk 24 4 (Str.ofString "_digits2int.<locals>.inner") ps47' imt → TabOk 9 4 (Str.ofString "_int2digits.<locals>.inner") ps40' imt → (∀ p ∈ imt, p ∈ im') → (∀ p ∈ imt, p ∈ im0 ∨ ∀ q ∈ im, @LT.lt Nat _ q.1 p.1) → (∀ p ∈ im, p ∈ im') → (∀ p ∈ im', p.1 ≠ 47) → (∀ p ∈ im', p.1 ≠ 40) → Q (.bool t) { s with heap := h', toks := tk' }),
    wpAny (model PySem.Challenge.rw_pg0256_01.row.prog w) (ktrTop dp un gd cn cs L a ccd cl outer) (call (.ref 234) [.ref g]) Q E s := by
  w_top off
  k_fill
  intro w p loose mean mg mb g vs nv figs ps47 ps40 im im0 h0i hi hl hb hg47 hg40 hi47 hi40 ht47 ht40 dp un gd cn cs a ccd cl outer A₀ base h₀ L m s Q E B F X C47 C40 N T hcs hdp hun hret
  obtain ⟨ck, c2, c3, c4, c5⟩ := cs
  cases (show ck = .function from hcs)
  k_steps
  unfold Hold
  rename_i g1 L1 hA tkA FG1 F1 B1 X1 T1 lL oK oG dK dG N1
  replace dG : oG.data = Data.cell (some (Value.ref g)) := dG
  refine cut4 lL ?_
  intro f1 f2 f3 f4
  clear lL
  refine For_turns (by k_asm) ?_ (fun _ => rfl) (by passes_own)
  k_steps
  unfold Hold
  rename Fr _ _ _ _ => F3
  rename News _ _ _ _ => N3
  (rename IsRange _ _ _ _ _ _ _ _ => rgX)
  replace N3 := N_pk N3
  refine' iter_rangeJ (n := 7) (fun _ => PJ g (L1 + 1) (L1 + 1 + 1) (listOf vs.toArray nv) oG im im0) ?hh rgX ?sm ?sz F3 N3 ?j0 ?turn ?done
  case hh => rfl
  case sm => decide
  case sz => decide
  case j0 =>
    exact PJ.mk ht47 ht40 (fun _ h => h) dK hi47 hi40 (ne_above2 f4) h0i (fun p hp => .inl hp)
  case turn =>
    clear F3 N3 rgX dK ht47 ht40
    intro i t m₁ nw I ito h tk hi7 hz9
    intro hoI F4 N4
    refine genT ?_
    intro P1 hP1
    refine PJ.out hz9 ?_
    intro ps47 ps40 im' imt oK vK e9 ht47 ht40 q1 dK q2 q3 q4 q5 q6
    rw [e9] at hoI N4
    clear hz9 e9
    have hoI0 := hoI
    refine offs5 hoI ?_
    intro i1 i2 i3 i4 i5 i6
    clear hoI
    k_steps
    refine Hold.into ?_
    refine' comp_R (fun j => figs.getD j 0 * 2 ^ ((3 + i) * j)) ?F0 rfl ?clos ?cell rfl ?names rfl ?_ (fun _ => rfl)
    case F0 => k_asm
    case clos => with_unfolding_all rfl
    case cell => decide
    case names => decide
    k_steps
    refine Hold.into ?_
    (rename IsRange _ _ _ _ _ _ _ _ => rgX)
    (with_reducible rename Fr g1 _ _ _ => F7)
    (with_reducible rename News g1 _ _ _ => N7)
    have e0 : (0 : Int) + (i : Int) = (i : Int) := by omega
    rw [e0] at rgX
    refine compRI (n := i) rgX (small_one (by omega) (by omega) (by omega) (by omega)) (rangeSize_nat _ _) (by omega) F7 N7 ?_ ?_
    · intro C j tj s₂ m₂ E' hj hn hm hk9
      k_steps
      refine Hold.into ?_
      have ej : ((3 : Int) + (0 + (i : Int))) * (j : Int) = (((3 + i) * j : Nat) : Int) := by rw [e0]; push_cast; rfl
      have ef : (List.map Int.ofNat figs).getD ((j : Int)).toNat 0 = ((figs.getD j 0 : Nat) : Int) := by rw [Int.toNat_natCast, getD_nat]
      have hf8 : figs.getD j 0 < 2 ^ 3 := by
        have hj6 : j < figs.length := by omega
        rw [List.getD_eq_getElem?_getD, List.getElem?_eq_getElem hj6]
        exact hb _ (List.getElem_mem hj6)
      have hk54 : (3 + i) * j ≤ 9 * 6 := Nat.mul_le_mul (by omega) (by omega)
      rw [ej, ef]
      k_dflt (refine' lshift_int ?n0 ?sz ?_)
      case n0 => omega
      case sz => exact bits_fit2 _ _ 3 hf8 (by omega) (by omega)
      have ev : ((figs.getD j 0 : Nat) : Int) * 2 ^ ((((3 + i) * j : Nat) : Int)).toNat = ((figs.getD j 0 * 2 ^ ((3 + i) * j) : Nat) : Int) := by rw [Int.toNat_natCast]; push_cast; rfl
      rw [ev]
      k_steps
      exact (show _ ∧ _ from ⟨⟨_, rfl⟩, _, _, rfl, fun _ _ e => e⟩)
    intro D1 ys1 jy1 h6 tk6 F9 N9 hD1 hS1
    clear F7 N7 rgX
    k_steps
    refine Hold.into ?_
    have hpk : ((List.range i).map fun j => figs.getD j 0 * 2 ^ ((3 + i) * j)).sum = valD (3 + i) (figs.take i) := valD_sum (3 + i) figs i
    have hft : ∀ a ∈ figs.take i, a < 2 ^ (3 + i) := fun a ha => Nat.lt_of_lt_of_le (hb a (List.mem_of_mem_take ha)) (show 2 ^ 3 ≤ 2 ^ (3 + i) from Nat.pow_le_pow_right (by decide) (by omega))
    have hfl : (figs.take i).length = i := by rw [List.length_take]; omega
    have hvlt : valD (3 + i) (figs.take i) < 2 ^ 54 := by
      have := valD_lt (3 + i) _ hft
      rw [hfl] at this
      exact Nat.lt_of_lt_of_le this (show 2 ^ ((3 + i) * i) ≤ 2 ^ 54 from Nat.pow_le_pow_right (by decide) (Nat.mul_le_mul (show 3 + i ≤ 9 by omega) (show i ≤ 6 by omega)))
    refine sum_N (hh := rfl) F9 N9 (.head _) hS1 (by rw [hpk]; omega) ?_
    rw [hpk]
    intro h7 t7 tk7 F8 N8
    replace N8 := cb_drop N8 (fun p hp => .tail _ hp)
    clear F9 N9 hD1 hS1
    k_sweep
    k_steps
    refine Hold.into ?_
    (with_reducible rename Fr g1 _ _ _ => F7)
    (with_reducible rename News g1 _ _ _ => N7)
    have hvl6 : vs.length ≤ 6 := by rw [hi.length, List.length_map, hl]; exact Nat.le_refl _
    have e1 : ((0 : Int) + (i : Int)).toNat = i := by omega
    refine slice_toN (ns := figs) F7 N7 (by k_mem) hi (by omega) (by omega) ?_
    rw [e1]
    intro D2 ws2 h8 F8 N8 l2 hS2
    clear F7 N7
    k_lt l2
    k_sweep
    k_steps
    refine Hold.into ?_
    have en : (3 : Int) + (0 + (i : Int)) = ((3 + i : Nat) : Int) := by omega
    rw [en]
    (with_reducible rename News g1 _ _ _ => N7)
    have N9 := N_v1 N7
    clear N7
    k_dflt (refine' val_c _ _ _ _ _ _ D2 ws2 0 (figs.take i) (3 + i) _ ps47 _ imt (fun p hp => .tail _ (.tail _ (.tail _ (.tail _ (.tail _ (q5 p hp)))))) hS2 (by omega) hft (by omega) ?hin (Nat.ne_of_gt l2.2.1) ht47 _ _ _ _ _ _ _ _ _ _ _ _ _ _ _ _ _ ?kB ?kF ?kX C47 N9 ?kT ?kk ?kd ?ku ?_)
    case hin =>
      exact off_cons (Ne.symm i1) (off_cons ((show (40 : Nat) ≠ 47 by decide)) (off_cons (Nat.ne_of_gt (Nat.lt_succ_of_lt (Nat.lt_succ_of_lt f1))) (off_cons (Nat.ne_of_gt (Nat.lt_succ_of_lt f1)) (off_cons (hg47) (q2)))))
    case kB => k_asm
    case kF => k_asm
    case kX => k_asm
    case kT => k_asm
    case kk => exact rfl
    case kd => ktr_room
    case ku => ktr_units
    intro t8 ps47' c8 oc8 h9 tk9 F9 N10 ht47' hor8 z1 z2
    have v1 : Hold (@Ne Nat c8 I) := hor8.elim (fun h => i6 _ (q5 _ h)) (fun h => Nat.ne_of_gt (h (I, _) (.head _)))
    have v2 : Hold (@Ne Nat c8 40) := hor8.elim (fun h => q3 _ (q5 _ h)) (fun h => Nat.ne_of_gt (h (40, _) (.tail _ (.head _))))
    have v3 : Hold (@Ne Nat c8 (L1 + 1 + 1)) := hor8.elim (fun h => q4 _ (q5 _ h)) (fun h => Nat.ne_of_gt (h (L1 + 1 + 1, _) (.tail _ (.tail _ (.head _)))))
    have v4 : Hold (@Ne Nat c8 47) := z1
    have v5 : (c8, oc8) ∈ im0 ∨ ∀ q ∈ im, @LT.lt Nat _ q.1 c8 := hor8.elim (fun h => q6 _ h) (fun h => .inr fun q hq => h q (.tail _ (.tail _ (.tail _ (.tail _ (.tail _ (q1 q hq)))))))
    have N11 := N_v2 N10
    clear N10 z1 z2 hor8
    k_sweep
    k_steps
    · (with_reducible rename @Ne Int _ _ => hne9)
      exact absurd rfl hne9
    refine Hold.into ?_
    rw [en]
    (with_reducible rename News g1 _ _ _ => N7)
    have N9 := N_v3 N7
    clear N7
    obtain ⟨hdl, hdr, hdz⟩ := digs_facts (show 3 ≤ 3 + i by omega) (figs.take i) hft
    rw [hfl] at hdl hdr
    k_dflt (refine' int2_c _ _ _ _ _ _ (valD (3 + i) (figs.take i)) (3 + i) _ _ ps40 _ imt (fun p hp => .tail _ (.tail _ (.tail _ (.tail _ (.tail _ (.tail _ (q5 p hp))))))) (by omega) (by omega) (nd (3 + i) (valD (3 + i) (figs.take i))) (nd_fdiv (by omega)) (by omega) ?hin2 ht40 _ _ _ _ _ _ _ _ _ _ _ _ _ _ _ _ _ ?kB ?kF ?kX C40 N9 ?kT ?kk ?kd ?ku ?_)
    case hin2 =>
      exact off_cons (Ne.symm i2) (off_cons ((show (47 : Nat) ≠ 40 by decide)) (off_cons (Nat.ne_of_gt (Nat.lt_succ_of_lt (Nat.lt_succ_of_lt f2))) (off_cons (Nat.ne_of_gt (Nat.lt_succ_of_lt f2)) (off_cons (hg40) (off_cons (v2) (q3))))))
    case kB => k_asm
    case kF => k_asm
    case kX => k_asm
    case kT => k_asm
    case kk => exact rfl
    case kd => ktr_room
    case ku => ktr_units
    intro D9 vs9 nv9 ps40' c9 oc9 h10 tk10 F10 N12 hS9 ht40' hor9 z3 z4 z5 z6
    have u1 : Hold (@Ne Nat c9 I) := hor9.elim (fun h => i6 _ (q5 _ h)) (fun h => Nat.ne_of_gt (h (I, _) (.head _)))
    have u2 : Hold (@Ne Nat c9 47) := hor9.elim (fun h => q2 _ (q5 _ h)) (fun h => Nat.ne_of_gt (h (47, _) (.tail _ (.head _))))
    have u3 : Hold (@Ne Nat c9 (L1 + 1 + 1)) := hor9.elim (fun h => q4 _ (q5 _ h)) (fun h => Nat.ne_of_gt (h (L1 + 1 + 1, _) (.tail _ (.tail _ (.head _)))))
    have u4 : Hold (@Ne Nat c9 40) := z5
    have u5 : (c9, oc9) ∈ im0 ∨ ∀ q ∈ im, @LT.lt Nat _ q.1 c9 := hor9.elim (fun h => q6 _ h) (fun h => .inr fun q hq => h q (.tail _ (.tail _ (.tail _ (.tail _ (.tail _ (.tail _ (q1 q hq))))))))
    clear hor9 z5 N9
    have hlD : vs9.length = nd (3 + i) (valD (3 + i) (figs.take i)) := by rw [hS9.length, List.length_map]; unfold digsOf; rw [List.length_map, List.length_range]
    k_sweep
    k_steps
    refine Hold.into ?_
    generalize hdd : nd (3 + i) (valD (3 + i) (figs.take i)) = dd at hdl hdr hdz hS9 hlD
    k_dflt (refine' kun_lenL (k := dd) (News.isList (by k_asm) (by k_mem)) ?k2 ?k3 ?_)
    case k2 => simp [hlD]
    case k3 => exact (by omega)
    k_steps
    refine Hold.into ?_
    have ex : ((0 : Int) + (i : Int) - (dd : Int)).toNat = i - dd := by omega
    k_dflt (refine' mul_L1 ?nF ?nN ?na ?n0 ?n1 ?_)
    case nF => k_asm
    case nN => k_asm
    case na => k_mem
    case n0 => omega
    case n1 => omega
    rw [ex]
    intro D10 h11 F11 N13 l10
    k_lt l10
    k_sweep
    k_steps
    refine Hold.into ?_
    k_dflt (refine' add_LL ?oF ?oN ?oa ?ob ?oz ?_)
    case oF => k_asm
    case oN => k_asm
    case oa => k_mem
    case ob => k_mem
    case oz => rw [hlD, List.length_replicate]; omega
    intro D11 h12 F12 N14 l11
    k_lt l11
    have hS11 : ∀ tq, IntsAre (vs9 ++ List.replicate (i - dd) (Value.int 0 tq)) ((figs.take i).map Int.ofNat) := by
      intro tq
      rw [← hdr, List.map_append]
      exact IntsAre.append hS9 (ints_rep _ _)
    k_sweep
    k_steps
    refine Hold.into ?_
    (with_reducible rename Fr g1 _ _ _ => F7)
    (with_reducible rename News g1 _ _ _ => N7)
    refine slice_toN (ns := figs) F7 N7 (by k_mem) hi (by omega) (by omega) ?_
    rw [e1]
    intro D12 ws12 h13 F13 N15 l12 hS12
    clear F7 N7
    k_lt l12
    k_sweep
    k_steps
    refine Hold.into ?_
    (with_reducible rename News g1 _ _ _ => N7)
    refine ne_intsK (News.isList N7 (by k_mem)) (hS11 _) (News.isList N7 (by k_mem)) hS12 (by ktr_units) ?_
    rw [decide_eq_true rfl]
    k_steps
    refine Hold.into ?_
    have N16 := N_v4 N7
    clear N7
    (with_reducible rename Fr g1 _ _ _ => F7)
    have hdlen : (digsOf (3 + i) (valD (3 + i) (figs.take i)) dd).length = dd := by unfold digsOf; rw [List.length_map, List.length_range]
    refine slice_negN (ns := digsOf (3 + i) (valD (3 + i) (figs.take i)) dd) F7 N16 (.head _) hS9 (by omega) (by omega) ?_
    rw [hdlen]
    intro D13 ws13 h14 F14 N17 l13 hS13
    clear F7 N16
    k_lt l13
    k_sweep
    k_steps
    refine Hold.into ?_
    (with_reducible rename News g1 _ _ _ => N7)
    have hz0 : ∀ tq, IntsAre [Value.int 0 tq] [0] := fun tq => .cons _ _ .nil
    refine eq_intsK (News.isList N7 (by k_mem)) hS13 (News.isList N7 (by k_mem)) (hz0 _) (by ktr_units) ?_
    have hdec : decide (List.map Int.ofNat ((digsOf (3 + i) (valD (3 + i) (figs.take i)) dd).drop (dd - Int.toNat (- -1))) = [0]) = false := by
      rw [decide_eq_false_iff_not]
      intro e
      refine hdz ?_
      have e1 : Int.toNat (- -1) = 1 := by decide
      rw [e1] at e
      cases hq : (digsOf (3 + i) (valD (3 + i) (figs.take i)) dd).drop (dd - 1) with
      | nil => rw [hq] at e; cases e
      | cons a r =>
        rw [hq, List.map_cons] at e
        injection e with ea er
        have h1 : a = 0 := Int.ofNat.inj ea
        have h2 : r = [] := by simpa using er
        rw [h1, h2]
    rw [hdec]
    k_steps
    (with_reducible rename Fr g1 _ _ _ => F15)
    (with_reducible rename News g1 _ _ _ => N18)
    refine hP1 _ _ ?_
    show JEnd g1 _ I ito _ _ _
    refine JEnd.introP F15 N18 ?ho (PJ.mk (imt := (c9, oc9) :: (c8, oc8) :: imt) (ht47'.mono (fun p hp => .tail _ hp)) (ht40'.mono ?hs40) (fun p hp => .tail _ (.tail _ (q1 p hp))) (by assumption) ?w1 ?w2 ?w3 ?w4 ?w5)
    case ho =>
      exact off_cons (i1) (off_cons (i2) (off_cons (i3) (off_cons (i4) (off_cons (i5) (off_cons (u1) (off_cons (v1) (i6)))))))
    case hs40 => exact sub_cons (.head _) fun p hp => .tail _ (.tail _ hp)
    case w1 =>
      exact off_cons (u2) (off_cons (v4) (q2))
    case w2 =>
      exact off_cons (u4) (off_cons (v2) (q3))
    case w3 =>
      exact off_cons (u3) (off_cons (v3) (q4))
    case w4 => exact sub_cons (.head _) (sub_cons (.tail _ (.head _)) fun p hp => .tail _ (.tail _ (q5 p hp)))
    case w5 =>
      exact List.forall_mem_cons.mpr ⟨u5, List.forall_mem_cons.mpr ⟨v5, q6⟩⟩
  case done =>
    intro m₁ nw h tk hz9
    intro F4 N4
    refine PJ.out hz9 ?_
    intro ps47 ps40 im' imt oK vK e9 ht47 ht40 q1 dK q2 q3 q4 q5 q6
    rw [e9] at N4
    clear hz9 e9
    k_steps
    (with_reducible rename Fr h₀ _ _ _ => F6)
    (with_reducible rename News h₀ _ _ _ => N6)
    refine hret _ ps47 ps40 im' imt _ _ rfl F6 (cb_drop N6 ?_) ht47 ht40 q5 q6 q1 q2 q3
    repeat' (first | refine sub_cons ?_ ?_ | exact .head _ | refine .tail _ ?_ | exact hp | intro p hp)
end Mine
end PartW14

/- part PT -/
section PartPT
open PySem PySem.W PyProof.Rows
set_option maxRecDepth 100000
namespace Mine
structure EIn (left code : List Nat) : Prop where
  nodup : left.Nodup
  len : left.length = code.length + 2
  sub : ∀ c ∈ code, c ∈ left
theorem EIn.free {left code : List Nat} (h : EIn left code) : freeOf left code ≠ [] := free_ne h.nodup (by rw [h.len]; omega)
theorem EIn.leaf {left code : List Nat} (h : EIn left code) : leafOf left code ∈ left ∧ leafOf left code ∉ code := leaf_spec h.free
theorem EIn.next {left cs : List Nat} {c : Nat} (h : EIn left (c :: cs)) : EIn (left.erase (leafOf left (c :: cs))) cs ∧ c ∈ left.erase (leafOf left (c :: cs)) := by
  obtain ⟨h1, h2⟩ := h.leaf
  have key : ∀ a, a ∈ c :: cs → a ∈ left.erase (leafOf left (c :: cs)) := fun a ha =>
    (List.mem_erase_of_ne (fun e => h2 (by rw [← e]; exact ha))).mpr (h.sub a ha)
  refine ⟨⟨h.nodup.erase _, ?_, fun a ha => key a (List.mem_cons_of_mem _ ha)⟩, key c (List.mem_cons_self ..)⟩
  rw [List.length_erase_of_mem h1, h.len, List.length_cons]
  omega
theorem edges_len : ∀ (code left : List Nat), (edgesF left code).length = code.length + 1
  | [], _ => rfl
  | c :: cs, left => by
    rw [edgesF, List.length_cons, edges_len cs, List.length_cons]
theorem two_left {left : List Nat} (h : left.length = 2) : ∃ a b, left = [a, b] := by
  match left, h with
  | [a, b], _ => exact ⟨a, b, rfl⟩
theorem edges_in : ∀ (code left : List Nat), EIn left code → ∀ e ∈ edgesF left code, e.1 ∈ left ∧ e.2 ∈ left
  | [], left, h, e, he => by
    obtain ⟨a, b, rfl⟩ := two_left h.len
    have : e = (a, b) := by simpa [edgesF] using he
    subst this
    simp
  | c :: cs, left, h, e, he => by
    rw [edgesF] at he
    rcases List.mem_cons.mp he with rfl | he
    · exact ⟨h.leaf.1, h.sub c (List.mem_cons_self ..)⟩
    · obtain ⟨h1, h2⟩ := edges_in cs _ h.next.1 e he
      exact ⟨List.mem_of_mem_erase h1, List.mem_of_mem_erase h2⟩
/-- a set closed under the edges holds all that is left or none of it -/
theorem edges_conn (S : Nat → Prop) : ∀ (code left : List Nat), EIn left code → (∀ e ∈ edgesF left code, S e.1 ↔ S e.2) → (∀ a ∈ left, S a) ∨ (∀ a ∈ left, ¬ S a)
  | [], left, h, hS => by
    obtain ⟨a, b, rfl⟩ := two_left h.len
    have hab : S a ↔ S b := hS (a, b) (by simp [edgesF])
    by_cases ha : S a
    · left; intro x hx; simp at hx; rcases hx with rfl | rfl
      · exact ha
      · exact hab.mp ha
    · right; intro x hx; simp at hx; rcases hx with rfl | rfl
      · exact ha
      · exact fun hb => ha (hab.mpr hb)
  | c :: cs, left, h, hS => by
    rw [edgesF] at hS
    obtain ⟨hn, hc⟩ := h.next
    have h0 : S (leafOf left (c :: cs)) ↔ S c := hS _ (List.mem_cons_self ..)
    have hmem : ∀ a ∈ left, a = leafOf left (c :: cs) ∨ a ∈ left.erase (leafOf left (c :: cs)) := fun a ha => by
      by_cases e : a = leafOf left (c :: cs)
      · exact .inl e
      · exact .inr ((List.mem_erase_of_ne e).mpr ha)
    rcases edges_conn S cs _ hn (fun e he => hS e (List.mem_cons_of_mem _ he)) with h1 | h1
    · left
      intro a ha
      rcases hmem a ha with rfl | ha
      · exact h0.mpr (h1 c hc)
      · exact h1 a ha
    · right
      intro a ha
      rcases hmem a ha with rfl | ha
      · exact fun hs => h1 c hc (h0.mp hs)
      · exact h1 a ha
theorem visit_pre {step : Nat} {st : HS} {e : Nat × Nat} : ∃ r, (visitF step st e).order = st.order ++ r := by
  unfold visitF
  split
  · exact ⟨_, rfl⟩
  · exact ⟨[], (List.append_nil _).symm⟩
theorem visits_pre {step : Nat} : ∀ (l : List (Nat × Nat)) (st : HS), ∃ r, (l.foldl (visitF step) st).order = st.order ++ r
  | [], st => ⟨[], (List.append_nil _).symm⟩
  | e :: l, st => by
    obtain ⟨r1, h1⟩ := visit_pre (step := step) (st := st) (e := e)
    obtain ⟨r2, h2⟩ := visits_pre l (visitF step st e)
    exact ⟨r1 ++ r2, by rw [List.foldl_cons, h2, h1, List.append_assoc]⟩
theorem getD_pre {l r : List Nat} {j : Nat} (h : j < l.length) : (l ++ r).getD j 0 = l.getD j 0 := by
  rw [List.getD_eq_getElem?_getD, List.getD_eq_getElem?_getD, List.getElem?_append_left h]
theorem visits_closed {step : Nat} : ∀ (l : List (Nat × Nat)) (st : HS), step < st.order.length → ∀ e ∈ l, e.1 = st.order.getD step 0 → e.2 ∈ (l.foldl (visitF step) st).order
  | [], _, _, e, he, _ => nomatch he
  | d :: l, st, hs, e, he, h1 => by
    obtain ⟨r2, h2⟩ := visits_pre (step := step) l (visitF step st d)
    obtain ⟨r1, hr1⟩ := visit_pre (step := step) (st := st) (e := d)
    rw [List.foldl_cons]
    rcases List.mem_cons.mp he with rfl | he
    · rw [h2]
      refine List.mem_append_left _ ?_
      by_cases hm : e.2 ∈ st.order
      · rw [hr1]; exact List.mem_append_left _ hm
      · rw [visit_go h1 hm]
        exact List.mem_append_right _ (List.mem_singleton.mpr rfl)
    · refine visits_closed l (visitF step st d) (Nat.lt_of_lt_of_le hs visit_len) e he ?_
      rw [h1, hr1, getD_pre hs]
theorem hang_pre (es : List (Nat × Nat)) (root : Nat) : ∀ (n k : Nat), ∃ r, (hangN es root (n + k)).order = (hangN es root n).order ++ r
  | n, 0 => ⟨[], (List.append_nil _).symm⟩
  | n, k + 1 => by
    obtain ⟨r1, h1⟩ := hang_pre es root n k
    obtain ⟨r2, h2⟩ := visits_pre (step := n + k) (bothOf es) (hangN es root (n + k))
    refine ⟨r1 ++ r2, ?_⟩
    show (hangN es root ((n + k) + 1)).order = _
    rw [hangN_succ, h2, h1, List.append_assoc]
theorem hang_grow {es : List (Nat × Nat)} {root : Nat} (hroot : root < 8) (hb : ∀ a ∈ es, a.1 < 8 ∧ a.2 < 8)
    (hc : ∀ S : Nat → Prop, (∀ e ∈ es, S e.1 ↔ S e.2) → (∀ a ∈ List.range 8, S a) ∨ (∀ a ∈ List.range 8, ¬ S a)) : ∀ i, i < 8 → i < (hangN es root i).order.length := by
  intro i
  induction i using Nat.strongRecOn with
  | _ i ih =>
    intro hi
    have hinv := hang_inv hroot hb i fun j hj => ih j hj (by omega)
    by_cases hlt : i < (hangN es root i).order.length
    · exact hlt
    · exfalso
      have hclosed : ∀ j, j < i → ∀ e ∈ bothOf es, e.1 = (hangN es root i).order.getD j 0 → e.2 ∈ (hangN es root i).order := by
        intro j hj e he h1
        have hjl := ih j hj (by omega)
        obtain ⟨k, rfl⟩ : ∃ k, i = (j + 1) + k := ⟨i - (j + 1), by omega⟩
        obtain ⟨r, hr⟩ := hang_pre es root (j + 1) k
        obtain ⟨r0, hr0⟩ := visits_pre (step := j) (bothOf es) (hangN es root j)
        rw [hr]
        refine List.mem_append_left _ ?_
        rw [hangN_succ]
        refine visits_closed (bothOf es) _ hjl e he ?_
        rw [h1, hr, hangN_succ, hr0, List.append_assoc, getD_pre hjl]
      have hS : ∀ v w, (v, w) ∈ bothOf es → v ∈ (hangN es root i).order → w ∈ (hangN es root i).order := by
        intro v w hvw hv
        obtain ⟨j, hj, hjv⟩ := List.mem_iff_getElem.mp hv
        refine hclosed j (by omega) (v, w) hvw ?_
        rw [List.getD_eq_getElem?_getD, List.getElem?_eq_getElem hj]
        exact hjv.symm
      have hroot0 : root ∈ (hangN es root i).order := by
        obtain ⟨r, hr⟩ := hang_pre es root 0 i
        rw [Nat.zero_add] at hr
        rw [hr]
        exact List.mem_append_left _ (List.mem_singleton.mpr rfl)
      rcases hc (fun v => v ∈ (hangN es root i).order) (fun e he => ⟨fun h => hS _ _ (List.mem_append_left _ he) h, fun h => hS _ _ (List.mem_append_right _ (List.mem_map.mpr ⟨e, he, rfl⟩)) h⟩) with h | h
      · have := nodup_sub_len List.nodup_range h
        rw [List.length_range] at this
        omega
      · exact h root (List.mem_range.mpr hroot) hroot0
end Mine
end PartPT

/- part PU -/
section PartPU
open PySem PySem.W PyProof.Rows
set_option maxRecDepth 100000
namespace Mine
def nrm (e : Nat × Nat) : Nat × Nat := if e.1 ≤ e.2 then e else (e.2, e.1)
theorem nrm_swap (a b : Nat) : nrm (a, b) = nrm (b, a) := by
  unfold nrm
  by_cases h : a ≤ b
  · by_cases h2 : b ≤ a
    · have : a = b := by omega
      subst this; rfl
    · simp [h, h2]
  · have h2 : b ≤ a := by omega
    simp [h, h2]
theorem nrm_inj {a b c d : Nat} (h : nrm (a, b) = nrm (c, d)) : (a = c ∧ b = d) ∨ (a = d ∧ b = c) := by
  unfold nrm at h
  by_cases h1 : a ≤ b <;> by_cases h2 : c ≤ d <;> simp [h1, h2] at h <;> omega
def rk (r : Str × Str) : Nat × Nat := nrm (lastN r.1, lastN r.2)
def ek (e : Nat × Nat) : Nat × Nat := nrm (97 + e.1, 97 + e.2)
theorem perm_of_nodup {l m : List (Nat × Nat)} (h : l.Nodup) (hs : ∀ a ∈ l, a ∈ m) (hl : m.length ≤ l.length) : l.Perm m := by
  induction l generalizing m with
  | nil =>
    have : m = [] := List.eq_nil_of_length_eq_zero (Nat.le_zero.mp hl)
    rw [this]
  | cons a l ih =>
    rw [List.nodup_cons] at h
    have ha := hs a (List.mem_cons_self ..)
    have hp := List.perm_cons_erase ha
    refine (List.Perm.cons a (ih h.2 (fun b hb => ?_) ?_)).trans hp.symm
    · exact (List.mem_erase_of_ne (fun e => h.1 (by rw [← e]; exact hb))).mpr (hs b (List.mem_cons_of_mem _ hb))
    · rw [List.length_erase_of_mem ha]
      rw [List.length_cons] at hl
      omega
theorem lastN_path {p : Str} {i v : Nat} (h : PathOk p i v) : lastN p = 97 + v := by
  obtain ⟨_, q, e, _⟩ := h
  unfold lastN
  rw [e]
  simp
theorem lastN_letter (p : Str) (v : Nat) : lastN (p ++ dot ++ letter v) = 97 + v := by
  unfold lastN
  simp only [Str.cps_append, Array.toList_append]
  simp [letter]
structure HKey (es : List (Nat × Nat)) (st : HS) : Prop where
  nodup : (st.rows.map rk).Nodup
  sub : ∀ r ∈ st.rows, rk r ∈ es.map ek
  ends : ∀ r ∈ st.rows, ∃ a b, a ∈ st.order ∧ b ∈ st.order ∧ lastN r.1 = 97 + a ∧ lastN r.2 = 97 + b
theorem HKey.visit {es : List (Nat × Nat)} {st : HS} (h : HKey es st) (hi : HInv st) {step : Nat} (hs : step < st.order.length) {e : Nat × Nat} (he : e ∈ bothOf es) : HKey es (visitF step st e) := by
  by_cases hc : e.1 = st.order.getD step 0 ∧ e.2 ∉ st.order
  · obtain ⟨h1, h2⟩ := hc
    rw [visit_go h1 h2]
    obtain ⟨v, hv⟩ : ∃ v, st.order[step]? = some v := ⟨_, List.getElem?_eq_getElem hs⟩
    obtain ⟨p, hp⟩ : ∃ p, st.ps[step]? = some p := ⟨_, List.getElem?_eq_getElem (by rw [hi.len]; exact hs)⟩
    have hat : st.at step = p := by unfold HS.at; rw [List.getD_eq_getElem?_getD, hp]; rfl
    have hv1 : e.1 = v := by rw [h1, List.getD_eq_getElem?_getD, hv]; rfl
    have hl1 : lastN (st.at step) = 97 + e.1 := by rw [hat, lastN_path (hi.paths step p v hp hv), hv1]
    have hl2 := lastN_letter (st.at step) e.2
    have hm1 : e.1 ∈ st.order := by rw [hv1]; exact List.mem_of_getElem? hv
    have hkey : rk (st.at step, st.at step ++ dot ++ letter e.2) = nrm (97 + e.1, 97 + e.2) := by
      unfold rk
      dsimp only
      rw [hl1, hl2]
    refine ⟨?_, ?_, ?_⟩
    · show ((st.rows ++ [(st.at step, st.at step ++ dot ++ letter e.2)]).map rk).Nodup
      rw [List.map_append, List.nodup_append]
      refine ⟨h.nodup, by simp, ?_⟩
      intro a ha b hb
      rw [List.map_cons, List.map_nil, List.mem_singleton] at hb
      obtain ⟨r, hr, rfl⟩ := List.mem_map.mp ha
      obtain ⟨x, y, hx, hy, hx1, hy1⟩ := h.ends r hr
      rw [hb, hkey]
      intro e9
      unfold rk at e9
      rw [hx1, hy1] at e9
      rcases nrm_inj e9 with ⟨_, h9⟩ | ⟨h9, _⟩
      · have : y = e.2 := by omega
        exact h2 (this ▸ hy)
      · have : x = e.2 := by omega
        exact h2 (this ▸ hx)
    · intro r hr
      rcases List.mem_append.mp hr with hr | hr
      · exact h.sub r hr
      · rw [List.mem_singleton.mp hr, hkey]
        rcases List.mem_append.mp he with he | he
        · exact List.mem_map.mpr ⟨e, he, rfl⟩
        · obtain ⟨d, hd, rfl⟩ := List.mem_map.mp he
          exact List.mem_map.mpr ⟨d, hd, nrm_swap _ _⟩
    · intro r hr
      rcases List.mem_append.mp hr with hr | hr
      · obtain ⟨a, b, ha, hb, h3, h4⟩ := h.ends r hr
        exact ⟨a, b, List.mem_append_left _ ha, List.mem_append_left _ hb, h3, h4⟩
      · rw [List.mem_singleton.mp hr]
        exact ⟨e.1, e.2, List.mem_append_left _ hm1, List.mem_append_right _ (List.mem_singleton.mpr rfl), hl1, hl2⟩
  · rw [visit_stay hc]
    exact h
theorem visits_key {es : List (Nat × Nat)} {step : Nat} : ∀ (l : List (Nat × Nat)) (st : HS), HKey es st → HInv st → step < st.order.length → (∀ e ∈ l, e ∈ bothOf es ∧ e.2 < 8) → HKey es (l.foldl (visitF step) st)
  | [], _, h, _, _, _ => h
  | e :: l, st, h, hi, hs, he => by
    have h0 := he e (List.mem_cons_self ..)
    exact visits_key l _ (h.visit hi hs h0.1) (hi.visit hs h0.2) (Nat.lt_of_lt_of_le hs visit_len) fun d hd => he d (List.mem_cons_of_mem _ hd)
theorem hang_key {es : List (Nat × Nat)} {root : Nat} (hr : root < 8) (hb : ∀ a ∈ es, a.1 < 8 ∧ a.2 < 8) : ∀ n, (∀ i, i < n → i < (hangN es root i).order.length) → HKey es (hangN es root n)
  | 0, _ => ⟨List.nodup_nil, fun r hr => (by cases hr), fun r hr => (by cases hr)⟩
  | n + 1, hg => by
    rw [hangN_succ]
    exact visits_key _ _ (hang_key hr hb n fun i hi => hg i (Nat.lt_succ_of_lt hi)) (hang_inv hr hb n fun i hi => hg i (Nat.lt_succ_of_lt hi)) (hg n (Nat.lt_succ_self _)) fun e he => ⟨he, (both_small hb e he).2⟩
theorem hang_perm {es : List (Nat × Nat)} {root : Nat} (hr : root < 8) (hb : ∀ a ∈ es, a.1 < 8 ∧ a.2 < 8) (hl : es.length = 7) (hg : ∀ i, i < 8 → i < (hangN es root i).order.length) :
    (hangN es root 8).rows.length = 7 ∧ RowsOk (hangN es root 8).rows ∧ ((hangN es root 8).rows.map rk).Perm (es.map ek) ∧ ((hangN es root 8).rows.map rk).Nodup := by
  have hi := hang_inv hr hb 8 hg
  have hk := hang_key hr hb 8 hg
  obtain ⟨r, hr7⟩ := hang_pre es root 7 1
  have h7 := hg 7 (by decide)
  have hlen : 8 ≤ (hangN es root 8).order.length := by
    show 8 ≤ (hangN es root (7 + 1)).order.length
    rw [hr7, List.length_append]
    omega
  have hrl : (hangN es root 8).rows.length = 7 := by
    have h1 := hi.rlen
    have h2 := hi.size
    omega
  exact ⟨hrl, hi.rows, perm_of_nodup hk.nodup (fun a ha => by
    obtain ⟨r, hr, rfl⟩ := List.mem_map.mp ha
    exact hk.sub r hr) (by rw [List.length_map, List.length_map, hl, hrl]; exact Nat.le_refl _), hk.nodup⟩
end Mine
end PartPU

/- part PX -/
section PartPX
open PySem PySem.W PyProof.Rows
set_option maxRecDepth 100000
namespace Mine
def c1 (x : Nat) (p : Nat × Nat) : Nat := (if p.1 = x then 1 else 0) + (if p.2 = x then 1 else 0)
theorem c1_nrm (x a b : Nat) : c1 x (nrm (a, b)) = c1 x (a, b) := by
  unfold nrm
  split
  · rfl
  · unfold c1; dsimp only; omega
def cntE (x : Nat) (l : List (Nat × Nat)) : Nat := (l.map (c1 x)).sum
theorem cntE_perm {x : Nat} {l m : List (Nat × Nat)} (h : l.Perm m) : cntE x l = cntE x m := by
  induction h with
  | nil => rfl
  | cons a _ ih => unfold cntE at *; simp only [List.map_cons, List.sum_cons]; omega
  | swap a b l => unfold cntE; simp only [List.map_cons, List.sum_cons]; omega
  | trans _ _ ih1 ih2 => rw [ih1, ih2]
theorem count_ends (rows : List (Str × Str)) (x : Nat) : (endsOf rows).count x = cntE x (rows.map rk) := by
  unfold endsOf
  rw [List.count_append]
  induction rows with
  | nil => rfl
  | cons r rows ih =>
    have e : c1 x (rk r) = (if lastN r.1 = x then 1 else 0) + (if lastN r.2 = x then 1 else 0) := by unfold rk; rw [c1_nrm]; rfl
    unfold cntE at *
    simp only [List.map_cons, List.count_cons, List.sum_cons, e, beq_iff_eq]
    omega
theorem deg : ∀ (code left : List Nat), EIn left code → ∀ v, cntE (97 + v) ((edgesF left code).map ek) = code.count v + (if v ∈ left then 1 else 0)
  | [], left, h, v => by
    obtain ⟨a, b, rfl⟩ := two_left h.len
    have hab : a ≠ b := by have := h.nodup; simp at this; exact this
    have e : edgesF [a, b] [] = [(a, b)] := rfl
    rw [e]
    unfold cntE ek
    simp only [List.map_cons, List.map_nil, List.sum_cons, List.sum_nil, c1_nrm, List.count_nil]
    unfold c1
    dsimp only
    by_cases h1 : a = v
    · subst h1
      have : ¬ b = a := fun e => hab e.symm
      simp [this]
    · by_cases h2 : b = v
      · subst h2
        simp [h1]
      · have h3 : ¬ v = a := fun e => h1 e.symm
        have h4 : ¬ v = b := fun e => h2 e.symm
        simp [h1, h2, h3, h4]
  | c :: cs, left, h, v => by
    obtain ⟨hn, hc⟩ := h.next
    obtain ⟨l1, l2⟩ := h.leaf
    have ih := deg cs _ hn v
    rw [edgesF]
    unfold cntE at *
    rw [List.map_cons, List.map_cons, List.sum_cons, ih]
    have e : c1 (97 + v) (ek (leafOf left (c :: cs), c)) = (if leafOf left (c :: cs) = v then 1 else 0) + (if c = v then 1 else 0) := by
      unfold ek
      rw [c1_nrm]
      unfold c1
      dsimp only
      congr 1
      · by_cases h : leafOf left (c :: cs) = v
        · rw [if_pos h, if_pos (by omega)]
        · rw [if_neg h, if_neg (by omega)]
      · by_cases h : c = v
        · rw [if_pos h, if_pos (by omega)]
        · rw [if_neg h, if_neg (by omega)]
    rw [e, List.count_cons]
    by_cases h1 : leafOf left (c :: cs) = v
    · have h2 : v ∉ left.erase (leafOf left (c :: cs)) := by rw [h1]; exact fun hm => (List.Nodup.mem_erase_iff h.nodup).mp hm |>.1 rfl
      have hv : v ∈ left := by rw [← h1]; exact l1
      simp only [if_pos h1, if_neg h2, if_pos hv, beq_iff_eq]
      omega
    · have h2 : v ∈ left.erase (leafOf left (c :: cs)) ↔ v ∈ left := List.mem_erase_of_ne (fun e => h1 e.symm)
      simp only [h2, if_neg h1, beq_iff_eq]
      omega
end Mine
end PartPX

/- part PY -/
section PartPY
open PySem PySem.W PyProof.Rows
set_option maxRecDepth 100000
namespace Mine
theorem ends_ge {rows : List (Str × Str)} {es : List (Nat × Nat)} (hs : ∀ r ∈ rows, rk r ∈ es.map ek) : ∀ r ∈ rows, ∃ e ∈ es, (lastN r.1 = 97 + e.1 ∧ lastN r.2 = 97 + e.2) ∨ (lastN r.1 = 97 + e.2 ∧ lastN r.2 = 97 + e.1) := by
  intro r hr
  obtain ⟨e, he, h⟩ := List.mem_map.mp (hs r hr)
  exact ⟨e, he, nrm_inj (a := lastN r.1) (b := lastN r.2) (c := 97 + e.1) (d := 97 + e.2) h.symm⟩
theorem perm_sub {rows : List (Str × Str)} {es : List (Nat × Nat)} (hp : (rows.map rk).Perm (es.map ek)) : ∀ r ∈ rows, rk r ∈ es.map ek := fun _ hr => hp.mem_iff.mp (List.mem_map_of_mem hr)
theorem once_iff {rows : List (Str × Str)} {left code : List Nat} (h : EIn left code) (hp : (rows.map rk).Perm ((edgesF left code).map ek)) (v : Nat) : 97 + v ∈ onceOf rows ↔ v ∈ freeOf left code := by
  have hc : (endsOf rows).count (97 + v) = code.count v + (if v ∈ left then 1 else 0) := by rw [count_ends, cntE_perm hp, deg code left h]
  unfold onceOf freeOf
  rw [List.mem_filter, List.mem_filter, beq_iff_eq, hc]
  constructor
  · rintro ⟨_, h1⟩
    by_cases hl : v ∈ left
    · rw [if_pos hl] at h1
      have h0 : code.count v = 0 := by omega
      have hn : v ∉ code := List.count_eq_zero.mp h0
      exact ⟨hl, by simpa using hn⟩
    · rw [if_neg hl] at h1
      have h0 : 0 < code.count v := by omega
      exact absurd (h.sub v (List.count_pos_iff.mp h0)) hl
  · rintro ⟨hl, h1⟩
    have hn : v ∉ code := by simpa using h1
    rw [if_pos hl, List.count_eq_zero.mpr hn]
    refine ⟨List.count_pos_iff.mp ?_, rfl⟩
    rw [hc, if_pos hl]
    omega
theorem once_form {rows : List (Str × Str)} {es : List (Nat × Nat)} (hp : (rows.map rk).Perm (es.map ek)) : ∀ e ∈ onceOf rows, 97 ≤ e := by
  intro e he
  have h1 := (List.mem_filter.mp he).1
  unfold endsOf at h1
  rcases List.mem_append.mp h1 with h1 | h1
  · obtain ⟨r, hr, rfl⟩ := List.mem_map.mp h1
    obtain ⟨d, _, h2 | h2⟩ := ends_ge (perm_sub hp) r hr <;> omega
  · obtain ⟨r, hr, rfl⟩ := List.mem_map.mp h1
    obtain ⟨d, _, h2 | h2⟩ := ends_ge (perm_sub hp) r hr <;> omega
theorem once_ne {rows : List (Str × Str)} {left code : List Nat} (h : EIn left code) (hp : (rows.map rk).Perm ((edgesF left code).map ek)) : onceOf rows ≠ [] := by
  intro e
  obtain ⟨v, r, hv⟩ := List.exists_cons_of_ne_nil h.free
  have h1 : v ∈ freeOf left code := by rw [hv]; exact List.mem_cons_self ..
  have := (once_iff h hp v).mpr h1
  rw [e] at this
  cases this
theorem leafR_eq {rows : List (Str × Str)} {left code : List Nat} (h : EIn left code) (hp : (rows.map rk).Perm ((edgesF left code).map ek)) : leafR rows = 97 + leafOf left code := by
  symm
  unfold leafR
  obtain ⟨h1, h2⟩ := minL_spec (freeOf left code) h.free
  refine minL_unique ((once_iff h hp _).mpr h1) fun a ha => ?_
  have h3 := once_form hp a ha
  obtain ⟨v, rfl⟩ : ∃ v, a = 97 + v := ⟨a - 97, by omega⟩
  have := h2 v ((once_iff h hp v).mp ha)
  show 97 + minL (freeOf left code) ≤ _
  omega
end Mine
end PartPY

/- part PZ -/
section PartPZ
open PySem PySem.W PyProof.Rows
set_option maxRecDepth 100000
namespace Mine
theorem rk_inj {rows : List (Str × Str)} (h : (rows.map rk).Nodup) : ∀ {r s}, r ∈ rows → s ∈ rows → rk r = rk s → r = s := by
  induction rows with
  | nil => intro r s hr; cases hr
  | cons a rows ih =>
    rw [List.map_cons, List.nodup_cons] at h
    intro r s hr hs e
    rcases List.mem_cons.mp hr with e1 | hr1
    · rcases List.mem_cons.mp hs with e2 | hs1
      · rw [e1, e2]
      · exact absurd (by rw [← e1, e]; exact List.mem_map_of_mem hs1) h.1
    · rcases List.mem_cons.mp hs with e2 | hs1
      · exact absurd (by rw [← e2, ← e]; exact List.mem_map_of_mem hr1) h.1
      · exact ih h.2 hr1 hs1 e
theorem rows_nodup {rows : List (Str × Str)} (h : (rows.map rk).Nodup) : rows.Nodup := by
  induction rows with
  | nil => exact List.nodup_nil
  | cons a rows ih =>
    rw [List.map_cons, List.nodup_cons] at h
    exact List.nodup_cons.mpr ⟨fun hm => h.1 (List.mem_map_of_mem hm), ih h.2⟩
theorem leaf_row {rows : List (Str × Str)} {left cs : List Nat} {c : Nat} (h : EIn left (c :: cs)) (hp : (rows.map rk).Perm ((edgesF left (c :: cs)).map ek)) {r : Str × Str} (hr : r ∈ rows)
    (hl : 97 + leafOf left (c :: cs) = lastN r.1 ∨ 97 + leafOf left (c :: cs) = lastN r.2) : rk r = ek (leafOf left (c :: cs), c) := by
  obtain ⟨e, he, h2⟩ := ends_ge (perm_sub hp) r hr
  have hk : rk r = ek e := by
    unfold rk ek
    rcases h2 with ⟨h3, h4⟩ | ⟨h3, h4⟩
    · rw [h3, h4]
    · rw [h3, h4, nrm_swap]
  rw [edgesF] at he
  rcases List.mem_cons.mp he with rfl | he
  · exact hk
  · exfalso
    obtain ⟨m1, m2⟩ := edges_in cs _ h.next.1 e he
    have n1 : e.1 ≠ leafOf left (c :: cs) := fun e9 => by rw [e9] at m1; exact ((List.Nodup.mem_erase_iff h.nodup).mp m1).1 rfl
    have n2 : e.2 ≠ leafOf left (c :: cs) := fun e9 => by rw [e9] at m2; exact ((List.Nodup.mem_erase_iff h.nodup).mp m2).1 rfl
    omega
def cutR (rows : List (Str × Str)) (r : Str × Str) : List (Str × Str) := (rows.filter fun q => q.1 != r.1) ++ (((rows.filter fun q => q.1 == r.1).map (·.2)).filter fun o => o != r.2).map fun o => (r.1, o)
theorem cutR_perm (rows : List (Str × Str)) (r : Str × Str) : (cutR rows r).Perm (rows.filter fun q => q != r) := by
  induction rows with
  | nil => exact List.Perm.refl _
  | cons q rows ih =>
    unfold cutR at ih ⊢
    by_cases h1 : q.1 = r.1
    · by_cases h2 : q.2 = r.2
      · have e : q = r := Prod.ext h1 h2
        have : (q != r) = false := by rw [e]; simp
        simp only [List.filter_cons, h1, h2, this, bne_self_eq_false, Bool.false_eq_true, if_false, beq_self_eq_true, if_true, List.map_cons]
        exact ih
      · have hne : (q != r) = true := by rw [bne_iff_ne]; exact fun e => h2 (by rw [e])
        have h3 : (q.2 != r.2) = true := by rw [bne_iff_ne]; exact h2
        have e : (r.1, q.2) = q := Prod.ext h1.symm rfl
        simp only [List.filter_cons, h1, hne, h3, bne_self_eq_false, Bool.false_eq_true, if_false, beq_self_eq_true, if_true, List.map_cons, e]
        exact List.perm_middle.trans (List.Perm.cons _ ih)
    · have hne : (q != r) = true := by rw [bne_iff_ne]; exact fun e => h1 (by rw [e])
      have h3 : (q.1 != r.1) = true := by rw [bne_iff_ne]; exact h1
      have h4 : (q.1 == r.1) = false := by rw [beq_eq_false_iff_ne]; exact h1
      simp only [List.filter_cons, hne, h3, h4, if_true, Bool.false_eq_true, if_false, List.cons_append]
      exact List.Perm.cons _ ih
theorem fold_none {leaf : Nat} : ∀ (l : List (Str × Str)) (st : List Nat × List (Str × Str)), (∀ r ∈ l, ¬ (leaf = lastN r.1 ∨ leaf = lastN r.2)) → l.foldl (noteStep leaf) st = st
  | [], _, _ => rfl
  | r :: l, st, h => by
    have h0 : noteStep leaf st r = st := by unfold noteStep; rw [if_neg (h r (List.mem_cons_self ..))]
    rw [List.foldl_cons, h0]
    exact fold_none l st fun q hq => h q (List.mem_cons_of_mem _ hq)
theorem fold_one {leaf : Nat} {r0 : Str × Str} : ∀ (l : List (Str × Str)) (st : List Nat × List (Str × Str)), l.Nodup → r0 ∈ l → (∀ r ∈ l, r ≠ r0 → ¬ (leaf = lastN r.1 ∨ leaf = lastN r.2)) → l.foldl (noteStep leaf) st = noteStep leaf st r0
  | [], _, _, h, _ => nomatch h
  | r :: l, st, hn, h0, h => by
    rw [List.nodup_cons] at hn
    rw [List.foldl_cons]
    by_cases e : r = r0
    · rw [e]
      refine fold_none l _ fun q hq => h q (List.mem_cons_of_mem _ hq) fun e2 => hn.1 ?_
      rw [e, ← e2]
      exact hq
    · have h1 : noteStep leaf st r = st := by unfold noteStep; rw [if_neg (h r (List.mem_cons_self ..) e)]
      rw [h1]
      have h2 : r0 ∈ l := by
        rcases List.mem_cons.mp h0 with e2 | h2
        · exact absurd e2.symm e
        · exact h2
      exact fold_one l st hn.2 h2 fun q hq => h q (List.mem_cons_of_mem _ hq)
theorem round_ok {left cs : List Nat} {c : Nat} {rows : List (Str × Str)} (ns : List Nat) (h : EIn left (c :: cs)) (hn : (rows.map rk).Nodup) (hp : (rows.map rk).Perm ((edgesF left (c :: cs)).map ek)) :
    ∃ rows', roundF (ns, rows) = (ns ++ [97 + c], rows') ∧ (rows'.map rk).Nodup ∧ (rows'.map rk).Perm ((edgesF (left.erase (leafOf left (c :: cs))) cs).map ek) := by
  have hrn := rows_nodup hn
  have hlf := leafR_eq h hp
  have hek : ek (leafOf left (c :: cs), c) ∈ rows.map rk := hp.mem_iff.mpr (by rw [edgesF]; exact List.mem_cons_self ..)
  obtain ⟨r0, hr0, hk0⟩ := List.mem_map.mp hek
  have hone : rows.foldl (noteStep (leafR rows)) (ns, rows) = noteStep (leafR rows) (ns, rows) r0 := by
    refine fold_one rows _ hrn hr0 fun r hr hne hl => hne ?_
    rw [hlf] at hl
    exact rk_inj hn hr hr0 ((leaf_row h hp hr hl).trans hk0.symm)
  have hends := nrm_inj (a := lastN r0.1) (b := lastN r0.2) (c := 97 + leafOf left (c :: cs)) (d := 97 + c) hk0
  have hcl : c ≠ leafOf left (c :: cs) := fun e => h.leaf.2 (by rw [← e]; exact List.mem_cons_self ..)
  have hnote : noteStep (leafR rows) (ns, rows) r0 = (ns ++ [97 + c], cutR rows r0) := by
    unfold noteStep cutR
    rw [hlf]
    rcases hends with ⟨e1, e2⟩ | ⟨e1, e2⟩
    · rw [if_pos (.inl e1.symm), if_pos e1.symm, e2]
    · rw [if_pos (.inr e2.symm), if_neg (by omega), e1]
  have hpc := cutR_perm rows r0
  have hp0 : rows.Perm (r0 :: rows.filter fun q => q != r0) := by
    have h1 := List.perm_cons_erase hr0
    rw [hrn.erase_eq_filter r0] at h1
    exact h1
  have hkeys : ((cutR rows r0).map rk).Perm ((edgesF (left.erase (leafOf left (c :: cs))) cs).map ek) := by
    have h2 := (hp0.map rk).symm.trans hp
    rw [edgesF, List.map_cons, List.map_cons, hk0] at h2
    exact (hpc.map rk).trans (List.Perm.cons_inv h2)
  refine ⟨cutR rows r0, ?_, ?_, hkeys⟩
  · show rows.foldl (noteStep (leafR rows)) (ns, rows) = _
    rw [hone, hnote]
  · have h3 := (hp0.map rk).nodup_iff.mp hn
    rw [List.map_cons, List.nodup_cons] at h3
    exact (hpc.map rk).nodup_iff.mpr h3.2
theorem leaf_ne7 {left code : List Nat} (h : EIn left code) (h8 : ∀ a ∈ left, a < 8) : leafOf left code ≠ 7 := by
  intro e
  have hmin := (minL_spec (freeOf left code) h.free).2
  have hall : ∀ a ∈ left, a ∈ 7 :: code := by
    intro a ha
    by_cases hc : a ∈ code
    · exact List.mem_cons_of_mem _ hc
    · have hf : a ∈ freeOf left code := by
        unfold freeOf
        rw [List.mem_filter]
        exact ⟨ha, by simpa using hc⟩
      have h1 := hmin a hf
      have h2 := h8 a ha
      have h3 : minL (freeOf left code) = 7 := e
      have : a = 7 := by omega
      rw [this]
      exact List.mem_cons_self ..
  have := nodup_sub_len h.nodup hall
  rw [h.len, List.length_cons] at this
  omega
theorem rounds {fs : List Nat} {rows : List (Str × Str)} (hl : fs.length = 6) (h8 : ∀ a ∈ fs, a < 8) (hn : (rows.map rk).Nodup) (hp : (rows.map rk).Perm ((edgesF (List.range 8) fs).map ek)) :
    ∀ k, k ≤ 6 → ∃ left, EIn left (fs.drop k) ∧ (notesN rows k).1 = (fs.take k).map (97 + ·) ∧ ((notesN rows k).2.map rk).Nodup ∧ ((notesN rows k).2.map rk).Perm ((edgesF left (fs.drop k)).map ek) ∧ 7 ∈ left ∧ ∀ a ∈ left, a < 8
  | 0, _ => ⟨List.range 8, ⟨List.nodup_range, by rw [List.length_range, List.drop_zero, hl], fun c hc => List.mem_range.mpr (h8 c (by simpa using hc))⟩, rfl, hn, hp, by decide, fun a ha => List.mem_range.mp ha⟩
  | k + 1, hk => by
    obtain ⟨left, hE, h1, h2, h3, h4, h5⟩ := rounds hl h8 hn hp k (by omega)
    have hkl : k < fs.length := by omega
    rw [List.drop_eq_getElem_cons hkl] at hE h3
    obtain ⟨rows', e1, e2, e3⟩ := round_ok (notesN rows k).1 hE h2 h3
    have e0 : notesN rows (k + 1) = ((notesN rows k).1 ++ [97 + fs[k]], rows') := e1
    refine ⟨left.erase (leafOf left (fs[k] :: fs.drop (k + 1))), hE.next.1, ?_, ?_, ?_, ?_, ?_⟩
    · rw [e0, h1, List.take_succ_eq_append_getElem hkl, List.map_append]
      rfl
    · rw [e0]; exact e2
    · rw [e0]; exact e3
    · exact (List.mem_erase_of_ne (fun e => leaf_ne7 hE h5 e.symm)).mpr h4
    · exact fun a ha => h5 a (List.mem_of_mem_erase ha)
end Mine
end PartPZ

/- part PF -/
section PartPF
open PySem PySem.W PyProof.Rows
set_option maxRecDepth 100000
namespace Mine
def numZ (z : Int) : Nat := z.natAbs * 40503 % 262144
theorem num_eq (z : Int) : ((if z < 0 then -z else z) * 40503).fmod 262144 = ((numZ z : Nat) : Int) := by
  rw [Int.fmod_eq_emod_of_nonneg _ (by omega)]
  unfold numZ
  split <;> omega
theorem num_lt (z : Int) : numZ z < 262144 := Nat.mod_lt _ (by decide)
def figs6 (num : Nat) : List Nat := (List.range 6).map fun k => (num >>> (3 * k)) % 8
theorem figs6_len (num : Nat) : (figs6 num).length = 6 := by unfold figs6; simp
theorem figs6_lt (num : Nat) : ∀ a ∈ figs6 num, a < 8 := by
  intro a ha
  obtain ⟨k, _, rfl⟩ := List.mem_map.mp ha
  exact Nat.mod_lt _ (by decide)
theorem figs6_val (num : Nat) (h : num < 262144) : valD 3 (figs6 num) = num := by
  have e : figs6 num = [num % 8, num / 8 % 8, num / 64 % 8, num / 512 % 8, num / 4096 % 8, num / 32768 % 8] := by
    unfold figs6
    simp [List.range_succ, Nat.shiftRight_eq_div_pow]
  rw [e]
  simp only [valD]
  omega
theorem and7 (num j : Nat) : Builtin.bitAnd ((num : Int).fdiv (2 ^ ((3 : Int) * (j : Int)).toNat)) 7 = (((num >>> (3 * j)) % 8 : Nat) : Int) := by
  have e : ((3 : Int) * (j : Int)).toNat = 3 * j := by omega
  rw [e, fdiv_pow, bitAnd_pp (Int.natCast_nonneg _) (by decide), Int.toNat_natCast, Nat.shiftRight_eq_div_pow]
  have e2 : Int.toNat 7 = 2 ^ 3 - 1 := by decide
  rw [e2, Nat.and_two_pow_sub_one_eq_mod]
def rootZ (z : Int) : Nat := ((z.fdiv 7).fmod 8).toNat
theorem root_eq (z : Int) : (z.fdiv 7).fmod 8 = ((rootZ z : Nat) : Int) := by
  unfold rootZ
  rw [Int.toNat_of_nonneg]
  rw [Int.fmod_eq_emod_of_nonneg _ (by decide)]
  exact Int.emod_nonneg _ (by decide)
theorem root_lt (z : Int) : rootZ z < 8 := by
  have h := root_eq z
  rw [Int.fmod_eq_emod_of_nonneg _ (by decide)] at h
  have := Int.emod_lt_of_pos (z.fdiv 7) (show (0 : Int) < 8 by decide)
  omega
structure TreeFacts (fs : List Nat) (root : Nat) : Prop where
  len : (edgesF (List.range 8) fs).length = 7
  small : ∀ a ∈ edgesF (List.range 8) fs, a.1 < 8 ∧ a.2 < 8
  grow : ∀ i, i < 8 → i < (hangN (edgesF (List.range 8) fs) root i).order.length
  rows : RowsOk (hangN (edgesF (List.range 8) fs) root 8).rows
  rlen : (hangN (edgesF (List.range 8) fs) root 8).rows.length = 7
  once : ∀ k, k < 6 → onceOf (notesN (hangN (edgesF (List.range 8) fs) root 8).rows k).2 ≠ []
  notes : (notesN (hangN (edgesF (List.range 8) fs) root 8).rows 6).1 = fs.map (97 + ·)
  last : ∃ r, (notesN (hangN (edgesF (List.range 8) fs) root 8).rows 6).2 = [r] ∧ (lastN r.1 = 104 ∨ lastN r.2 = 104)
theorem tree_facts (fs : List Nat) (root : Nat) (hl : fs.length = 6) (h8 : ∀ a ∈ fs, a < 8) (hr : root < 8) : TreeFacts fs root := by
  have hE0 : EIn (List.range 8) fs := ⟨List.nodup_range, by rw [List.length_range, hl], fun c hc => List.mem_range.mpr (h8 c hc)⟩
  have hlen : (edgesF (List.range 8) fs).length = 7 := by rw [edges_len, hl]
  have hsmall : ∀ a ∈ edgesF (List.range 8) fs, a.1 < 8 ∧ a.2 < 8 := fun a ha => by
    obtain ⟨h1, h2⟩ := edges_in fs _ hE0 a ha
    exact ⟨List.mem_range.mp h1, List.mem_range.mp h2⟩
  have hgrow := hang_grow hr hsmall fun S hS => edges_conn S fs (List.range 8) hE0 hS
  obtain ⟨hrl, hro, hperm, hnd⟩ := hang_perm hr hsmall hlen hgrow
  have hR := rounds hl h8 hnd hperm
  refine ⟨hlen, hsmall, hgrow, hro, hrl, ?_, ?_, ?_⟩
  · intro k hk
    obtain ⟨left, hE, _, _, h3, _, _⟩ := hR k (by omega)
    exact once_ne hE h3
  · obtain ⟨left, _, h1, _⟩ := hR 6 (Nat.le_refl _)
    rw [h1, List.take_of_length_le (by omega)]
  · obtain ⟨left, hE, _, _, h3, h4, _⟩ := hR 6 (Nat.le_refl _)
    have hd : fs.drop 6 = [] := List.drop_of_length_le (by omega)
    rw [hd] at hE h3
    obtain ⟨a, b, rfl⟩ := two_left hE.len
    have he : edgesF [a, b] [] = [(a, b)] := rfl
    rw [he] at h3
    have hlen1 := h3.length_eq
    rw [List.length_map, List.map_cons, List.map_nil, List.length_singleton] at hlen1
    generalize (notesN (hangN (edgesF (List.range 8) fs) root 8).rows 6).2 = rws at h3 hlen1
    match rws, hlen1 with
    | [r], _ =>
      refine ⟨r, rfl, ?_⟩
      have hk : rk r = ek (a, b) := by
        have := h3.mem_iff.mp (List.mem_cons_self ..)
        simpa using this
      have h9 := nrm_inj (a := lastN r.1) (b := lastN r.2) (c := 97 + a) (d := 97 + b) hk
      simp at h4
      omega
end Mine
end PartPF

/- part W15 -/
section PartW15
open PySem PySem.W PyProof.Rows Mine
set_option Elab.async false
set_option maxRecDepth 100000
set_option maxHeartbeats 4000000
namespace Mine
def LJ (l LC : Addr) (ol : Obj) (m : Str → Option Value) (nw : List (Addr × Obj)) : Prop :=
  ∃ ps47 ps40 im' oC vC, nw = (47, tabObj ps47) :: (40, tabObj ps40) :: (LC, oC) :: (l, ol) :: im' ∧ TabOk 24 4 (Str.ofString "_digits2int.<locals>.inner") ps47 im' ∧ TabOk 9 4 (Str.ofString "_int2digits.<locals>.inner") ps40 im' ∧ oC.data = Data.cell vC ∧ (∀ p ∈ im', p.1 ≠ 47) ∧ (∀ p ∈ im', p.1 ≠ 40) ∧ (∀ p ∈ im', p.1 ≠ LC)
theorem LJ.out {l LC : Addr} {ol : Obj} {m : Str → Option Value} {nw : List (Addr × Obj)} {G : Prop} (h : LJ l LC ol m nw)
    (y : ∀ ps47 ps40 im' oC vC, nw = (47, tabObj ps47) :: (40, tabObj ps40) :: (LC, oC) :: (l, ol) :: im' → TabOk 24 4 (Str.ofString "_digits2int.<locals>.inner") ps47 im' → TabOk 9 4 (Str.ofString "_int2digits.<locals>.inner") ps40 im' → oC.data = Data.cell vC → (∀ p ∈ im', p.1 ≠ 47) → (∀ p ∈ im', p.1 ≠ 40) → (∀ p ∈ im', p.1 ≠ LC) → G) : G := by
  obtain ⟨ps47, ps40, im', oC, vC, e, q1, q2, q3, q4, q5, q6⟩ := h
  exact y ps47 ps40 im' oC vC e q1 q2 q3 q4 q5 q6
theorem LJ.mk {l LC : Addr} {ol : Obj} {m : Str → Option Value} {im' : List (Addr × Obj)} {ps47 ps40 : Array Value} {oC : Obj} {vC : Option Value}
    (q1 : TabOk 24 4 (Str.ofString "_digits2int.<locals>.inner") ps47 im') (q2 : TabOk 9 4 (Str.ofString "_int2digits.<locals>.inner") ps40 im') (q3 : oC.data = Data.cell vC) (q4 : ∀ p ∈ im', p.1 ≠ 47) (q5 : ∀ p ∈ im', p.1 ≠ 40) (q6 : ∀ p ∈ im', p.1 ≠ LC) :
    LJ l LC ol m ((47, tabObj ps47) :: (40, tabObj ps40) :: (LC, oC) :: (l, ol) :: im') :=
  ⟨ps47, ps40, im', oC, vC, rfl, q1, q2, q3, q4, q5, q6⟩
def FP (h₀ : Heap) (L : Addr) (s1 : Shared) (oN : Obj) (script : List Int) (v : Value) (s' : Shared) : Prop :=
  ∃ (l : Addr) (vs : List Value) (ns : List Int) (n : Nat) (h' : Heap) (tk' : Nat) (mm : Str → Option Value), v = Value.ref l ∧ s' = { s1 with heap := h', toks := tk' } ∧ Fr h₀ L h' mm ∧
    News h₀ L h' [(l, listOf vs.toArray n), (L + 1, oN), (47, tabObj #[]), (40, tabObj #[])] ∧ IntsAre vs ns ∧ ns.length ≤ 2 ∧ @LT.lt Nat _ (L + 1) l ∧ (∀ z ∈ ns, z ∈ script ∨ z = 5)
theorem FP.mk {h₀ : Heap} {L : Addr} {s1 : Shared} {oN : Obj} {script : List Int} {l : Addr} {vs : List Value} {ns : List Int} {n : Nat} {h' : Heap} {tk' : Nat} {mm : Str → Option Value} (F : Fr h₀ L h' mm)
    (N : News h₀ L h' [(l, listOf vs.toArray n), (L + 1, oN), (47, tabObj #[]), (40, tabObj #[])]) (q1 : IntsAre vs ns) (q2 : ns.length ≤ 2) (q3 : @LT.lt Nat _ (L + 1) l) (q4 : ∀ z ∈ ns, z ∈ script ∨ z = 5) : FP h₀ L s1 oN script (.ref l) { s1 with heap := h', toks := tk' } :=
  ⟨l, vs, ns, n, h', tk', mm, rfl, rfl, F, N, q1, q2, q3, q4⟩
theorem FP.out {h₀ : Heap} {L : Addr} {s1 : Shared} {oN : Obj} {script : List Int} {G : Value → Shared → Prop}
    (y : ∀ (l : Addr) (vs : List Value) (ns : List Int) (n : Nat) (h' : Heap) (tk' : Nat) (mm : Str → Option Value), Fr h₀ L h' mm → News h₀ L h' [(l, listOf vs.toArray n), (L + 1, oN), (47, tabObj #[]), (40, tabObj #[])] → IntsAre vs ns → ns.length ≤ 2 → @LT.lt Nat _ (L + 1) l → (∀ z ∈ ns, z ∈ script ∨ z = 5) → G (.ref l) { s1 with heap := h', toks := tk' }) :
    ∀ v s', Hold (FP h₀ L s1 oN script v s') → G v s' := by
  intro v s' h
  obtain ⟨l, vs, ns, n, h', tk', mm, rfl, rfl, F, N, q1, q2, q3, q4⟩ := h
  exact y l vs ns n h' tk' mm F N q1 q2 q3 q4
theorem N_l0 {h₀ h : Heap} {L : Addr} {a b c d : Addr × Obj} {im : List (Addr × Obj)} (N : News h₀ L h (a :: b :: c :: d :: im)) : News h₀ L h (c :: d :: b :: a :: im) := cb_drop N (by
  repeat' (first | refine sub_cons ?_ ?_ | exact .head _ | refine .tail _ ?_ | exact hp | intro p hp))
theorem N_l1 {h₀ h : Heap} {L : Addr} {i a b c d : Addr × Obj} {im : List (Addr × Obj)} (N : News h₀ L h (i :: a :: b :: c :: d :: im)) : News h₀ L h (b :: i :: a :: c :: d :: im) := cb_drop N (by
  repeat' (first | refine sub_cons ?_ ?_ | exact .head _ | refine .tail _ ?_ | exact hp | intro p hp))
theorem N_l2 {h₀ h : Heap} {L : Addr} {d1 d11 d10 l' d9 b c9 i a lc l : Addr × Obj} {im : List (Addr × Obj)} (N : News h₀ L h (d1 :: d11 :: d10 :: l' :: d9 :: b :: c9 :: i :: a :: lc :: l :: im)) : News h₀ L h (d11 :: d9 :: i :: a :: b :: lc :: l :: c9 :: im) := cb_drop N (by
  repeat' (first | refine sub_cons ?_ ?_ | exact .head _ | refine .tail _ ?_ | exact hp | intro p hp))
theorem N_l3 {h₀ h : Heap} {L : Addr} {d1 d2 d11 d9 i a b lc l c9 : Addr × Obj} {im : List (Addr × Obj)} (N : News h₀ L h (d1 :: d2 :: d11 :: d9 :: i :: a :: b :: lc :: l :: c9 :: im)) : News h₀ L h (d11 :: i :: a :: b :: lc :: l :: c9 :: im) := cb_drop N (by
  repeat' (first | refine sub_cons ?_ ?_ | exact .head _ | refine .tail _ ?_ | exact hp | intro p hp))
theorem last_ne {l : List Nat} {dd : Nat} (hdz : l.drop (dd - 1) ≠ [0]) : decide (List.map Int.ofNat (l.drop (dd - Int.toNat (- -1))) = [0]) = false := by
  rw [decide_eq_false_iff_not]
  intro e
  refine hdz ?_
  have e1 : Int.toNat (- -1) = 1 := by decide
  rw [e1] at e
  cases hq : l.drop (dd - 1) with
  | nil => rw [hq] at e; cases e
  | cons a r =>
    rw [hq, List.map_cons] at e
    injection e with ea er
    have h1 : a = 0 := Int.ofNat.inj ea
    have h2 : r = [] := by simpa using er
    rw [h1, h2]
def fmtQ (q : Quad) : Str := q.1 ++ Str.ofString ": " ++ q.2.2.1 ++ Str.ofString "\x0d\n"
theorem sum_len_le (l : List Str) (h : ∀ y ∈ l, y.length ≤ 140) : (l.map (·.length)).sum ≤ 140 * l.length := by
  induction l with
  | nil => exact Nat.le_refl _
  | cons a l ih =>
    have h1 := h a (List.mem_cons_self ..)
    have h2 := ih fun y hy => h y (List.mem_cons_of_mem _ hy)
    simp only [List.map_cons, List.sum_cons, List.length_cons]
    omega
theorem join_nil_cons (a : Str) (l : List Str) : Txt.join (Str.ofString "") (a :: l) = a ++ Txt.join (Str.ofString "") l := by
  have e : Str.ofString "" = ⟨#[]⟩ := by decide +kernel
  unfold Txt.join
  rw [PySem.StrLaws.glued_eq_join, PySem.StrLaws.glued_eq_join, e]
  apply Str.ext'
  apply Array.toList_inj.mp
  cases l with
  | nil =>
    show a.cps.toList = (a ++ (⟨#[]⟩ : Str)).cps.toList
    rw [Str.cps_append]
    simp
  | cons b l =>
    show (a ++ (⟨#[]⟩ : Str) ++ Str.join ⟨#[]⟩ (b :: l)).cps.toList = (a ++ Str.join ⟨#[]⟩ (b :: l)).cps.toList
    simp only [Str.cps_append, Array.toList_append]
    simp
theorem page_eq (rows : List (Str × Str)) : Txt.join (Str.ofString "") ((rows.map quad).map fmtQ) ++ Str.ofString "\x0d\n" = pageOf rows := by
  have e : Str.ofString "\x0d\n" = ⟨#[13, 10]⟩ := by decide +kernel
  have e2 : Str.ofString ": " = ⟨#[58, 32]⟩ := by decide +kernel
  induction rows with
  | nil => decide +kernel
  | cons r rows ih =>
    rw [List.map_cons, List.map_cons, join_nil_cons, pageOf_cons, ← ih]
    unfold fmtQ fmtRow quad
    rw [e, e2]
    apply Str.ext'
    apply Array.toList_inj.mp
    simp only [Str.cps_append, Array.toList_append, List.append_assoc]
theorem N_l5 {h₀ h : Heap} {L : Addr} {n x d l : Addr × Obj} {im : List (Addr × Obj)} (N : News h₀ L h (n :: x :: d :: l :: im)) : News h₀ L h (x :: d :: l :: n :: im) := cb_drop N (by
  repeat' (first | refine sub_cons ?_ ?_ | exact .head _ | refine .tail _ ?_ | exact hp | intro p hp))
theorem N_l6 {h₀ h : Heap} {L : Addr} {all : List (Addr × Obj)} (N : News h₀ L h all) : News h₀ L h all := N
theorem N_l7 {h₀ h : Heap} {L : Addr} {r x d l n b : Addr × Obj} {q im : List (Addr × Obj)} (N : News h₀ L h (r :: x :: d :: l :: (q ++ n :: im))) (hb : b ∈ q) : News h₀ L h (b :: r :: n :: im) := cb_drop N (by
  exact sub_cons (.tail _ (.tail _ (.tail _ (.tail _ (List.mem_append_left _ hb))))) (sub_cons (.head _) (fun p hp => .tail _ (.tail _ (.tail _ (.tail _ (List.mem_append_right _ hp)))))))
theorem quads_one {im : List (Addr × Obj)} {vs : List Value} {r : Str × Str} (h : QuadsAre im vs (List.map quad [r])) : ∃ b t1 t2 t3 t4, vs = [Value.ref b] ∧ (b, quadOf (quad r) t1 t2 t3 t4) ∈ im := by
  cases h with
  | cons hb h2 =>
    cases h2
    exact ⟨_, _, _, _, _, rfl, hb⟩
theorem h_in {r : Str × Str} (h : lastN r.1 = 104 ∨ lastN r.2 = 104) : (!([(quad r).2.1, (quad r).2.2.2].any (· == Str.ofString "h"))) = false := by
  have e : Str.ofString "h" = ⟨#[104]⟩ := by decide +kernel
  have e1 : (quad r).2.1 = ⟨#[lastN r.1]⟩ := rfl
  have e2 : (quad r).2.2.2 = ⟨#[lastN r.2]⟩ := rfl
  rw [e, e1, e2]
  rcases h with h | h
  · rw [h]; simp
  · rw [h]; simp
theorem N_l8 {h₀ h : Heap} {L : Addr} {d b r n : Addr × Obj} {im : List (Addr × Obj)} (N : News h₀ L h (d :: b :: r :: n :: im)) : News h₀ L h (n :: im) := cb_drop N (by
  repeat' (first | refine sub_cons ?_ ?_ | exact .head _ | refine .tail _ ?_ | exact hp | intro p hp))
def natC (v : Value) : Nat := strV v - 97
theorem natC_chr (a : Nat) (t : Tok) : natC (Value.str (chr (97 + a)) t) = a := by
  show 97 + a - 97 = a
  omega
theorem abc_find : ∀ a : Nat, a < 8 → Txt.find (Str.ofString "abcdefgh") (chr (97 + a)) = (a : Int) := by decide +kernel
theorem N_l9 {h₀ h : Heap} {L : Addr} {d n i a b lc l c9 : Addr × Obj} {im all : List (Addr × Obj)} (N : News h₀ L h (d :: n :: all)) (hs : ∀ p ∈ i :: a :: b :: lc :: l :: c9 :: im, p ∈ all) : News h₀ L h (a :: d :: i :: b :: lc :: l :: c9 :: im) := cb_drop N (by
  repeat' (first | refine sub_cons ?_ ?_ | exact .head _ | (refine .tail _ (.tail _ (hs _ ?_)); repeat' (first | exact .head _ | refine .tail _ ?_)) | (intro p hp; refine .tail _ (.tail _ (hs _ ?_)); repeat' (first | exact hp | refine .tail _ ?_))))
theorem N_la {h₀ h : Heap} {L : Addr} {a c8 d i b lc l c9 : Addr × Obj} {im : List (Addr × Obj)} (N : News h₀ L h (a :: c8 :: d :: i :: b :: lc :: l :: c9 :: im)) : News h₀ L h (a :: b :: d :: i :: lc :: l :: c8 :: c9 :: im) := cb_drop N (by
  repeat' (first | refine sub_cons ?_ ?_ | exact .head _ | refine .tail _ ?_ | exact hp | intro p hp))
theorem N_lb {h₀ h : Heap} {L : Addr} {a b d i lc l c8 c9 : Addr × Obj} {im imf imt : List (Addr × Obj)} (N : News h₀ L h (a :: b :: d :: imf)) (hs : ∀ p ∈ i :: lc :: l :: c8 :: c9 :: im, p ∈ imf) (ht : ∀ p ∈ imt, p ∈ imf) : News h₀ L h (i :: a :: b :: lc :: l :: imt) := cb_drop N (by
  repeat' (first | refine sub_cons ?_ ?_ | exact .head _ | exact .tail _ (.head _) | (refine .tail _ (.tail _ (.tail _ (hs _ ?_))); repeat' (first | exact .head _ | refine .tail _ ?_)) | exact fun p hp => .tail _ (.tail _ (.tail _ (ht p hp)))))
theorem figs_are {vs ys : List Value} {fs : List Nat} (h : StrsAre vs ((fs.map (97 + ·)).map chr)) (_h8 : ∀ a ∈ fs, a < 8) (hP : Paired (fun v y => ∃ t', y = Value.int ((natC v : Nat) : Int) t') vs ys) : IntsAre ys (fs.map Int.ofNat) := by
  induction fs generalizing vs ys with
  | nil => cases h; cases hP; exact .nil
  | cons a fs ih =>
    rw [List.map_cons, List.map_cons] at h
    cases h with
    | cons n t h2 =>
      cases hP with
      | cons h1 h3 =>
        obtain ⟨t', rfl⟩ := h1
        have e : natC (Value.str (chr (97 + a)) t) = a := by
          show 97 + a - 97 = a
          omega
        rw [e]
        exact .cons _ _ (ih h2 (fun b hb => _h8 b (List.mem_cons_of_mem _ hb)) h3)
theorem QuadsAre.atM {im : List (Addr × Obj)} {vs : List Value} {qs : List Quad} (h : QuadsAre im vs qs) {v : Value} (hv : v ∈ vs) : ∃ b q t1 t2 t3 t4, v = Value.ref b ∧ q ∈ qs ∧ (b, quadOf q t1 t2 t3 t4) ∈ im := by
  obtain ⟨i, hi, rfl⟩ := List.mem_iff_getElem.mp hv
  obtain ⟨b, q, t1, t2, t3, t4, e1, e2, e3⟩ := h.atI (List.getElem?_eq_getElem hi)
  exact ⟨b, q, t1, t2, t3, t4, e1, List.mem_of_getElem? e2, e3⟩
theorem N_l4 {h₀ h : Heap} {L : Addr} {d r x e l : Addr × Obj} {q im : List (Addr × Obj)} (N : News h₀ L h (d :: r :: x :: e :: l :: (q ++ im))) : News h₀ L h (d :: x :: e :: l :: im) := cb_drop N (by
  intro p hp
  simp only [List.mem_cons, List.mem_append] at hp ⊢
  rcases hp with h | h | h | h | h <;> simp [h])
local macro_rules | `(tactic| k_ne) => `(tactic| (refine neN ?_; (try dsimp only); first | exact Hold.ne (by with_reducible assumption) | exact Hold.ne' (by with_reducible assumption) | omega))
local macro_rules | `(tactic| k_room) => `(tactic| ktr_room)
local macro_rules | `(tactic| k_units) => `(tactic| (ktr_units))
local macro_rules | `(tactic| k_all) => `(tactic| first | with_reducible assumption | assumption)
local macro_rules | `(tactic| walk_at "pyIter ref") => `(tactic| ((with_reducible show wpAny _ _ (pyIter (Value.ref _)) (fun it s₂ => TurnsAt _ _ _ _ _ _ _ _ _ it s₂) _ _); refine Hold.out ?_))
local macro_rules | `(tactic| walk_at "eval ListComp") => `(tactic| (k_here; refine Hold.out ?_))
local macro_rules | `(tactic| walk_at "exec For") => `(tactic| (k_here; refine Hold.out ?_))
local macro_rules | `(tactic| walk_at "subscriptTail Name Slice ref ref") => `(tactic| ((with_reducible show wpAny _ _ (subscriptTail _ _ (Value.ref _) (Value.ref _)) _ _ _); refine Hold.out ?_))
local macro_rules | `(tactic| walk_at "call ref") => `(tactic| (k_here; (first
  | (with_reducible show wpAny _ _ (call (Value.ref 45) _ _) _ _ _) | (with_reducible show wpAny _ _ (call (Value.ref 52) _ _) _ _ _) | (with_reducible show wpAny _ _ (call (Value.ref 212) _ _) _ _ _) | (with_reducible show wpAny _ _ (call (Value.ref 217) _ _) _ _ _)
  | (with_reducible show wpAny _ _ (call (Value.ref 224) _ _) _ _ _) | (with_reducible show wpAny _ _ (call (Value.ref 229) _ _) _ _ _) | (with_reducible show wpAny _ _ (call (Value.ref 234) _ _) _ _ _)); refine Hold.out ?_))
local macro_rules | `(tactic| walk_at "binaryOp Add ref ref") => `(tactic| (k_here; refine Hold.out ?_))
local macro_rules | `(tactic| walk_at "binaryOp Mult ref int") => `(tactic| (k_here; refine Hold.out ?_))
local macro_rules | `(tactic| walk_at "call builtin:len") => `(tactic| (k_here; refine Hold.out ?_))
local macro_rules | `(tactic| walk_at "compareOp NotEq ref ref") => `(tactic| (k_here; refine Hold.out ?_))
local macro_rules | `(tactic| walk_at "compareOp Eq ref ref") => `(tactic| (k_here; refine Hold.out ?_))
local macro_rules | `(tactic| walk_at "subscriptTail") => `(tactic| (k_here; (with_reducible show wpAny _ _ (subscriptTail _ _ (Value.ref _) (Value.int _ _)) _ _ _); (rename IsTup _ _ _ => hT9); k_dflt (refine' item_tupleT hT9 ?a ?b ?c ?d ?_; (case a => decide); (case b => decide); (case c => rfl); (case d => rfl); k_whole)))
local macro_rules | `(tactic| walk_at "binaryOp Add str str") => `(tactic| (k_here; k_dflt (refine' PyProof.Rows.add_str ?_ ?z; (case z => (simp only [Str.length_append, sizeLine_eq]; omega)); k_whole); intro t' k'; (try dsimp only)))
local macro_rules | `(tactic| walk_at "call builtin:str.join") => `(tactic| (k_here; refine Hold.out ?_))
local macro_rules | `(tactic| walk_at "call type:str") => `(tactic| (k_here; refine Hold.out ?_))
local macro_rules | `(tactic| walk_at "compareOp NotIn str ref") => `(tactic| (k_here; refine Hold.out ?_))
local macro_rules | `(tactic| walk_at "exec Assign cons ListComp") => `(tactic| (k_here; refine Hold.out ?_))
theorem fin : PySem.Challenge.rw_pg0256_01.Holds := hd (by
  w_top off
  k_go0
  all_goals try k_fold
  k_steps
  refine Hold.into ?_
  rename_i wW s0 s1 mg mb G Y fa oo pm cd doc ho hcd hg XX V TT BB TE TW script hs hlay0 hL0 hr0 hl20 wa wb sl items wc hL1 ra w1 r0 hI hr1 hc1 hc2 hD h1 tk1 oN dN X0 X1 T1 K1 F1 C47 N1 l0
  refine For_turns (by k_asm) ?_ (fun _ => rfl) (by passes_own)
  have hsl : script.length ≤ 63 := by omega
  have hil : items.length ≤ 63 := by rw [hI.length]; exact hsl
  (with_reducible rename Fr _ _ _ _ => F2)
  (with_reducible rename News _ _ _ _ => N2)
  refine wpAny_mono (Q := fun v s' => Hold (FP (ghostOf s1.heap [(51, 47), (44, 40)]) s1.heap.objs.size s1 oN script v s')) ?first (FP.out ?second) (fun _ _ e => e)
  case first =>
    k_steps
    refine Hold.into ?_
    (with_reducible rename Fr _ _ _ _ => F2)
    (with_reducible rename News _ _ _ _ => N2)
    have hl3 := Fr.lst F2 lifted
    refine kmk_slice_ints (c := (script.take 2).length) F2 N2 hl3 .none (.int 2 _) hI (kmk_upto hI (by decide)) rfl ?_ (by with_unfolding_all rfl) (by intro _; with_unfolding_all rfl) (by rw [List.size_toArray, sizeLine_eq]; omega)
    intro D2 ws2 h2 F3 N3 l2 hS2 _ _
    k_steps
    · exact FP.mk F3 N3 hS2 (by rw [List.length_take]; exact Nat.min_le_left _ _) (l2 _ (.head _)) (fun z hz => .inl (List.mem_of_mem_take hz))
    · (with_reducible rename Fr _ _ _ _ => F4)
      (with_reducible rename News _ _ _ _ => N4)
      (with_reducible rename And (D2 < _) _ => l9)
      exact FP.mk (vs := [Value.int 5 _]) (ns := [5]) (n := 0) F4 (cb_drop N4 (by kcj_all)) (.cons _ _ .nil) (by decide) l9.2.1 (fun z hz => .inr (List.mem_singleton.mp hz))
  case second =>
    intro l vs ns n h tk mm F3 N3 hS hn2 lL hz
    refine' iter_listJ (l := l) (vs := vs) (n := n) (fun _ => LJ l (s1.heap.objs.size + 1) (listOf vs.toArray n)) ?hh F3 (N_l0 N3) ?hJl ?j0 ?turn ?done
    case hh => rfl
    case hJl =>
      exact fun i m nw hz9 => LJ.out hz9 fun _ _ _ _ _ e _ _ _ _ _ _ => by rw [e]; exact .tail _ (.tail _ (.tail _ (.head _)))
    case j0 =>
      exact LJ.mk (im' := []) (.inl rfl) (.inl rfl) dN (fun p hp => absurd hp List.not_mem_nil) (fun p hp => absurd hp List.not_mem_nil) (fun p hp => absurd hp List.not_mem_nil)
    case turn =>
      clear F3 N3 hD hcd ho Y G
      intro i vx m₁ nw I ito h tk hvx hz9
      intro hoI F4 N4
      refine genT ?_
      intro P1 hP1
      refine LJ.out hz9 ?_
      intro ps47 ps40 im' oC vC e9 ht47 ht40 dC q2 q3 q4
      rw [e9] at hoI N4
      clear hz9 e9
      refine slimG ?_
      intro hG9
      obtain ⟨z, tz, rfl, hz2⟩ := hS.at i vx hvx
      refine hG9 ?_
      clear hG9
      have hoI0 := hoI
      refine offs4 hoI ?_
      intro i1 i2 i3 i4 i6
      clear hoI
      k_steps
      refine Hold.into ?_
      (with_reducible rename _ = Data.cell (some (Value.int _ _)) => dC2)
      rw [num_eq] at dC2 ⊢
      have hnum := num_lt z
      have hfv := figs6_val (numZ z) hnum
      have hfl := figs6_len (numZ z)
      have hf8 := figs6_lt (numZ z)
      generalize hfs : figs6 (numZ z) = fs at hfv hfl hf8
      generalize numZ z = num at hnum hfv dC2 hfs ⊢
      obtain ⟨hdl, hdr, hdz⟩ := digs_facts (show 3 ≤ 3 by decide) fs hf8
      rw [hfl, hfv] at hdl hdr
      rw [hfv] at hdz
      (with_reducible rename News _ _ _ _ => N7)
      have N9 := N_l1 N7
      clear N7
      k_dflt (refine' int2_c _ _ _ _ _ _ num 3 _ _ ps40 _ im' (fun p hp => .tail _ (.tail _ (.tail _ (.tail _ hp)))) (by omega) (by omega) (nd 3 num) (nd_fdiv (by omega)) (by omega) ?hin2 ht40 _ _ _ _ _ _ _ _ _ _ _ _ _ _ _ _ _ ?kB ?kF ?kX ?kC N9 ?kT ?kk ?kd ?ku ?_)
      case hin2 =>
        exact off_cons (Ne.symm i2) (off_cons ((show (47 : Nat) ≠ 40 by decide)) (off_cons (Nat.ne_of_gt (Nat.lt_succ_of_lt l0.2)) (off_cons (Nat.ne_of_gt (Nat.lt_trans (Nat.lt_succ_of_lt l0.2) lL)) (q3))))
      case kC => exact codeHd
      case kB => k_asm
      case kF => k_asm
      case kX => k_asm
      case kT => k_asm
      case kk => exact rfl
      case kd => ktr_room
      case ku => ktr_units
      intro D9 vs9 nv9 ps40' c9 oc9 h10 tk10 F10 N12 hS9 ht40' hor9 z3 z4 z5 z6
      have u1 : Hold (@Ne Nat c9 I) := hor9.elim (fun h => i6 _ h) (fun h => Nat.ne_of_gt (h (I, _) (.head _)))
      have u2 : Hold (@Ne Nat c9 47) := hor9.elim (fun h => q2 _ h) (fun h => Nat.ne_of_gt (h (47, _) (.tail _ (.head _))))
      have u3 : Hold (@Ne Nat c9 (s1.heap.objs.size + 1)) := hor9.elim (fun h => q4 _ h) (fun h => Nat.ne_of_gt (h (s1.heap.objs.size + 1, _) (.tail _ (.tail _ (.head _)))))
      have u4 : Hold (@Ne Nat c9 40) := z5
      clear hor9 z5 N9
      generalize hdd : nd 3 num = dd at hdl hdr hdz hS9
      have hlD : vs9.length = dd := by rw [hS9.length, List.length_map]; unfold digsOf; rw [List.length_map, List.length_range]
      k_sweep
      k_steps
      refine Hold.into ?_
      k_dflt (refine' kun_lenL (k := dd) (News.isList (by k_asm) (by k_mem)) ?k2 ?k3 ?_)
      case k2 => simp [hlD]
      case k3 => exact (by omega)
      k_steps
      refine Hold.into ?_
      have ex : ((6 : Int) - (dd : Int)).toNat = 6 - dd := by omega
      k_dflt (refine' mul_L1 ?nF ?nN ?na ?n0 ?n1 ?_)
      case nF => k_asm
      case nN => k_asm
      case na => k_mem
      case n0 => omega
      case n1 => omega
      rw [ex]
      intro D10 h11 F11 N13 l10
      k_lt l10
      k_sweep
      k_steps
      refine Hold.into ?_
      k_dflt (refine' add_LL ?oF ?oN ?oa ?ob ?oz ?_)
      case oF => k_asm
      case oN => k_asm
      case oa => k_mem
      case ob => k_mem
      case oz => rw [hlD, List.length_replicate]; omega
      intro D11 h12 F12 N14 l11
      k_lt l11
      have hS11 : ∀ tq, IntsAre (vs9 ++ List.replicate (6 - dd) (Value.int 0 tq)) (fs.map Int.ofNat) := by
        intro tq
        rw [← hdr, List.map_append]
        exact IntsAre.append hS9 (ints_rep _ _)
      k_sweep
      k_steps
      refine Hold.into ?_
      refine' comp_R (fun k => (num >>> (3 * k)) % 8) ?F0 rfl ?clos ?cell rfl ?names rfl ?_ (fun _ => rfl)
      case F0 => k_asm
      case clos => with_unfolding_all rfl
      case cell => decide
      case names => decide
      k_steps
      refine Hold.into ?_
      (rename IsRange _ _ _ _ _ _ _ _ => rgX)
      (with_reducible rename Fr _ _ _ _ => F7)
      (with_reducible rename News _ _ _ _ => N7)
      refine compRI (n := 6) rgX (by decide) (by decide) (by omega) F7 N7 ?_ ?_
      · intro C j tj s₂ m₂ E' hj hn hm hk9
        k_steps
        rw [and7]
        exact (show _ ∧ _ from ⟨⟨_, rfl⟩, _, _, rfl, fun _ _ e => e⟩)
      intro D1 ys1 jy1 h6 tk6 F9 N9 hD1 hS1
      clear F7 N7 rgX
      k_steps
      refine Hold.into ?_
      have hS1' : IntsAre ys1 (fs.map Int.ofNat) := by rw [← hfs]; exact hS1
      refine ne_intsK (News.isList N9 (.tail _ (.head _))) (hS11 _) (News.isList N9 (.head _)) hS1' (by ktr_units) ?_
      rw [decide_eq_true rfl]
      have N10 := N_l2 N9
      clear N9 hD1 hS1 hS1'
      k_sweep
      k_steps
      refine Hold.into ?_
      (with_reducible rename News _ _ _ _ => N16)
      (with_reducible rename Fr _ _ _ _ => F7)
      have hdlen : (digsOf 3 num dd).length = dd := by unfold digsOf; rw [List.length_map, List.length_range]
      refine slice_negN (ns := digsOf 3 num dd) F7 N16 (by k_mem) hS9 (by omega) (by omega) ?_
      rw [hdlen]
      intro D13 ws13 h14 F14 N17 l13 hS13
      clear F7 N16
      k_lt l13
      k_sweep
      k_steps
      refine Hold.into ?_
      (with_reducible rename News _ _ _ _ => N7)
      have hz0 : ∀ tq, IntsAre [Value.int 0 tq] [0] := fun tq => .cons _ _ .nil
      refine eq_intsK (News.isList N7 (by k_mem)) hS13 (News.isList N7 (by k_mem)) (hz0 _) (by ktr_units) ?_
      rw [last_ne hdz]
      have N18 := N_l3 N7
      clear N7
      k_sweep
      k_steps
      refine Hold.into ?_
      have hTF := tree_facts fs (rootZ z) hfl hf8 (root_lt z)
      (with_reducible rename News _ _ _ _ => N7)
      have hbase := N7
      k_dflt (refine' edges_c _ _ _ _ _ _ D11 _ 0 fs _ (hS11 _) hfl hf8 ?hin3 _ _ _ _ _ _ _ _ _ _ _ _ _ _ _ _ _ ?kB ?kF ?kX N7 ?kT ?kk ?kd ?ku ?_)
      case hin3 =>
        intro p hp
        simp only [List.mem_cons] at hp
        refine cut10 l11 ?_
        intro a1 a2 a3 a4 a5 a6 a7 a8 a9 a10
        clear l11
        rcases hp with rfl | rfl | rfl | rfl | rfl | rfl | hp
        · exact Nat.ne_of_lt a6
        · exact Nat.ne_of_lt a7
        · exact Nat.ne_of_lt a4
        · exact Nat.ne_of_lt a8
        · exact Nat.ne_of_lt a9
        · exact Nat.ne_of_lt a5
        · exact Nat.ne_of_lt (ktn_ltOf a10 p hp)
      case kB => k_asm
      case kF => k_asm
      case kX => k_asm
      case kT => k_asm
      case kk => exact rfl
      case kd => ktr_room
      case ku => ktr_units
      intro eE wsE jE imE h15 tk15 F15 N19 hE hsE re1 re2 re3
      k_sweep
      k_steps
      refine Hold.into ?_
      rw [root_eq]
      have hroot := root_lt z
      generalize rootZ z = root at hTF hroot ⊢
      k_dflt (refine' hang_c _ _ _ _ _ _ eE wsE jE _ root _ (_ :: imE) (hE.mono fun p hp => .tail _ hp) hTF.len hroot hTF.small hTF.grow ?hin4 _ _ _ _ _ _ _ _ _ _ _ _ _ _ _ _ _ ?kB ?kF ?kX ?kN ?kT ?kk ?kd ?ku ?_)
      case kN => k_asm
      case hin4 =>
        intro p hp
        rcases List.mem_cons.mp hp with rfl | hp
        · exact re3
        · exact re1 p hp
      case kB => k_asm
      case kF => k_asm
      case kX => k_asm
      case kT => k_asm
      case kk => exact rfl
      case kd => ktr_room
      case ku => ktr_units
      intro xT dT lT ktT wsT jT imT h16 tk16 F16 N20 hPT hsT t1 t2 t3
      k_sweep
      k_steps
      refine Hold.into ?_
      have hro := hTF.rows
      have hrl := hTF.rlen
      have hrN := hTF.once
      have hrn := hTF.notes
      have hrlast := hTF.last
      have hwl : wsT.length ≤ 16 := by rw [hPT.length, hrl]; decide
      have hcr : (Str.ofString "\x0d\n").length = 2 := by decide +kernel
      have hcs : (Str.ofString ": ").length = 2 := by decide +kernel
      generalize (hangN (edgesF (List.range 8) fs) root 8).rows = rows at hPT hro hrl hrN hrn hrlast
      refine' comp_G ?F0 rfl ?clos ?cell rfl ?names rfl ?_ (fun _ => rfl)
      case F0 => k_asm
      case clos => with_unfolding_all rfl
      case cell => decide
      case names => decide
      k_steps
      refine Hold.into ?_
      (with_reducible rename News _ _ _ _ => N7)
      k_dflt (refine' rows_c _ _ _ _ _ _ _ _ _ _ _ _ _ _ hPT hro hwl t3 _ _ _ _ _ _ _ _ _ _ _ _ _ _ _ _ _ ?kB ?kF ?kX N7 ?kT ?kk ?kd ?ku ?_)
      case kB => k_asm
      case kF => k_asm
      case kX => k_asm
      case kT => k_asm
      case kk => exact rfl
      case kd => ktr_room
      case ku => ktr_units
      intro rR wsR jR qim h17 tk17 F17 N21 hqR r1 r2 r3 r4 r5 r6
      have hwR : wsR.length ≤ 16 := by rw [hqR.length, List.length_map, hrl]; decide
      refine compGI (fun a y => ∀ b q t1 t2 t3 t4, a = Value.ref b → (b, quadOf q t1 t2 t3 t4) ∈ qim → ∃ t', y = Value.str (fmtQ q) t') (l := rR) (vs := wsR) (n := jR) F17 N21 (.head _) (by omega) ?_ ?_
      · intro C v s₂ m₂ E' hv _ hn hm hk9
        refine slimG ?_
        intro hG9
        obtain ⟨b, q, t1, t2, t3', t4, rfl, hqm, hb⟩ := hqR.atM hv
        refine hG9 ?_
        clear hG9
        refine slimG ?_
        intro hG9
        obtain ⟨rr, hrr, rfl⟩ := List.mem_map.mp hqm
        refine hG9 ?_
        clear hG9
        have hl1 : (quad rr).1.length ≤ 64 := (hro rr hrr).1.1
        have hl2 : (quad rr).2.2.1.length ≤ 64 := (hro rr hrr).2.1
        have hbg := hk9 _ _ (N21 (b, quadOf (quad rr) t1 t2 t3' t4) (by repeat' (first | exact List.mem_append_left _ hb | refine .tail _ ?_))).1
        have hbT : IsTup s₂.heap b [Value.str (quad rr).1 t1, Value.str (quad rr).2.1 t2, Value.str (quad rr).2.2.1 t3', Value.str (quad rr).2.2.2 t4].toArray := ⟨_, hbg, rfl, _, rfl⟩
        k_steps
        refine (show _ ∧ _ from ⟨?_, _, _, rfl, fun _ _ e => e⟩)
        intro b' q' u1 u2 u3 u4 e' hb'
        cases e'
        have hbg2 := hk9 _ _ (N21 (b, quadOf q' u1 u2 u3 u4) (by repeat' (first | exact List.mem_append_left _ hb' | refine .tail _ ?_))).1
        rw [← quadOf_inj (Option.some.inj (hbg.symm.trans hbg2))]
        exact ⟨_, rfl⟩
      intro DP ysP jP h18 tk18 F18 N22 hDP hPP
      have hSP := hqR.strs fmtQ hPP
      have N23 := N_l4 N22
      clear hPP N22
      k_sweep
      k_steps
      refine Hold.into ?_
      have hpg := page_eq rows
      have hpgl := P_len rows hro
      have hjl : (Txt.join (Str.ofString "") ((rows.map quad).map fmtQ)).length ≤ 2000 := by
        rw [← hpg, Str.length_append] at hpgl
        omega
      have hlq : ∀ y ∈ (rows.map quad).map fmtQ, y.length ≤ 140 := by
        intro y hy
        refine slimG ?_
        intro hG9
        obtain ⟨q, hq, rfl⟩ := List.mem_map.mp hy
        refine hG9 ?_
        clear hG9
        refine slimG ?_
        intro hG9
        obtain ⟨rr, hrr, rfl⟩ := List.mem_map.mp hq
        refine hG9 ?_
        clear hG9
        have h1 : (quad rr).1.length ≤ 64 := (hro rr hrr).1.1
        have h2 : (quad rr).2.2.1.length ≤ 64 := (hro rr hrr).2.1
        unfold fmtQ
        simp only [Str.length_append]
        omega
      have hlsum := sum_len_le _ hlq
      have hll : ((rows.map quad).map fmtQ).length = 7 := by rw [List.length_map, List.length_map, hrl]
      (with_reducible rename News _ _ _ _ => N7)
      refine join_N N7 (.head _) hSP (by decide +kernel) (by omega) ?_
      replace N7 := cb_drop N7 (fun p hp => .tail _ hp)
      intro tj kj
      generalize Txt.join (Str.ofString "") ((rows.map quad).map fmtQ) = jn at hpg hjl ⊢
      clear hSP hlq hlsum hll hDP
      k_sweep
      k_steps
      refine Hold.into ?_
      rw [hpg] at *
      have hr64 : ∀ r ∈ rows, r.1.length ≤ 64 ∧ r.2.length ≤ 64 := fun r h => ⟨(hro r h).1.1, (hro r h).2.1⟩
      (with_reducible rename News _ _ _ _ => N7)
      k_dflt (refine' str_c _ _ _ _ _ _ _ _ _ _ _ _ _ _ hPT hr64 (by omega) _ _ _ _ _ _ _ _ _ _ _ _ _ _ _ _ _ ?kB ?kF ?kX N7 ?kT ?kk ?kd ?ku ?_)
      case kB => k_asm
      case kF => k_asm
      case kX => k_asm
      case kT => k_asm
      case kk => exact rfl
      case kd => ktr_room
      case ku => ktr_units
      intro t19 h19 tk19 F19 N24
      clear N7
      k_sweep
      k_steps
      · (with_reducible rename (_ != _) = true => hb9)
        exact absurd hb9 (by simp)
      refine Hold.into ?_
      (with_reducible rename News _ _ _ _ => N7)
      k_dflt (refine' notes_c _ _ _ _ _ _ _ _ _ _ _ _ _ _ hPT hro hwl t1 t2 t3 hrN _ _ _ _ _ _ _ _ _ _ _ _ _ _ _ _ _ ?kB ?kF ?kX N7 ?kT ?kk ?kd ?ku ?_)
      case kB => k_asm
      case kF => k_asm
      case kX => k_asm
      case kT => k_asm
      case kk => exact rfl
      case kd => ktr_room
      case ku => ktr_units
      intro nt nsT jnT wsU jU imU h20 tk20 F20 N25 hSN hPU hsU g1 g2 g3 g4 g5
      refine slimG ?_
      intro hG9
      obtain ⟨r9, hr9, hh9⟩ := hrlast
      refine hG9 ?_
      clear hG9
      have hro9 : RowsOk (notesN rows 6).2 := fun r hr => hro r ((notesN_sub rows 6).1 r hr)
      rw [hrn] at hSN
      have N26 := N_l5 N25
      clear N7 N25
      k_sweep
      k_steps
      refine Hold.into ?_
      (with_reducible rename News _ _ _ _ => N7)
      have N27 := N_l6 N7
      k_dflt (refine' rows_c _ _ _ _ _ _ _ _ _ _ _ _ _ _ (hPU.mono fun p hp => .tail _ hp) hro9 (by rw [hPU.length, hr9]; exact (by decide : (1 : Nat) ≤ 16)) ?hin5 _ _ _ _ _ _ _ _ _ _ _ _ _ _ _ _ _ ?kB ?kF ?kX N27 ?kT ?kk ?kd ?ku ?_)
      case hin5 =>
        intro p hp
        rcases List.mem_cons.mp hp with rfl | hp
        · exact Ne.symm g3
        · exact g1 p hp
      case kB => k_asm
      case kF => k_asm
      case kX => k_asm
      case kT => k_asm
      case kk => exact rfl
      case kd => ktr_room
      case ku => ktr_units
      intro rL wsL jL qimL h21 tk21 F21 N28 hqL k1 k2 k3 k4 k5 k6
      rw [hr9] at hqL
      refine slimG ?_
      intro hG9
      obtain ⟨bL, s1', s2', s3', s4', rfl, hbL⟩ := quads_one hqL
      refine hG9 ?_
      clear hG9
      have N29 := N_l7 N28 hbL
      clear N27 N28 N7 hqL
      k_sweep
      k_steps
      refine Hold.into ?_
      k_dflt (refine' kun_lenL (k := 1) (News.isList (by k_asm) (by k_mem)) ?k2 ?k3 ?_)
      case k2 => rfl
      case k3 => decide
      k_steps
      refine Hold.into ?_
      (with_reducible rename News _ _ _ _ => N7)
      refine notin_tuple_strs (ys := [(quad r9).2.1, (quad r9).2.2.2]) ⟨_, (N7 _ (.head _)).1, rfl, _, rfl⟩ (.cons _ _ (.cons _ _ .nil)) ?_
      rw [h_in hh9]
      have N30 := N_l8 N7
      clear N7
      k_sweep
      k_steps
      refine Hold.into ?_
      refine' comp_LA (fun _ => true) (fun v y => ∃ t', y = Value.int ((natC v : Nat) : Int) t') ?m1 ?m2 ?m3 ?m4 ?m5 ?m6 ?m7 ?m8 ?m9 ?m10 ?m11 ?_ (fun _ => rfl)
      case m1 => k_asm
      case m2 => with_unfolding_all rfl
      case m3 => rfl
      case m4 => rfl
      case m5 => with_unfolding_all rfl
      case m6 => decide
      case m7 => rfl
      case m8 => decide
      case m9 => rfl
      case m10 => rfl
      case m11 => rfl
      k_steps
      refine Hold.into ?_
      (with_reducible rename Fr _ _ _ _ => F7)
      (with_reducible rename News _ _ _ _ => N7)
      have hSN2 : StrsAre nsT ((fs.map (97 + ·)).map chr) := hSN
      have hnl : nsT.length = 6 := by rw [StrsAre.len_eq hSN2, List.length_map, List.length_map, hfl]
      refine compI (l := nt) (vs := nsT) (n := jnT) F7 N7 (.head _) (by omega) ?_ ?_ ?_
      · intro C v s₂ m₂ E' hv hn hm hk9
        exact wpAny_pure (show _ ∧ _ from ⟨rfl, _, _, rfl, fun _ _ e => e⟩)
      · intro C v s₂ m₂ E' hv _ hn hm hk9
        refine slimG ?_
        intro hG9
        obtain ⟨c, tc, rfl, hc⟩ := strs_mem hSN2 v hv
        refine hG9 ?_
        clear hG9
        refine slimG ?_
        intro hG9
        obtain ⟨a, ha, rfl⟩ := List.mem_map.mp hc
        refine hG9 ?_
        clear hG9
        have ha8 := hf8 a ha
        k_steps
        rw [abc_find a ha8]
        exact (show _ ∧ _ from ⟨⟨_, by rw [natC_chr]⟩, _, _, rfl, fun _ _ e => e⟩)
      intro DF ysF jF h22 tk22 F22 N31 hDF hPF
      have hfl9 : List.filter (fun (_ : Value) => true) nsT = nsT := List.filter_eq_self.mpr fun _ _ => rfl
      rw [hfl9] at hPF
      have hSF := figs_are hSN2 hf8 hPF
      clear hPF
      k_sweep
      k_steps
      refine Hold.into ?_
      (with_reducible rename News _ _ _ _ => N7)
      have hsall := fun p hp => hsU p (hsT p (.tail _ (hsE p hp)))
      have N33 := N_l9 N7 hsall
      clear N7 hsall
      k_dflt (refine' val_c _ _ _ _ _ _ DF ysF jF fs 3 _ ps47 _ im' (fun p hp => .tail _ (.tail _ (.tail _ (.tail _ (.tail _ hp))))) hSF (by omega) hf8 (by omega) ?hin6 ?hD47 ht47 _ _ _ _ _ _ _ _ _ _ _ _ _ _ _ _ _ ?kB ?kF ?kX ?kC N33 ?kT ?kk ?kd ?ku ?_)
      case hin6 =>
        exact off_cons (Ne.symm i1) (off_cons ((show (40 : Nat) ≠ 47 by decide)) (off_cons (Nat.ne_of_gt (Nat.lt_succ_of_lt l0.1)) (off_cons (Nat.ne_of_gt (Nat.lt_trans (Nat.lt_succ_of_lt l0.1) lL)) (off_cons (u2) (q2)))))
      case hD47 => exact Ne.symm (hDF (47, _) (.tail _ (hsU _ (hsT _ (.tail _ (hsE _ (.tail _ (.head _))))))))
      case kC => exact C47
      case kB => k_asm
      case kF => k_asm
      case kX => k_asm
      case kT => k_asm
      case kk => exact rfl
      case kd => ktr_room
      case ku => ktr_units
      intro t23 ps47' c8 oc8 h23 tk23 F23 N34 ht47' hor8 z7 z8
      rw [hfv]
      have v1 : Hold (@Ne Nat c8 I) := hor8.elim (fun h => i6 _ h) (fun h => Nat.ne_of_gt (h (I, _) (.head _)))
      have v2 : Hold (@Ne Nat c8 40) := hor8.elim (fun h => q3 _ h) (fun h => Nat.ne_of_gt (h (40, _) (.tail _ (.head _))))
      have v3 : Hold (@Ne Nat c8 (s1.heap.objs.size + 1)) := hor8.elim (fun h => q4 _ h) (fun h => Nat.ne_of_gt (h (s1.heap.objs.size + 1, _) (.tail _ (.tail _ (.head _)))))
      have v4 : Hold (@Ne Nat c8 47) := z7
      clear N33 hor8
      k_sweep
      k_steps
      · (with_reducible rename @Ne Int _ _ => hne9)
        exact absurd rfl hne9
      refine Hold.into ?_
      (with_reducible rename News _ _ _ _ => N7)
      have N35 := N_la N7
      clear N7
      k_dflt (refine' packs_c _ _ _ _ _ _ DF ysF jF fs ps47' ps40' _ ((c8, oc8) :: (c9, oc9) :: im') (fun p hp => .tail _ (.tail _ (.tail _ hp))) hSF hfl hf8 ?hg7 ?hg4 ?hi7 ?hi4 (ht47'.mono ?hm1) (ht40'.mono ?hm2) _ _ _ _ _ _ _ _ _ _ _ _ _ _ _ _ _ ?kB ?kF ?kX ?kC ?kC2 N35 ?kT ?kk ?kd ?ku ?_)
      case hg7 => exact Ne.symm (hDF (47, _) (.tail _ (hsU _ (hsT _ (.tail _ (hsE _ (.tail _ (.head _))))))))
      case hg4 => exact Ne.symm (hDF (40, _) (.tail _ (hsU _ (hsT _ (.tail _ (hsE _ (.tail _ (.tail _ (.head _)))))))))
      case hi7 =>
        exact off_cons (Ne.symm i1) (off_cons (Nat.ne_of_gt (Nat.lt_succ_of_lt l0.1)) (off_cons (Nat.ne_of_gt (Nat.lt_trans (Nat.lt_succ_of_lt l0.1) lL)) (off_cons (v4) (off_cons (u2) (q2)))))
      case hi4 =>
        exact off_cons (Ne.symm i2) (off_cons (Nat.ne_of_gt (Nat.lt_succ_of_lt l0.2)) (off_cons (Nat.ne_of_gt (Nat.lt_trans (Nat.lt_succ_of_lt l0.2) lL)) (off_cons (v2) (off_cons (u4) (q3)))))
      case hm1 =>
        intro p hp
        rcases List.mem_cons.mp hp with rfl | hp
        · exact .head _
        · exact .tail _ (.tail _ hp)
      case hm2 => exact fun p hp => .tail _ hp
      case kC => exact C47
      case kC2 => exact codeHd
      case kB => k_asm
      case kF => k_asm
      case kX => k_asm
      case kT => k_asm
      case kk => exact rfl
      case kd => ktr_room
      case ku => ktr_units
      intro tb ps47f ps40f imf imt h24 tk24 htb F24 N36 ht47f ht40f w1 w2 w3 w4 w5
      subst htb
      have N37 := N_lb N36 w3 w1
      have x1 : ∀ p ∈ imt, p.1 ≠ I := fun p hp => (w2 p hp).elim (fun h => by
        simp only [List.mem_cons] at h
        rcases h with rfl | rfl | h
        · exact v1
        · exact u1
        · exact i6 p h) (fun h => Nat.ne_of_gt (h (I, _) (.head _)))
      have x2 : ∀ p ∈ imt, p.1 ≠ s1.heap.objs.size + 1 := fun p hp => (w2 p hp).elim (fun h => by
        simp only [List.mem_cons] at h
        rcases h with rfl | rfl | h
        · exact v3
        · exact u3
        · exact q4 p h) (fun h => Nat.ne_of_gt (h (s1.heap.objs.size + 1, _) (.tail _ (.head _))))
      clear N35 N36
      k_sweep
      k_steps
      (with_reducible rename Fr _ _ _ _ => F25)
      (with_reducible rename News _ _ _ _ => N38)
      refine hP1 _ _ ?_
      show JEnd _ _ I ito _ _ _
      refine JEnd.intro F25 N38 (.head _) (fun p hp => .tail _ hp) ?hoL (LJ.mk ht47f ht40f dC2 (fun p hp => w4 p (w1 p hp)) (fun p hp => w5 p (w1 p hp)) x2)
      exact off_cons (i1) (off_cons (i2) (off_cons (i3) (off_cons (i4) (x1))))
    case done =>
      intro m₁ nw h tk hz9
      intro F4 N4
      refine LJ.out hz9 ?_
      intro ps47 ps40 im' oC vC e9 ht47 ht40 dC q2 q3 q4
      rw [e9] at N4
      clear hz9 e9
      k_steps)
end Mine
end PartW15

theorem PySem.Challenge.cw_pg0256_01_holds : PySem.Challenge.rw_pg0256_01.Holds :=
  Mine.fin
