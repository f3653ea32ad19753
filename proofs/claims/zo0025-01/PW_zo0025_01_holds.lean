import PyProof.Rows.All
import Wide.All
import OpenK.AllK
import Wide.FinOn
import Lean
import PySem.Challenge.RW_zo0025_01
set_option Elab.async false
namespace Mine
section -- ZTop
open PySem PySem.W PyProof.Rows
set_option maxRecDepth 100000
set_option maxHeartbeats 8000000
open_top hd for PySem.Challenge.rw_zo0025_01
end
section -- ZRe
theorem offZRe : True := by
  w_top off
  trivial
open PySem PySem.Sre
set_option maxRecDepth 100000
/-- the pattern's words -/
def reC : Array Nat := #[14, 8, 1, 2, 4294967295, 1, 1, 46, 0, 16, 46, 24, 9, 1, 4294967295, 13, 4, 8, 0, 0, 1, 6, 5, 1]
def reAt (text : Array Nat) (s pc pos hn : Nat) (ma om fo : Bool) (mk : Array (Option Nat)) (sn : Seen) (an : Option Bool) : M :=
  { code := reC, text, lim := text.size, start := s, lastStart := text.size, mustAdvance := ma, pc, pos, handed := hn, outermost := om, marks := mk,
    frames := [{ wait := .nextStart, pc := 9, pos := s, outermost := fo }], weight := 1, answer := an, seen := sn }
theorem re_end {text : Array Nat} {s hn : Nat} {ma om fo : Bool} {mk} {sn : Seen} (h : text.size ≤ s) :
    ∃ sn', M.step (reAt text s 9 s hn ma om fo mk sn none) = reAt text s 9 s hn ma om fo mk sn' (some false) := by
  refine ⟨sn.add 16, ?_⟩
  have e : ops[reC.getD 9 0]? = some .LITERAL := rfl
  have e0 : (9 : Nat) < reC.size := by decide
  unfold M.step reAt
  simp only [Option.isSome_none, Bool.false_eq_true, if_false, e0, if_true]
  unfold M.exec M.word
  simp only [Nat.add_zero, e]
  rw [if_pos h]
  rfl
theorem re_other {text : Array Nat} {s hn : Nat} {ma om fo : Bool} {mk} {sn : Seen} (h : s < text.size) (hc : text.getD s 0 ≠ 46) :
    ∃ sn', M.step (reAt text s 9 s hn ma om fo mk sn none) = reAt text s 9 s hn ma om fo mk sn' (some false) := by
  refine ⟨sn.add 16, ?_⟩
  have e : ops[reC.getD 9 0]? = some .LITERAL := rfl
  have e0 : (9 : Nat) < reC.size := by decide
  unfold M.step reAt
  simp only [Option.isSome_none, Bool.false_eq_true, if_false, e0, if_true]
  unfold M.exec M.word
  simp only [Nat.add_zero, e]
  rw [if_neg (by omega)]
  unfold accepts
  simp only [e]
  have e1 : reC.getD (9 + 1) 0 = 46 := rfl
  have e2 : (text.getD s 0 == 46) = false := by simpa using hc
  rw [e1, e2]
  rfl
theorem re_dot {text : Array Nat} {s hn : Nat} {ma om fo : Bool} {mk} {sn : Seen} (h : s < text.size) (hc : text.getD s 0 = 46) :
    ∃ sn', M.step (reAt text s 9 s hn ma om fo mk sn none) = reAt text s 11 (s + 1) hn ma om fo mk sn' none := by
  refine ⟨sn.add 16, ?_⟩
  have e : ops[reC.getD 9 0]? = some .LITERAL := rfl
  have e0 : (9 : Nat) < reC.size := by decide
  unfold M.step reAt
  simp only [Option.isSome_none, Bool.false_eq_true, if_false, e0, if_true]
  unfold M.exec M.word
  simp only [Nat.add_zero, e]
  rw [if_neg (by omega)]
  unfold accepts
  simp only [e]
  have e1 : reC.getD (9 + 1) 0 = 46 := rfl
  have e2 : (text.getD s 0 == 46) = true := by simpa using hc
  rw [e1, e2]
  rfl
theorem re_run {text : Array Nat} {n p : Nat} {sn : Seen} (hd : isDigit (text.getD p 0) = false) : ∃ sn', Sre.run reC text 15 (n + 1) p 0 sn = .ok (0, sn') := by
  have e : ops[reC.getD 15 0]? = some .IN := rfl
  have e1 : ops[reC.getD 17 0]? = some .CATEGORY := rfl
  have e2 : ops[reC.getD 19 0]? = some .FAILURE := rfl
  have e3 : reC.getD 18 0 = 0 := rfl
  have hs : reC.size = 22 + 2 := rfl
  unfold Sre.run accepts
  simp only [e, hs]
  unfold inSet
  simp only [Nat.add_zero, e1, e3]
  have hc : category 0 (text.getD p 0) = .ok false := by
    generalize text.getD p 0 = c at hd
    show Except.map (· != false) (.ok (isDigit c)) = _
    rw [hd]
    rfl
  rw [hc]
  unfold inSet
  simp only [Nat.add_zero, e2]
  exact ⟨_, rfl⟩
theorem re_rep {text : Array Nat} {s hn : Nat} {ma om fo : Bool} {mk} {sn : Seen} (hd : isDigit (text.getD (s + 1) 0) = false) :
    ∃ sn', M.step (reAt text s 11 (s + 1) hn ma om fo mk sn none) = reAt text s 11 (s + 1) hn ma om fo mk sn' (some false) := by
  have e : ops[reC.getD 11 0]? = some .REPEAT_ONE := rfl
  have e0 : (11 : Nat) < reC.size := by decide
  unfold M.step reAt
  simp only [Option.isSome_none, Bool.false_eq_true, if_false, e0, if_true]
  unfold M.exec M.word
  simp only [Nat.add_zero, e]
  have e2 : reC.getD (11 + 2) 0 = 1 := rfl
  have e3 : reC.getD (11 + 3) 0 = 4294967295 := rfl
  rw [e2, e3]
  by_cases hr : ((1 : Nat) : Int) > ((text.size : Nat) : Int) - ((s + 1 : Nat) : Int)
  · rw [if_pos hr]
    exact ⟨_, rfl⟩
  · rw [if_neg hr]
    obtain ⟨k, hk⟩ : ∃ k, (((text.size : Nat) : Int) - ((s + 1 : Nat) : Int)).toNat = k + 1 := ⟨(((text.size : Nat) : Int) - ((s + 1 : Nat) : Int)).toNat - 1, by omega⟩
    have hm : min 4294967295 (k + 1) = (min 4294967294 k) + 1 := by omega
    rw [hk]
    simp only [Bool.false_eq_true, if_false]
    rw [hm]
    have e4 : reC.getD (11 + 4) 0 = 13 := rfl
    have e5 : reC.getD 11 0 = 24 := rfl
    rw [e4, e5]
    obtain ⟨sn', hs⟩ := re_run (n := min 4294967294 k) (sn := (sn.add 24).add 13) hd
    refine ⟨sn', ?_⟩
    rw [show 11 + 4 = 15 from rfl, hs]
    rfl
theorem re_next {text : Array Nat} {s pc pos hn : Nat} {ma om fo : Bool} {mk} {sn : Seen} (h : s < text.size) :
    M.step (reAt text s pc pos hn ma om fo mk sn (some false)) = reAt text (s + 1) 9 (s + 1) (s + 1) false false false mk sn none := by
  unfold M.step reAt
  simp only [Option.isSome_none, Bool.false_eq_true, if_false]
  unfold M.resume
  simp only [Bool.false_eq_true, if_false]
  rw [if_pos h]
  rfl
theorem re_last {text : Array Nat} {pc pos hn : Nat} {ma om fo : Bool} {mk} {sn : Seen} :
    ∃ m', M.step (reAt text text.size pc pos hn ma om fo mk sn (some false)) = m' ∧ m'.outcome = none ∧ m'.answer = some false ∧ m'.frames = [] := by
  refine ⟨_, rfl, ?_⟩
  unfold M.step reAt
  simp only [Option.isSome_none, Bool.false_eq_true, if_false]
  unfold M.resume
  simp only [Bool.false_eq_true, if_false]
  rw [if_neg (Nat.lt_irrefl _)]
  exact ⟨rfl, rfl, rfl⟩
theorem re_dead {m : M} (h1 : m.outcome = none) (h2 : m.answer = some false) (h3 : m.frames = []) : ∃ m', M.step m = m' ∧ m'.outcome = some .failed := by
  refine ⟨_, rfl, ?_⟩
  unfold M.step
  rw [h1, h2, h3]
  rfl
theorem runFor_step {n : Nat} {m : M} (h : m.outcome = none) : M.runFor (n + 1) m = M.runFor n m.step := by
  rw [M.runFor, h]; rfl
theorem runFor_done : ∀ {n : Nat} {m : M}, m.outcome.isSome = true → M.runFor n m = m
  | 0, _, _ => rfl
  | n + 1, m, h => by rw [M.runFor, if_pos h]
theorem runFor_add : ∀ (a b : Nat) (m : M), M.runFor (a + b) m = M.runFor b (M.runFor a m)
  | 0, b, m => by rw [Nat.zero_add]; rfl
  | a + 1, b, m => by
    rw [Nat.succ_add_eq_add_succ, Nat.add_succ, M.runFor, M.runFor]
    cases h : m.outcome.isSome with
    | true => simp only [if_true]; rw [runFor_done h]
    | false => simp only [Bool.false_eq_true, if_false]; exact runFor_add a b _
/-- a text of no digits: the search ends without a find, some steps on -/
theorem re_runs {text : Array Nat} (hd : ∀ i, isDigit (text.getD i 0) = false) : ∀ (k s hn : Nat) (ma om fo : Bool) (mk) (sn : Seen), s + k = text.size →
    ∃ N, N ≤ 3 * k + 3 + 2 ∧ (M.runFor N (reAt text s 9 s hn ma om fo mk sn none)).outcome = some .failed := by
  intro k
  induction k with
  | zero =>
    intro s hn ma om fo mk sn h
    obtain rfl : s = text.size := by omega
    obtain ⟨sn1, e1⟩ := re_end (text := text) (s := text.size) (hn := hn) (ma := ma) (om := om) (fo := fo) (mk := mk) (sn := sn) (Nat.le_refl _)
    obtain ⟨m2, e2, o2, a2, f2⟩ := re_last (text := text) (pc := 9) (pos := text.size) (hn := hn) (ma := ma) (om := om) (fo := fo) (mk := mk) (sn := sn1)
    obtain ⟨m3, e3, o3⟩ := re_dead o2 a2 f2
    refine ⟨3, by omega, ?_⟩
    rw [runFor_step rfl, e1, runFor_step rfl, e2, runFor_step o2, e3]
    exact o3
  | succ k ih =>
    intro s hn ma om fo mk sn h
    have hs : s < text.size := by omega
    by_cases hc : text.getD s 0 = 46
    · obtain ⟨sn1, e1⟩ := re_dot (text := text) (s := s) (hn := hn) (ma := ma) (om := om) (fo := fo) (mk := mk) (sn := sn) hs hc
      obtain ⟨sn2, e2⟩ := re_rep (text := text) (s := s) (hn := hn) (ma := ma) (om := om) (fo := fo) (mk := mk) (sn := sn1) (hd (s + 1))
      obtain ⟨N, hN, hf⟩ := ih (s + 1) (s + 1) false false false mk sn2 (by omega)
      refine ⟨N + 3, by omega, ?_⟩
      rw [runFor_step rfl, e1, runFor_step rfl, e2, runFor_step rfl, re_next hs]
      exact hf
    · obtain ⟨sn1, e1⟩ := re_other (text := text) (s := s) (hn := hn) (ma := ma) (om := om) (fo := fo) (mk := mk) (sn := sn) hs hc
      obtain ⟨N, hN, hf⟩ := ih (s + 1) (s + 1) false false false mk sn1 (by omega)
      refine ⟨N + 2, by omega, ?_⟩
      rw [runFor_step rfl, e1, runFor_step rfl, re_next hs]
      exact hf
theorem re_search {text : Array Nat} (hd : ∀ i, isDigit (text.getD i 0) = false) : ∃ N, N ≤ 3 * text.size + 5 ∧ (M.runFor N (forSearch reC text 0 0 text.size false)).outcome = some .failed := by
  by_cases h : text.size < 2
  · have e : ∃ m', forSearch reC text 0 0 text.size false = m' ∧ m'.outcome = none ∧ m'.answer = some false ∧ m'.frames = [] := by
      refine ⟨_, rfl, ?_⟩
      unfold forSearch
      have hh : header reC = (2, 9) := rfl
      simp only [hh]
      rw [if_pos (by simp; omega)]
      exact ⟨rfl, rfl, rfl⟩
    obtain ⟨m', e1, o1, a1, f1⟩ := e
    obtain ⟨m3, e3, o3⟩ := re_dead o1 a1 f1
    refine ⟨1, by omega, ?_⟩
    rw [e1, runFor_step o1, e3]
    exact o3
  · have e : ∃ ma om fo mk sn, forSearch reC text 0 0 text.size false = reAt text 0 9 0 0 ma om fo mk sn none := by
      unfold forSearch
      have hh : header reC = (2, 9) := rfl
      simp only [hh]
      rw [if_neg (by simp; omega)]
      exact ⟨_, _, _, _, _, rfl⟩
    obtain ⟨ma, om, fo, mk, sn, e⟩ := e
    rw [e]
    obtain ⟨N, hN, hf⟩ := re_runs hd text.size 0 0 ma om fo mk sn (by omega)
    exact ⟨N, by omega, hf⟩
end
open PySem PySem.W PyProof.Rows PySem.Calls
section -- ZBase
theorem offZBase : True := by
  w_top off
  trivial
open PySem.Spec
set_option maxRecDepth 100000
/-- the contract of a call of one of the text's functions: it hands back a value and some new objects, all else stands; k: how many calls deep it goes -/
def Con (w : World) (k : Nat) (f : Addr) (vs : List Value) (P : Heap → Prop) (R : Value → List (Addr × Obj) → Prop) : Prop :=
  ∀ (prog p : Program) (loose : List Str) (mean : ExcName → Option Value) (mg mb : Str → Option Value) (dp un : Nat) (cn : Str) (cs : Scope) (a : Addr) (ccd : Value) (cl : List (Str × Addr))
    (outer : List Env) (A₀ : Around) (base h₀ : Heap) (L : Addr) (m : Str → Option Value) (s : Shared) (Q E : Value → Shared → Prop),
    Below A₀ base outer h₀ → Fr h₀ L s.heap m → (hd.heap_39 w.params).In h₀ → Top p loose mean mg mb h₀ → cs.kind = .function →
    dp + k ≤ 900 → un + 10 * k ≤ 2000 → P s.heap →
    (∀ v own h' tk', R v own → (∀ b o, s.heap.get? b = some o → h'.get? b = some o) → (∀ q ∈ own, h'.get? q.1 = some q.2 ∧ s.heap.get? q.1 = none) → Q v { s with heap := h', toks := tk' }) →
    wpAny (model prog w) (ktrTop dp un (some []) cn cs L a ccd cl outer) (call (.ref f) vs) Q E s

/-- how a body ends -/
def Ends (g : Heap) (L : Addr) (s : Shared) (R : Value → List (Addr × Obj) → Prop) (fl : Flow) (s' : Shared) : Prop :=
  ∃ m2 own h2 tk2, s' = { s with heap := h2, toks := tk2 } ∧ R (match fl with | .ret v => v | _ => .none) own ∧ Fr g L h2 m2 ∧ News g L h2 own

theorem con_of {w : World} {k : Nat} {f : Addr} {vs : List Value} {P : Heap → Prop} {R : Value → List (Addr × Obj) → Prop} {name qual : Str} {params : Arguments} {body : List Stmt} {scope : Scope} {dV kV doc pm cdv ct oc : Value} {an od : Option Addr} {osl : Array (Option Value)} {binds : List (Str × Value)}
    {mm : Str → Option Value}
    (ho : (hd.heap_39 w.params).lookup f = some ⟨oc, od, .func (fnOf name qual params body scope dV kV doc pm an cdv ct), osl⟩) (hcd : codeIn (hd.heap_39 w.params) cdv qual = true)
    (hbind : ∀ s, BindsTo s (fnOf name qual params body scope dV kV doc pm an cdv ct) ⟨vs, []⟩ binds) (hloc : ∀ y ∈ binds, scope.names.lookup y.1 = some .local)
    (hmm : ∀ y, binds.reverse.lookup y = mm y)
    (h : ∀ (prog p : Program) (loose : List Str) (mean : ExcName → Option Value) (mg mb : Str → Option Value) (dp un : Nat) (outer : List Env) (A₀ : Around) (base g : Heap) (L : Addr) (h₁ : Heap) (tk : Nat) (s : Shared),
      Below A₀ base outer g → Fr g L h₁ mm → (hd.heap_39 w.params).In g → Top p loose mean mg mb g → dp + k ≤ 901 → un + 10 * k ≤ 2003 → P g →
      wpAny (model prog w) (ktrTop dp un (some []) qual scope L f cdv [] outer) (execs body (envX qual scope L f cdv [])) (Ends g L s R) (fun _ _ => False) { s with heap := h₁, toks := tk })
    (hP : ∀ a b : Heap, (∀ x o, a.get? x = some o → b.get? x = some o) → P a → P b)
    (hk0 : 0 < k) (hco : scope.isCoroutine = false) (hgen : scope.isGenerator = false) (hk : scope.kind = .function) (hcell : ∀ x ∈ scope.names, x.2 ≠ .cell) : Con w k f vs P R := by
  intro prog p loose mean mg mb dp un cn cs a ccd cl outer A₀ base h₀ L m s Q E B F X T hkc hdp hun hp ret
  refine wpAny_call ?_
  refine code_defG (news := []) B F X News.nil T rfl rfl hkc ho hcd ?_ (hbind s) hloc ?_ hco hgen hk hcell
  · show dp < recursionLimit
    unfold recursionLimit; omega
  · intro g L' h₁ FG F' N' B' X' T' G
    have F2 : Fr g L' h₁ mm := ⟨by
      have := F'.ns
      have e : (fun y => binds.reverse.lookup y) = mm := funext hmm
      rw [e] at this; exact this, F'.keep, F'.above⟩
    have hsub : ∀ b o, s.heap.get? b = some o → g.get? b = some o := fun b o e => G b o e (fun hm => nomatch hm)
    have hh := h prog p loose mean mg mb (dp + 1) (un + 3) (envX cn cs L a ccd cl :: outer) _ base g L' h₁ (s.toks + binds.length) s B' F2 X' T' (by omega) (by omega) (hP _ _ hsub hp)
    refine wpAny_mono hh (fun fl s' he => ?_) (fun _ _ hf => hf.elim)
    obtain ⟨m2, own, h2, tk2, rfl, hR, Fe, Ne⟩ := he
    refine leaveK_ Fe Ne (fun _ _ => ?_)
    refine ret _ own h2 tk2 hR (fun b o e => Fe.keep b o (hsub b o e)) (fun q hq => ⟨(Ne q hq).1, ?_⟩)
    cases e : s.heap.get? q.1 with
    | none => rfl
    | some o => have := (Ne q hq).2.2; rw [hsub _ _ e] at this; cases this

theorem Con.use {w : World} {k : Nat} {f : Addr} {vs : List Value} {P : Heap → Prop} {R : Value → List (Addr × Obj) → Prop} (C : Con w k f vs P R)
    {prog p : Program} {loose : List Str} {mean : ExcName → Option Value} {mg mb : Str → Option Value} {dp un : Nat} {cn : Str} {cs : Scope} {a : Addr} {ccd : Value} {cl : List (Str × Addr)}
    {outer : List Env} {A₀ : Around} {base h₀ : Heap} {L : Addr} {m : Str → Option Value} {news : List (Addr × Obj)} {s : Shared} {Q E : Value → Shared → Prop}
    (B : Below A₀ base outer h₀) (F : Fr h₀ L s.heap m) (X : (hd.heap_39 w.params).In h₀) (N : News h₀ L s.heap news) (T : Top p loose mean mg mb h₀) (hk : cs.kind = .function)
    (hd : dp + k ≤ 900) (hu : un + 10 * k ≤ 2000) (hp : P s.heap)
    (ret : ∀ v own h' tk', R v own → Fr h₀ L h' m → News h₀ L h' (own ++ news) → (∀ q ∈ own, ∀ x ∈ news, x.1 ≠ q.1) → Q v { s with heap := h', toks := tk' }) :
    wpAny (model prog w) (ktrTop dp un (some []) cn cs L a ccd cl outer) (call (.ref f) vs) Q E s :=
  C prog p loose mean mg mb dp un cn cs a ccd cl outer A₀ base h₀ L m s Q E B F X T hk hd hu hp (fun v own h' tk' hR hkeep hown => by
    refine ret v own h' tk' hR (F.keeps hkeep) ?_ ?_
    · intro q hq
      rcases List.mem_append.mp hq with hq | hq
      · refine ⟨(hown q hq).1, ?_, ?_⟩
        · intro e
          obtain ⟨oL, es, ep, hL, _⟩ := F.ns
          have := (hown q hq).2
          rw [e, hL] at this; cases this
        · cases e : h₀.get? q.1 with
          | none => rfl
          | some o => have := (hown q hq).2; rw [F.keep _ _ e] at this; cases this
      · exact ⟨hkeep _ _ (N q hq).1, (N q hq).2⟩
    · intro q hq x hx e
      have h1 := (hown q hq).2
      rw [← e, (N x hx).1] at h1; cases h1)
theorem pinF {h₀ h : Heap} {L : Addr} {m : Str → Option Value} {x : Str} {v : Value} (F : Fr h₀ L h m) (e : m x = some v) : Fr h₀ L h (fun y => if y = x then some v else m y) := by
  have q : (fun y => if y = x then some v else m y) = m := by
    funext y
    by_cases h1 : y = x
    · rw [if_pos h1, h1, e]
    · rw [if_neg h1]
  rw [q]; exact F
/-- no more than the words that fill the library's own register -/
def Dummy (w : World) : Prop := PySem.Challenge.rw_zo0025_01 = PySem.Challenge.rw_zo0025_01 ∧ hd.heap_39 w.params = hd.heap_39 w.params
end
section -- ZBase2
theorem offZBase2 : True := by
  w_top off
  trivial
open PySem.Spec
set_option maxRecDepth 100000
abbrev intR (n : Nat) : Value := rawInt (n : Int)
/-- the table of a def's inner code: as the top left it, or with the one entry of the inner def -/
inductive TabL (P line col : Nat) (qual : Str) : List (Addr × Obj) → Prop
  | fresh : TabL P line col qual [(P, tabObj #[])]
  | made {c' : Addr} {oc : Obj} {vs : Array Value} {t : Tok} (hd : oc.data = .fields vs) (hv : vs[1]? = some (.str qual t)) (hc : 100 < c') :
      TabL P line col qual [(P, tabObj #[intR line, intR col, .ref c']), (c', oc)]

section
variable {M : Model} {A : Around} {E : Value → Shared → Prop} {s : Shared} {h₀ : Heap} {L a c P : Addr} {m mg mb : Str → Option Value} {cn : Str} {cs : Scope} {ccd : Value} {cl : List (Str × Addr)} {p : Program} {loose : List Str} {mean : ExcName → Option Value}
  {name qual : Str} {params : Arguments} {body : List Stmt} {scope : Scope} {clos : List (Str × Addr)} {pos : Pos} {firstLine : Nat} {tl others : List (Addr × Obj)}
theorem nestAny {Q : Value → Shared → Prop} (F : Fr h₀ L s.heap m) (N : News h₀ L s.heap (tl ++ others)) (T : Top p loose mean mg mb h₀) (C : CodeHd h₀ c P) (hcd : ccd = .ref c)
    (ht : TabL P pos.line pos.col qual tl) (hP : P < 100) (ho : ∀ q ∈ others, q.1 ≠ P) (hL : ∃ q ∈ others, 100 < q.1) (htl : ∀ q ∈ tl, q.1 < L)
    (hcl : closureFor scope (envX cn cs L a ccd cl) = pure clos)
    (h : ∀ f c' oc vs t ctv doc h' tk, Fr h₀ L h' m →
      News h₀ L h' ((f, fnMade name qual params body scope clos doc ((mg "__name__").getD .none) c' ctv) :: (c', oc) :: (P, tabObj #[intR pos.line, intR pos.col, .ref c']) :: others) →
      oc.data = .fields vs → vs[1]? = some (.str qual t) → (∀ q ∈ others, q.1 < f) → c' < f → P < f → 100 < c' → (∀ q ∈ others, L ≤ q.1 → q.1 ≠ c') → Q (.ref f) { s with heap := h', toks := tk }) :
    wpAny M A (makeFunction name qual params (.stmts body) scope (envX cn cs L a ccd cl) [] [] [] pos firstLine) Q E s := by
  cases ht with
  | fresh =>
    refine nest_K (ps := #[]) F N T C hcd (UpdF.head ho) trivial rfl hcl ?_
    intro f c' oc vs t ctv doc h' tk F' N' d1 d2 l1 l2
    have hPc := l1 (P, tabObj #[]) (List.mem_append_left _ (.head _))
    obtain ⟨q0, hq0, hq1⟩ := hL
    have hLs := Nat.lt_trans hq1 (l1 q0 (List.mem_append_right _ hq0))
    refine h f c' oc vs t ctv doc h' tk F' (fun q hq => N' q ?_) d1 d2 (fun q hq => Nat.lt_trans (l1 q (List.mem_append_right _ hq)) l2) l2 (Nat.lt_trans hPc l2) hLs (fun q hq _ => Nat.ne_of_lt (l1 q (List.mem_append_right _ hq)))
    exact hq
  | made hd hv hc =>
    rename_i c' oc vs t
    refine nestHit_K (c' := c') F N T C hcd (.head _) trivial (by simp [codeAmong, intR, rawInt]) hcl ?_
    intro f ctv doc h' tk F' N' l1
    refine h f c' oc vs t ctv doc h' tk F' (fun q hq => N' q ?_) hd hv (fun q hq => l1 q (List.mem_append_right _ hq)) (l1 (c', oc) (.tail _ (.head _))) (l1 _ (.head _)) hc (fun q _ h9 e9 => absurd (htl (c', oc) (.tail _ (.head _))) (Nat.not_lt.mpr (e9 ▸ h9)))
    rcases List.mem_cons.mp hq with rfl | hq
    · exact .head _
    · rcases List.mem_cons.mp hq with rfl | hq
      · exact .tail _ (.tail _ (.head _))
      · rcases List.mem_cons.mp hq with rfl | hq
        · exact .tail _ (.head _)
        · exact .tail _ (.tail _ (.tail _ hq))
end

abbrev OffT (a : Addr) : Prop := (@Ne Nat a 66) ∧ (@Ne Nat a 73)
/-- the contract of a call of one of the three defs about division: the two tables of inner code may grow -/
def ConT (w : World) (k : Nat) (f : Addr) (vs : List Value) (xs : List (Addr × Obj)) (R : Value → List (Addr × Obj) → Prop) : Prop :=
  ∀ (prog p : Program) (loose : List Str) (mean : ExcName → Option Value) (mg mb : Str → Option Value) (dp un : Nat) (cn : Str) (cs : Scope) (a : Addr) (ccd : Value) (cl : List (Str × Addr))
    (outer : List Env) (A₀ : Around) (base h₀ : Heap) (L : Addr) (m : Str → Option Value) (s : Shared) (Q E : Value → Shared → Prop) (t1 t2 rest : List (Addr × Obj)),
    Below A₀ base outer h₀ → Fr h₀ L s.heap m → (hd.heap_39 w.params).In h₀ → News h₀ L s.heap (t1 ++ (t2 ++ (xs ++ rest))) → Top p loose mean mg mb h₀ → cs.kind = .function →
    CodeHd base 70 66 → CodeHd base 77 73 → TabL 66 58 4 (Str.ofString "_int2digits.<locals>.inner") t1 → TabL 73 73 4 (Str.ofString "_digits2int.<locals>.inner") t2 → (∀ q ∈ xs ++ rest, OffT q.1) → 100 < L →
    dp + k ≤ 900 → un + 10 * k ≤ 2000 →
    (∀ v own t1' t2' h' tk', R v own → TabL 66 58 4 (Str.ofString "_int2digits.<locals>.inner") t1' → TabL 73 73 4 (Str.ofString "_digits2int.<locals>.inner") t2' → Fr h₀ L h' m → News h₀ L h' (own ++ (t1' ++ (t2' ++ (xs ++ rest)))) →
      (∀ q ∈ own, ∀ x ∈ xs ++ rest, x.1 < q.1) → (∀ q ∈ own, 100 < q.1) → Q v { s with heap := h', toks := tk' }) →
    wpAny (model prog w) (ktrTop dp un (some []) cn cs L a ccd cl outer) (call (.ref f) vs) Q E s

theorem ConT.use {w : World} {k : Nat} {f : Addr} {vs : List Value} {xs : List (Addr × Obj)} {R : Value → List (Addr × Obj) → Prop} (C : ConT w k f vs xs R)
    {prog p : Program} {loose : List Str} {mean : ExcName → Option Value} {mg mb : Str → Option Value} {dp un : Nat} {cn : Str} {cs : Scope} {a : Addr} {ccd : Value} {cl : List (Str × Addr)}
    {outer : List Env} {A₀ : Around} {base h₀ : Heap} {L : Addr} {m : Str → Option Value} {s : Shared} {Q E : Value → Shared → Prop} {t1 t2 rest : List (Addr × Obj)}
    (B : Below A₀ base outer h₀) (F : Fr h₀ L s.heap m) (X : (hd.heap_39 w.params).In h₀) (N : News h₀ L s.heap (t1 ++ (t2 ++ (xs ++ rest)))) (T : Top p loose mean mg mb h₀) (hk : cs.kind = .function)
    (c1 : CodeHd base 70 66) (c2 : CodeHd base 77 73) (ht1 : TabL 66 58 4 (Str.ofString "_int2digits.<locals>.inner") t1) (ht2 : TabL 73 73 4 (Str.ofString "_digits2int.<locals>.inner") t2) (h3 : ∀ q ∈ xs ++ rest, OffT q.1) (hL : 100 < L)
    (hd : dp + k ≤ 900) (hu : un + 10 * k ≤ 2000)
    (ret : ∀ v own t1' t2' h' tk', R v own → TabL 66 58 4 (Str.ofString "_int2digits.<locals>.inner") t1' → TabL 73 73 4 (Str.ofString "_digits2int.<locals>.inner") t2' → Fr h₀ L h' m → News h₀ L h' (own ++ (t1' ++ (t2' ++ (xs ++ rest)))) →
      (∀ q ∈ own, ∀ x ∈ xs ++ rest, x.1 < q.1) → (∀ q ∈ own, 100 < q.1) → Q v { s with heap := h', toks := tk' }) :
    wpAny (model prog w) (ktrTop dp un (some []) cn cs L a ccd cl outer) (call (.ref f) vs) Q E s :=
  C prog p loose mean mg mb dp un cn cs a ccd cl outer A₀ base h₀ L m s Q E t1 t2 rest B F X N T hk c1 c2 ht1 ht2 h3 hL hd hu ret

/-- how a body of such a def ends -/
def EndsT (g : Heap) (L : Addr) (s : Shared) (xs : List (Addr × Obj)) (R : Value → List (Addr × Obj) → Prop) (fl : Flow) (s' : Shared) : Prop :=
  ∃ m2 own t1 t2 h2 tk2, s' = { s with heap := h2, toks := tk2 } ∧ R (match fl with | .ret v => v | _ => .none) own ∧ Fr g L h2 m2 ∧ News g L h2 (own ++ (t1 ++ (t2 ++ xs))) ∧ (∀ q ∈ own, (∀ x ∈ xs, x.1 < q.1) ∧ 100 < q.1) ∧
    TabL 66 58 4 (Str.ofString "_int2digits.<locals>.inner") t1 ∧ TabL 73 73 4 (Str.ofString "_digits2int.<locals>.inner") t2

theorem conT_of {w : World} {k : Nat} {f : Addr} {vs : List Value} {xs : List (Addr × Obj)} {R : Value → List (Addr × Obj) → Prop} {name qual : Str} {params : Arguments} {body : List Stmt} {scope : Scope} {dV kV doc pm cdv ct oc : Value} {an od : Option Addr} {osl : Array (Option Value)} {binds : List (Str × Value)}
    (ho : (hd.heap_39 w.params).lookup f = some ⟨oc, od, .func (fnOf name qual params body scope dV kV doc pm an cdv ct), osl⟩) (hcd : codeIn (hd.heap_39 w.params) cdv qual = true)
    (hbind : ∀ s, BindsTo s (fnOf name qual params body scope dV kV doc pm an cdv ct) ⟨vs, []⟩ binds) (hkind : (binds.all fun y => scope.names.lookup y.1 == some .local || scope.names.lookup y.1 == some .cell) = true)
    (hnd : ((cellsFrom 0 scope.names []).map (·.1)).Nodup)
    (h : ∀ (prog p : Program) (loose : List Str) (mean : ExcName → Option Value) (mg mb : Str → Option Value) (dp un : Nat) (outer : List Env) (A₀ : Around) (base g : Heap) (L : Addr) (h₁ : Heap) (tk : Nat) (s : Shared) (cells t1 t2 rest : List (Addr × Obj)),
      Below A₀ base outer g → Fr g L h₁ (bindL (envOfC qual scope L f cdv).kindOf binds fun _ => none) → (hd.heap_39 w.params).In g → Top p loose mean mg mb g → dp + k ≤ 901 → un + 10 * k ≤ 2003 →
      News g L h₁ (cells ++ (t1 ++ (t2 ++ (xs ++ rest)))) → CellsAre (bindC (envOfC qual scope L f cdv).kindOf binds fun _ => none) (cellsFrom (L + 1) scope.names []) cells → (∀ q ∈ xs ++ rest, q.1 < L) → (∀ q ∈ t1 ++ t2, q.1 < L) → 100 < L →
      CodeHd base 70 66 → CodeHd base 77 73 → TabL 66 58 4 (Str.ofString "_int2digits.<locals>.inner") t1 → TabL 73 73 4 (Str.ofString "_digits2int.<locals>.inner") t2 → (∀ q ∈ xs ++ rest, OffT q.1) →
      wpAny (model prog w) (ktrTop dp un (some []) qual scope L f cdv (cellsFrom (L + 1) scope.names []) outer) (execs body (envOfC qual scope L f cdv)) (EndsT g L s (xs ++ rest) R) (fun _ _ => False) { s with heap := h₁, toks := tk })
    (hk0 : 0 < k) (hco : scope.isCoroutine = false) (hgen : scope.isGenerator = false) (hk : scope.kind = .function) : ConT w k f vs xs R := by
  intro prog p loose mean mg mb dp un cn cs a ccd cl outer A₀ base h₀ L m s Q E t1 t2 rest B F X N T hkc c1 c2 ht1 ht2 hrest hL hdp hun ret
  refine wpAny_call ?_
  refine code_defC B F X N T rfl rfl hkc ho hcd ?_ (hbind s) hkind hnd ?_ hco hgen hk
  · show dp < recursionLimit
    unfold recursionLimit; omega
  · intro g L' h₁ tk cells FG F' N' Y' B' X' T' l1
    have hLL : L < L' := by
      obtain ⟨o, _, _, e, _⟩ := FG.ns
      exact Nat.lt_of_lt_of_le (Heap.lt_size e) F'.above
    have hh := h prog p loose mean mg mb (dp + 1) (un + 3) (envX cn cs L a ccd cl :: outer) _ base g L' h₁ tk s cells t1 t2 rest B' F' X' T' (by omega) (by omega) N' Y'
      (fun q hq => l1 q (List.mem_append_right _ (List.mem_append_right _ hq))) (fun q hq => l1 q ?_) (Nat.lt_trans hL hLL) c1 c2 ht1 ht2 hrest
    · refine wpAny_mono hh (fun fl s' he => ?_) (fun _ _ hf => hf.elim)
      obtain ⟨m2, own, t1', t2', h2, tk2, rfl, hR, Fe, Ne, hlt, hT1, hT2⟩ := he
      refine leaveK_ Fe Ne (fun F3 N3 => ?_)
      exact ret _ own t1' t2' h2 tk2 hR hT1 hT2 F3 N3 (fun q hq => (hlt q hq).1) (fun q hq => (hlt q hq).2)
    · rcases List.mem_append.mp hq with hq | hq
      · exact List.mem_append_left _ hq
      · exact List.mem_append_right _ (List.mem_append_left _ hq)
end
local macro_rules | `(tactic| walk_at "con") => `(tactic| (
  k_dflt (refine' con_of ?ho ?hcd ?hb ?hl ?hm ?h ?hP ?hk0 ?hco ?hgen ?hkk ?hcell; (case ho => k_is); (case hcd => k_is); (case hb => intro s; exact BindsTo.of_eq rfl); (case hl => exact locs rfl); (case hk0 => decide); (case hco => exact rfl); (case hgen => exact rfl); (case hkk => exact rfl); (case hcell => decide)) ))
local macro_rules | `(tactic| walk_at "go") => `(tactic| repeat (walk1; try dsimp only))
section -- ZW1
theorem offZW1 : True := by
  w_top off
  trivial
open PySem.Spec
set_option maxRecDepth 100000
set_option maxHeartbeats 4000000
theorem fill (w : World) : Dummy w := by
  unfold Dummy
  k_fill
  exact ⟨rfl, rfl⟩
def worth (l : List UInt8) : Int := l.foldl (fun (a : Int) c => 16 * a + (c.toNat : Int) - 65) 0
theorem worth_ints (b : Array UInt8) : (KBw.bInts b).foldl (fun a k => 16 * a + k - 65) 0 = worth b.toList := by
  unfold KBw.bInts worth
  rw [List.foldl_map]
theorem worth_con (w : World) (b : Array UInt8) (t : Tok) :
    Con w 1 113 [.bytes b t] (fun _ => True) (fun v own => own = [] ∧ ∃ t', v = .int (worth b.toList) t') := by
  walk_at "con"
  case hm => exact fun y => (rfl : _ = List.lookup y [(Str.ofString "octets", Value.bytes b t)])
  case hP => exact fun _ _ _ h => h
  intro prog p loose mean mg mb dp un outer A₀ base g L h₁ tk s B F X T hd hu _
  have N : News g L h₁ [] := News.nil
  iterate 8 (walk1; try dsimp only)
  rename Fr _ _ _ _ => F'
  rename News _ _ _ _ => N'
  refine KBw.iterBytes_acc1 (y := Str.ofString "worth") (fun a k => 16 * a + k - 65) rfl rfl F' N' rfl ?turn ?done
  case turn =>
    intro k t a ta h tk own _ _ _ _ F1 N1
    walk_at "go"
  case done =>
    intro u t h tk F1 N1
    dsimp only
    walk_at "go"
    exact ⟨_, [], h, tk, rfl, ⟨rfl, t, by rw [worth_ints]⟩, F1, N1⟩
end
local macro_rules | `(tactic| walk_at "go") => `(tactic| repeat ((fail_if_success (with_reducible show wpAny _ _ (exec (Stmt.While _ _ _ _) _) _ _ _)); (fail_if_success (with_reducible show wpAny _ _ (exec (Stmt.For _ _ _ _ _) _) _ _ _)); (fail_if_success (with_reducible show wpAny _ _ (call (Value.ref _) _) _ _ _)); walk1; try dsimp only))
section -- ZW2
theorem offZW2 : True := by
  w_top off
  trivial
open PySem.Spec
set_option maxRecDepth 100000
set_option maxHeartbeats 4000000
theorem fill2 (w : World) : Dummy w := by
  unfold Dummy
  k_fill
  exact ⟨rfl, rfl⟩
def apF : Nat → Nat → List UInt8 → List UInt8
  | 0, _, acc => acc
  | f + 1, n, acc => if n = 0 then acc else apF f (n / 16) ((65 + n % 16).toUInt8 :: acc)
def ap (n : Nat) : List UInt8 := apF 64 n []
def apAP : Array UInt8 := #[65, 66, 67, 68, 69, 70, 71, 72, 73, 74, 75, 76, 77, 78, 79, 80]
def apJ (N : Nat) (c : Nat) (m : Str → Option Value) (nx : List (Addr × Obj)) : Prop :=
  nx = [] ∧ ∃ (n : Nat) (acc : List UInt8) (t1 t2 t3 : Tok), m (Str.ofString "num") = some (.int (n : Int) t1) ∧ m (Str.ofString "val") = some (.bytes acc.toArray t2) ∧ m (Str.ofString "AP") = some (.bytes apAP t3) ∧
    n < 16 ^ c ∧ acc.length + c ≤ 64 ∧ apF c n acc = ap N
theorem picked_AP : ∀ k : Fin 16, KBy.picked apAP (some ((k.val : Nat) : Int)) (some ((k.val : Nat) + 1 : Int)) = #[(65 + k.val).toUInt8] := by decide +kernel
theorem int2ap_con (w : World) (n : Int) (t : Tok) (hn : n.natAbs < 16 ^ 64) :
    Con w 1 92 [.int n t] (fun _ => True) (fun v own => own = [] ∧ ∃ t', v = .bytes (ap n.natAbs).toArray t') := by
  walk_at "con"
  case hm => exact fun y => (rfl : _ = List.lookup y [(Str.ofString "num", Value.int n t)])
  case hP => exact fun _ _ _ h => h
  intro prog p loose mean mg mb dp un outer A₀ base g L h₁ tk s B F X T hd hu _
  have N : News g L h₁ [] := News.nil
  walk_at "go"
  rename Fr _ _ _ _ => F'
  rename News _ _ _ _ => N'
  refine While_inv2 (apJ n.natAbs) (n₀ := 64) F' N' ?h0 ?turn PassesOwn.never
  case h0 =>
    have e : (if n < 0 then -n else n) = (n.natAbs : Int) := by split <;> omega
    rw [e]
    exact ⟨rfl, n.natAbs, [], _, _, _, rfl, rfl, rfl, hn, by decide, rfl⟩
  case turn =>
    rintro c m₁ news₁ h₁ tk₁ F₁ N₁ ⟨rfl, n, acc, t1, t2, t3, e1, e2, e3, hc, hl, he⟩
    have F₂ := pinF (x := Str.ofString "num") (pinF (x := Str.ofString "val") (pinF F₁ e3) e2) e1
    clear F₁
    walk_at "go"
    · rename Fr _ _ _ _ => F'
      rename News _ _ _ _ => N'
      rename (_ : Int) ≠ 0 => hne
      refine KBc.slice_K (s := ⟨_, _, _, _, _⟩) F' N' rfl (by constructor) (by constructor) (by decide) ?_
      intro h3 t3 k3 F3 N3 _
      clear N'
      dsimp only
      walk_at "go"
      have hm : ((n : Int).fmod 16) = ((n % 16 : Nat) : Int) := by rw [Int.fmod_eq_emod_of_nonneg _ (by decide)]; omega
      have hq : ((n : Int).fdiv 16) = ((n / 16 : Nat) : Int) := by rw [Int.fdiv_eq_ediv_of_nonneg _ (by decide)]; omega
      have hp := picked_AP ⟨n % 16, Nat.mod_lt _ (by decide)⟩
      dsimp only at hp
      rw [← hm] at hp
      rw [hp]
      refine KBy.add_bytes ?hz ?_
      case hz => simp only [List.size_toArray, List.length_cons, List.length_nil]; omega
      intro t4 k4
      rw [show #[(65 + n % 16).toUInt8] ++ acc.toArray = ((65 + n % 16).toUInt8 :: acc).toArray from by simp]
      walk_at "go"
      rename Fr _ _ _ _ => F4
      rw [hq] at F4
      have hn0 : n ≠ 0 := by omega
      cases c with
      | zero => exact absurd hc (by simpa using hn0)
      | succ c =>
        refine ⟨_, _, _, [], c, rfl, F4, News.nil, by omega, rfl, n / 16, (65 + n % 16).toUInt8 :: acc, _, _, _, rfl, rfl, rfl, ?_, ?_, ?_⟩
        · rw [Nat.pow_succ] at hc; omega
        · simp only [List.length_cons]; omega
        · rw [← he]
          show _ = if n = 0 then _ else _
          rw [if_neg hn0]
    · walk_at "go"
      rename (_ : Int) = 0 => hz
      have hz' : n = 0 := by omega
      subst hz'
      have : apF c 0 acc = acc := by cases c <;> simp [apF]
      exact ⟨_, [], _, _, rfl, ⟨rfl, _, by rw [← he, this]⟩, F₂, News.nil⟩
end
section -- ZW3
theorem offZW3 : True := by
  w_top off
  trivial
open PySem.Spec
set_option maxRecDepth 100000
set_option maxHeartbeats 4000000
abbrev tup2 (q : Int) (t1 : Tok) (r : Int) (t2 : Tok) : Obj := { cls := .type "tuple", data := .seq #[.int q t1, .int r t2] }
def IsDM (a b : Int) (v : Value) (own : List (Addr × Obj)) : Prop := ∃ D t1 t2, v = .ref D ∧ own = [(D, tup2 (a.fdiv b) t1 (a.fmod b) t2)]
theorem div21_con (w : World) (a b n : Int) (t1 t2 t3 : Tok) (hb : 0 < b) (hbl : b.natAbs < 2 ^ 9000) (hbits : (Builtin.Int.intBits a : Int) - n ≤ 4000) :
    Con w 1 57 [.int a t1, .int b t2, .int n t3] (fun _ => True) (IsDM a b) := by
  walk_at "con"
  case hm => exact fun y => (rfl : _ = List.lookup y [(Str.ofString "n", Value.int n t3), (Str.ofString "b", Value.int b t2), (Str.ofString "a", Value.int a t1)])
  case hP => exact fun _ _ _ h => h
  intro prog p loose mean mg mb dp un outer A₀ base g L h₁ tk s B F X T hd hu _
  have N : News g L h₁ [] := News.nil
  walk_at "go"
  refine divmod_N F N (by omega) ?_ (Or.inl (PyProof.noPylong_of_log2 ((Nat.log2_lt (by omega)).mpr hbl)))
  intro h2 F2 N2
  exact ⟨_, _, _, _, rfl, ⟨_, _, _, rfl, rfl⟩, F2, N2⟩
end
local macro_rules | `(tactic| walk_at "conT") => `(tactic| (
  k_dflt (refine' conT_of ?ho ?hcd ?hb ?hl ?hnd ?h ?hk0 ?hco ?hgen ?hkk; (case ho => k_is); (case hcd => k_is); (case hb => intro s; exact BindsTo.of_eq rfl); (case hl => exact rfl); (case hnd => decide +kernel); (case hk0 => decide); (case hco => exact rfl); (case hgen => exact rfl); (case hkk => exact rfl)) ))
local macro_rules | `(tactic| walk_at "go") => `(tactic| repeat ((fail_if_success (with_reducible show wpAny _ _ (exec (Stmt.While _ _ _ _) _) _ _ _)); (fail_if_success (with_reducible show wpAny _ _ (exec (Stmt.For _ _ _ _ _) _) _ _ _)); (fail_if_success (with_reducible show wpAny _ _ (exec (Stmt.FunctionDef _ _ _ _ _ _ _ _ _ _) _) _ _ _)); (fail_if_success (with_reducible show wpAny _ _ (call (Value.ref _) _) _ _ _)); walk1; try dsimp only))
local macro_rules | `(tactic| k_room) => `(tactic| ((try simp only [depth_under_make, depth_under_kw, depth_in1, depth_deeper, depth_caller, recursionLimit]); omega))
section -- ZW4
theorem offZW4 : True := by
  w_top off
  trivial
open PySem.Spec
set_option maxRecDepth 100000
set_option maxHeartbeats 4000000
theorem leN {a b : Nat} (h : a ≤ b) : a ≤ b := h
theorem rest_ne {l : List (Addr × Obj)} {L d : Nat} (h : ∀ q ∈ l, q.1 < L) (hd : L ≤ d) : ∀ q ∈ l, q.1 ≠ d := fun q hq => Nat.ne_of_lt (Nat.lt_of_lt_of_le (h q hq) hd)
local macro_rules | `(tactic| k_all) => `(tactic| exact rest_ne (by assumption) (by omega))
theorem TabL.ne {P line col Q : Nat} {qual : Str} {tl : List (Addr × Obj)} (h : TabL P line col qual tl) (h1 : P ≠ Q) (h2 : Q ≤ 100) : ∀ q ∈ tl, q.1 ≠ Q := by
  cases h with
  | fresh => intro q hq; rcases List.mem_singleton.mp hq with rfl; exact h1
  | made hd hv hc =>
    intro q hq
    rcases List.mem_cons.mp hq with rfl | hq
    · exact h1
    · rcases List.mem_singleton.mp hq with rfl
      exact (Nat.ne_of_lt (Nat.lt_of_le_of_lt h2 hc)).symm
def IsDigs (l : List Int) (v : Value) (own : List (Addr × Obj)) : Prop := ∃ D, ∃ vs : List Value, ∃ n, v = .ref D ∧ own = [(D, W.listOf vs.toArray n)] ∧ IntsAre vs l
theorem intBits_pos {a : Int} (h : 0 < a) : 0 < Builtin.Int.intBits a := by
  unfold Builtin.Int.intBits
  rw [if_neg (by simp only [beq_iff_eq]; omega)]
  omega
theorem news_out5 {g h : Heap} {L : Addr} {a b c d e : Addr × Obj} {t r : List (Addr × Obj)} (N : News g L h (a :: b :: c :: d :: e :: (t ++ r))) : News g L h (t ++ (a :: c :: d :: e :: r)) := by
  intro p hp
  refine N p ?_
  simp only [List.mem_append, List.mem_cons] at hp ⊢
  rcases hp with h | h | h | h | h | h <;> simp [h]
theorem news_end7 {g h : Heap} {L : Addr} {a c p d x y z : Addr × Obj} {t r : List (Addr × Obj)} (N : News g L h (a :: c :: p :: d :: x :: y :: z :: (t ++ r))) : News g L h ([d] ++ ([p, c] ++ (t ++ r))) := by
  intro q hq
  refine N q ?_
  simp only [List.mem_append, List.mem_cons, List.not_mem_nil, or_false] at hq ⊢
  rcases hq with h | (h | h) | h | h <;> simp [h]
theorem i2d1_con (w : World) (a n : Int) (t1 t2 : Tok) (ha : 0 < a) (h0 : 0 < n) (hn : (Builtin.Int.intBits a : Int) ≤ n) (hn2 : n ≤ 1000) :
    ConT w 5 71 [.int a t1, .int n t2] [] (IsDigs [a]) := by
  walk_at "conT"
  intro prog p loose mean mg mb dp un outer A₀ base g L h₁ tk s cells tl1 tl2 rest B F X T hd hu N Y l1' l2 hL c1 c2 ht1 ht2 l3
  replace hL := ltN hL
  have hY := CellsAre.three Y
  obtain ⟨o', o2', o3', hE', d1', d2', d3'⟩ := hY
  subst hE'
  clear Y
  simp only [List.cons_append, List.nil_append] at N
  have hR : ∀ q ∈ tl1 ++ (tl2 ++ rest), q.1 < L := by
    intro q hq
    rcases List.mem_append.mp hq with hq | hq
    · exact l2 q (List.mem_append_left _ hq)
    · rcases List.mem_append.mp hq with hq | hq
      · exact l2 q (List.mem_append_right _ hq)
      · exact l1' q hq
  have d1 : o3'.data = .cell (some (.int n t2)) := d3'
  clear d3'
  obtain ⟨R0, hR0⟩ : ∃ R0, R0 = tl1 ++ (tl2 ++ rest) := ⟨_, rfl⟩
  rw [← hR0] at N hR
  walk_at "go"
  have hb1 : 0 < (Builtin.Int.intBits a : Int) := by
    have := intBits_pos ha
    omega
  have e : ((Builtin.Int.intBits a : Int) + n - 1).fdiv n = 1 := by
    rw [Int.fdiv_eq_ediv_of_nonneg _ (by omega)]
    have : ((Builtin.Int.intBits a : Int) + n - 1) = (Builtin.Int.intBits a : Int) - 1 + 1 * n := by omega
    rw [this, Int.add_mul_ediv_right _ _ (by omega), Int.ediv_eq_zero_of_lt (by omega) (by omega)]
    rfl
  rw [e]
  walk_at "go"
  rename Fr _ _ _ _ => F2
  rename News _ _ _ _ => N2
  rename (_ < _ ∧ _) => l5
  rw [hR0] at N2
  have N3 := news_out5 N2
  clear N2
  have hR2 : ∀ q ∈ tl2 ++ rest, q.1 < L := by
    intro q hq
    exact hR q (by rw [hR0]; exact List.mem_append_right _ hq)
  have hR66 : ∀ q ∈ tl2 ++ rest, q.1 ≠ 66 := by
    intro q hq
    rcases List.mem_append.mp hq with hq | hq
    · exact ht2.ne (by decide) (by decide) q hq
    · exact (l3 q hq).1
  refine nestDef_K rfl rfl rfl ?_
  refine nestAny F2 N3 T (CodeHd.keeps c1 (Below.stays B)) rfl ht1 (by decide) ?ho ?hl (fun q hq => l2 q (List.mem_append_left _ hq)) rfl ?_
  case ho =>
    refine List.forall_mem_cons.mpr ⟨?_, List.forall_mem_cons.mpr ⟨?_, List.forall_mem_cons.mpr ⟨?_, List.forall_mem_cons.mpr ⟨?_, hR66⟩⟩⟩⟩
    all_goals (refine neN ?_; dsimp only; omega)
  case hl => exact ⟨_, .tail _ (.head _), by refine ltN ?_; dsimp only; omega⟩
  intro f c' oc vs t ctv doc h' tk F3 N4 e1 e2 l4 l5 l6 l7 l8
  clear N3
  k_lt l4
  replace l5 := ltN l5
  replace l6 := ltN l6
  replace l7 := ltN l7
  have m1 := neN (l8 _ (.head _) (by refine leN ?_; dsimp only; omega))
  have m2 := neN (l8 _ (.tail _ (.head _)) (by refine leN ?_; dsimp only; omega))
  have m3 := neN (l8 _ (.tail _ (.tail _ (.head _))) (by refine leN ?_; dsimp only; omega))
  have m4 := neN (l8 _ (.tail _ (.tail _ (.tail _ (.head _)))) (by refine leN ?_; dsimp only; omega))
  dsimp only at m1 m2 m3 m4
  clear l8
  walk_at "go"
  · walk1
  rotate_left
  · exfalso
    omega
  walk1
  (try dsimp only)
  walk_at "go"
  rename IntsAre _ _ => hI
  rename News _ _ _ _ => kN
  rename Fr _ _ _ _ => kF
  exact ⟨_, _, _, _, _, _, rfl, ⟨_, _, _, rfl, rfl, hI⟩, kF, news_end7 kN, (fun q hq => by rcases List.mem_singleton.mp hq with rfl; exact ⟨fun x hx => Nat.lt_trans (l1' x hx) (by refine ltN ?_; dsimp only; omega), by refine ltN ?_; dsimp only; omega⟩), TabL.made e1 e2 l7, ht2⟩
end
local macro_rules | `(tactic| walk_at "gox") => `(tactic| repeat ((fail_if_success (with_reducible show wpAny _ _ (exec (Stmt.While _ _ _ _) _) _ _ _)); (fail_if_success (with_reducible show wpAny _ _ (exec (Stmt.For _ _ _ _ _) _) _ _ _)); (fail_if_success (with_reducible show wpAny _ _ (exec (Stmt.FunctionDef _ _ _ _ _ _ _ _ _ _) _) _ _ _)); walk1; try dsimp only))
local macro_rules | `(tactic| walk_at "gob") => `(tactic| repeat ((fail_if_success (with_reducible show wpAny _ _ (exec (Stmt.While _ _ _ _) _) _ _ _)); (fail_if_success (with_reducible show wpAny _ _ (exec (Stmt.For _ _ _ _ _) _) _ _ _)); (fail_if_success (with_reducible show wpAny _ _ (exec (Stmt.FunctionDef _ _ _ _ _ _ _ _ _ _) _) _ _ _)); (fail_if_success (with_reducible show wpAny _ _ (binaryOp Operator.RShift _ _) _ _ _)); (fail_if_success (with_reducible show wpAny _ _ (binaryOp Operator.LShift _ _) _ _ _)); (fail_if_success (with_reducible show wpAny _ _ (binaryOp Operator.BitXor _ _) _ _ _)); (fail_if_success (with_reducible show wpAny _ _ (binaryOp Operator.Mult _ _) _ _ _)); (fail_if_success (with_reducible show wpAny _ _ (binaryOp Operator.Pow _ _) _ _ _)); walk1; try dsimp only))
section -- ZW5
theorem offZW5 : True := by
  w_top off
  trivial
open PySem.Spec
set_option maxRecDepth 100000
set_option maxHeartbeats 4000000
local macro_rules | `(tactic| k_all) => `(tactic| exact rest_ne (by assumption) (by omega))
theorem fdiv_pow (a : Int) (k : Nat) : a.fdiv (2 ^ k) = a / 2 ^ k := Int.fdiv_eq_ediv_of_nonneg _ (by exact Int.le_of_lt (Int.pow_pos (by decide)))
theorem fdiv_pow_le {a : Int} (h : 0 ≤ a) (k : Nat) : (a.fdiv (2 ^ k)).natAbs ≤ a.natAbs := by
  rw [fdiv_pow]
  obtain ⟨m, rfl⟩ := Int.eq_ofNat_of_zero_le h
  have e : ((m : Int) / 2 ^ k) = ((m / 2 ^ k : Nat) : Int) := by push_cast; rfl
  rw [e]
  exact Nat.div_le_self _ _
theorem and_high (m k : Nat) : m &&& (m / 2 ^ k * 2 ^ k) = m / 2 ^ k * 2 ^ k := by
  apply Nat.eq_of_testBit_eq
  intro i
  rw [Nat.testBit_and, Nat.testBit_mul_two_pow, Nat.testBit_div_two_pow]
  by_cases h : k ≤ i
  · rw [Nat.sub_add_cancel h]
    cases m.testBit i <;> simp [h]
  · simp [h]
theorem lower_eq {a : Int} (h : 0 ≤ a) (k : Nat) : Builtin.bitXor a (a.fdiv (2 ^ k) * 2 ^ k) = a % 2 ^ k := by
  rw [PyProof.Rows.bitXor_and, fdiv_pow]
  obtain ⟨m, rfl⟩ := Int.eq_ofNat_of_zero_le h
  have e : ((m : Int) / 2 ^ k * 2 ^ k) = ((m / 2 ^ k * 2 ^ k : Nat) : Int) := by push_cast; rfl
  rw [e, PyProof.Rows.bitAnd_pp (by omega) (by omega)]
  simp only [Int.toNat_natCast]
  rw [and_high]
  have e2 : ((m : Int) % 2 ^ k) = ((m % 2 ^ k : Nat) : Int) := by push_cast; rfl
  rw [e2]
  have := Nat.div_add_mod m (2 ^ k)
  rw [Nat.mul_comm] at this
  omega
theorem i2d2_con (w : World) (a n : Int) (t1 t2 : Tok) (ha : 0 < a) (h0 : 0 < n) (hn : n < (Builtin.Int.intBits a : Int)) (hn' : (Builtin.Int.intBits a : Int) ≤ 2 * n) (hn2 : n ≤ 1000) :
    ConT w 5 71 [.int a t1, .int n t2] [] (IsDigs [a % 2 ^ n.toNat, a / 2 ^ n.toNat]) := by
  walk_at "conT"
  intro prog p loose mean mg mb dp un outer A₀ base g L h₁ tk s cells tl1 tl2 rest B F X T hd hu N Y l1' l2 hL c1 c2 ht1 ht2 l3
  replace hL := ltN hL
  have hY := CellsAre.three Y
  obtain ⟨o', o2', o3', hE', d1', d2', d3'⟩ := hY
  subst hE'
  clear Y
  simp only [List.cons_append, List.nil_append] at N
  have hR : ∀ q ∈ tl1 ++ (tl2 ++ rest), q.1 < L := by
    intro q hq
    rcases List.mem_append.mp hq with hq | hq
    · exact l2 q (List.mem_append_left _ hq)
    · rcases List.mem_append.mp hq with hq | hq
      · exact l2 q (List.mem_append_right _ hq)
      · exact l1' q hq
  have d1 : o3'.data = .cell (some (.int n t2)) := d3'
  clear d3'
  obtain ⟨R0, hR0⟩ : ∃ R0, R0 = tl1 ++ (tl2 ++ rest) := ⟨_, rfl⟩
  rw [← hR0] at N hR
  walk_at "go"
  have hb1 : 0 < (Builtin.Int.intBits a : Int) := by
    have := intBits_pos ha
    omega
  have e : ((Builtin.Int.intBits a : Int) + n - 1).fdiv n = 2 := by
    rw [Int.fdiv_eq_ediv_of_nonneg _ (by omega)]
    have : ((Builtin.Int.intBits a : Int) + n - 1) = ((Builtin.Int.intBits a : Int) - 1 - n) + 2 * n := by omega
    rw [this, Int.add_mul_ediv_right _ _ (by omega), Int.ediv_eq_zero_of_lt (by omega) (by omega)]
    rfl
  rw [e]
  walk_at "go"
  rename Fr _ _ _ _ => F2
  rename News _ _ _ _ => N2
  rename (_ < _ ∧ _) => l5
  rw [hR0] at N2
  have N3 := news_out5 N2
  clear N2
  have hR2 : ∀ q ∈ tl2 ++ rest, q.1 < L := by
    intro q hq
    exact hR q (by rw [hR0]; exact List.mem_append_right _ hq)
  have hR66 : ∀ q ∈ tl2 ++ rest, q.1 ≠ 66 := by
    intro q hq
    rcases List.mem_append.mp hq with hq | hq
    · exact ht2.ne (by decide) (by decide) q hq
    · exact (l3 q hq).1
  refine nestDef_K rfl rfl rfl ?_
  refine nestAny F2 N3 T (CodeHd.keeps c1 (Below.stays B)) rfl ht1 (by decide) ?ho ?hl (fun q hq => l2 q (List.mem_append_left _ hq)) rfl ?_
  case ho =>
    refine List.forall_mem_cons.mpr ⟨?_, List.forall_mem_cons.mpr ⟨?_, List.forall_mem_cons.mpr ⟨?_, List.forall_mem_cons.mpr ⟨?_, hR66⟩⟩⟩⟩
    all_goals (refine neN ?_; dsimp only; omega)
  case hl => exact ⟨_, .tail _ (.head _), by refine ltN ?_; dsimp only; omega⟩
  intro f c' oc vs t ctv doc h' tk F3 N4 e1 e2 l4 l5 l6 l7 l8
  clear N3
  k_lt l4
  replace l5 := ltN l5
  replace l6 := ltN l6
  replace l7 := ltN l7
  have m1 := neN (l8 _ (.head _) (by refine leN ?_; dsimp only; omega))
  have m2 := neN (l8 _ (.tail _ (.head _)) (by refine leN ?_; dsimp only; omega))
  have m3 := neN (l8 _ (.tail _ (.tail _ (.head _))) (by refine leN ?_; dsimp only; omega))
  have m4 := neN (l8 _ (.tail _ (.tail _ (.tail _ (.head _)))) (by refine leN ?_; dsimp only; omega))
  dsimp only at m1 m2 m3 m4
  clear l8
  walk_at "go"
  · walk1
  rotate_left
  · exfalso
    omega
  walk_at "gob"
  walk1
  (try dsimp only)
  rw [show ((0 : Int) + 2).fdiv (2 ^ Int.toNat 1) = 1 from by decide]
  walk_at "gob"
  walk1
  (try dsimp only)
  rw [show ((1 : Int) - 0) * n = n from by omega]
  walk_at "gob"
  refine rshift_int (by omega) ?_
  dsimp only
  walk_at "gob"
  refine lshift_int (by omega) ?hsz ?_
  case hsz =>
    have := Nat.lt_of_le_of_lt (fdiv_pow_le (Int.le_of_lt ha) n.toNat) (Nat.lt_succ_self _)
    have := intBits_le_of_natAbs (m := Builtin.Int.intBits a) (x := a.fdiv (2 ^ n.toNat)) (y := a) (fdiv_pow_le (Int.le_of_lt ha) n.toNat) (Nat.le_refl _)
    omega
  dsimp only
  walk_at "gob"
  refine xor_int ?_
  dsimp only
  rw [lower_eq (Int.le_of_lt ha)]
  walk_at "gox"
  rename IntsAre _ _ => hI
  rename News _ _ _ _ => kN
  rename Fr _ _ _ _ => kF
  exact ⟨_, _, _, _, _, _, rfl, ⟨_, _, _, rfl, rfl, by rw [← fdiv_pow]; exact hI⟩, kF, news_end7 kN, (fun q hq => by rcases List.mem_singleton.mp hq with rfl; exact ⟨fun x hx => Nat.lt_trans (l1' x hx) (by refine ltN ?_; dsimp only; omega), by refine ltN ?_; dsimp only; omega⟩), TabL.made e1 e2 l7, ht2⟩
end
section -- ZW6
theorem offZW6 : True := by
  w_top off
  trivial
open PySem.Spec
set_option maxRecDepth 100000
set_option maxHeartbeats 4000000
local macro_rules | `(tactic| k_all) => `(tactic| exact rest_ne (by assumption) (by omega))
theorem news_d2i {g h : Heap} {L : Addr} {x y z d : Addr × Obj} {t1 t2 r : List (Addr × Obj)} (N : News g L h (x :: y :: z :: (t1 ++ (t2 ++ (d :: r))))) : News g L h (t2 ++ (x :: y :: z :: d :: (t1 ++ r))) := by
  intro q hq
  refine N q ?_
  simp only [List.mem_append, List.mem_cons] at hq ⊢
  rcases hq with h | h | h | h | h | h | h <;> simp [h]
theorem news_endd {g h : Heap} {L : Addr} {a c p x y z d : Addr × Obj} {t1 r : List (Addr × Obj)} (N : News g L h (a :: c :: p :: x :: y :: z :: d :: (t1 ++ r))) : News g L h ([] ++ (t1 ++ ([p, c] ++ (d :: r)))) := by
  intro q hq
  refine N q ?_
  simp only [List.mem_append, List.mem_cons, List.not_mem_nil, or_false, false_or] at hq ⊢
  rcases hq with h | (h | h) | h | h <;> simp [h]
theorem d2i1_con (w : World) (D : Addr) (q0 n : Int) (ta t2 : Tok) (k : Nat) :
    ConT w 5 78 [.ref D, .int n t2] [(D, W.listOf #[.int q0 ta] k)] (fun v own => own = [] ∧ ∃ t, v = .int q0 t) := by
  walk_at "conT"
  intro prog p loose mean mg mb dp un outer A₀ base g L h₁ tk s cells tl1 tl2 rest B F X T hd hu N Y l1 l2 hL c1 c2 ht1 ht2 l3
  replace hL := ltN hL
  have hY := CellsAre.three Y
  obtain ⟨o', o2', o3', hE', d1', d2', d3'⟩ := hY
  subst hE'
  clear Y
  simp only [List.cons_append, List.nil_append] at N l1 l3
  have hD := ltN (l1 _ (.head _))
  have hD3 := (l3 _ (.head _)).2
  dsimp only at hD hD3
  have hR : ∀ q ∈ tl1 ++ rest, q.1 < L := by
    intro q hq
    rcases List.mem_append.mp hq with hq | hq
    · exact l2 q (List.mem_append_left _ hq)
    · exact l1 q (.tail _ hq)
  have hR73 : ∀ q ∈ tl1 ++ rest, q.1 ≠ 73 := by
    intro q hq
    rcases List.mem_append.mp hq with hq | hq
    · exact ht1.ne (by decide) (by decide) q hq
    · exact (l3 q (.tail _ hq)).2
  have N2 := news_d2i N
  walk_at "go"
  refine nestDef_K rfl rfl rfl ?_
  refine nestAny F N2 T (CodeHd.keeps c2 (Below.stays B)) rfl ht2 (by decide) ?ho ?hl (fun q hq => l2 q (List.mem_append_right _ hq)) rfl ?_
  case ho =>
    refine List.forall_mem_cons.mpr ⟨?_, List.forall_mem_cons.mpr ⟨?_, List.forall_mem_cons.mpr ⟨?_, List.forall_mem_cons.mpr ⟨?_, hR73⟩⟩⟩⟩
    all_goals (refine neN ?_; dsimp only; omega)
  case hl => exact ⟨_, .tail _ (.head _), by refine ltN ?_; dsimp only; omega⟩
  intro f c' oc vs t ctv doc h' tk F3 N4 e1 e2 l4 l5 l6 l7 l8
  clear N N2
  k_lt l4
  replace l5 := ltN l5
  replace l6 := ltN l6
  replace l7 := ltN l7
  have m2 := neN (l8 _ (.head _) (by refine leN ?_; dsimp only; omega))
  have m3 := neN (l8 _ (.tail _ (.head _)) (by refine leN ?_; dsimp only; omega))
  have m4 := neN (l8 _ (.tail _ (.tail _ (.head _))) (by refine leN ?_; dsimp only; omega))
  dsimp only at m2 m3 m4
  clear l8
  walk_at "gox"
  rename News _ _ _ _ => kN
  rename Fr _ _ _ _ => kF
  exact ⟨_, [], _, _, _, _, rfl, ⟨rfl, _, rfl⟩, kF, news_endd kN, (fun q hq => nomatch hq), ht1, TabL.made e1 e2 l7⟩
theorem d2i2_con (w : World) (D : Addr) (q0 q1 n : Int) (ta tb t2 : Tok) (k : Nat) (h0 : 0 ≤ n) (hq : (Builtin.Int.intBits q1 : Int) + n ≤ 100000) :
    ConT w 5 78 [.ref D, .int n t2] [(D, W.listOf #[.int q0 ta, .int q1 tb] k)] (fun v own => own = [] ∧ ∃ t, v = .int (q1 * 2 ^ n.toNat + q0) t) := by
  walk_at "conT"
  intro prog p loose mean mg mb dp un outer A₀ base g L h₁ tk s cells tl1 tl2 rest B F X T hd hu N Y l1 l2 hL c1 c2 ht1 ht2 l3
  replace hL := ltN hL
  have hY := CellsAre.three Y
  obtain ⟨o', o2', o3', hE', d1', d2', d3'⟩ := hY
  subst hE'
  clear Y
  simp only [List.cons_append, List.nil_append] at N l1 l3
  have hD := ltN (l1 _ (.head _))
  have hD3 := (l3 _ (.head _)).2
  dsimp only at hD hD3
  have hR : ∀ q ∈ tl1 ++ rest, q.1 < L := by
    intro q hq
    rcases List.mem_append.mp hq with hq | hq
    · exact l2 q (List.mem_append_left _ hq)
    · exact l1 q (.tail _ hq)
  have hR73 : ∀ q ∈ tl1 ++ rest, q.1 ≠ 73 := by
    intro q hq
    rcases List.mem_append.mp hq with hq | hq
    · exact ht1.ne (by decide) (by decide) q hq
    · exact (l3 q (.tail _ hq)).2
  have N2 := news_d2i N
  walk_at "go"
  refine nestDef_K rfl rfl rfl ?_
  refine nestAny F N2 T (CodeHd.keeps c2 (Below.stays B)) rfl ht2 (by decide) ?ho ?hl (fun q hq => l2 q (List.mem_append_right _ hq)) rfl ?_
  case ho =>
    refine List.forall_mem_cons.mpr ⟨?_, List.forall_mem_cons.mpr ⟨?_, List.forall_mem_cons.mpr ⟨?_, List.forall_mem_cons.mpr ⟨?_, hR73⟩⟩⟩⟩
    all_goals (refine neN ?_; dsimp only; omega)
  case hl => exact ⟨_, .tail _ (.head _), by refine ltN ?_; dsimp only; omega⟩
  intro f c' oc vs t ctv doc h' tk F3 N4 e1 e2 l4 l5 l6 l7 l8
  clear N N2
  k_lt l4
  replace l5 := ltN l5
  replace l6 := ltN l6
  replace l7 := ltN l7
  have m2 := neN (l8 _ (.head _) (by refine leN ?_; dsimp only; omega))
  have m3 := neN (l8 _ (.tail _ (.head _)) (by refine leN ?_; dsimp only; omega))
  have m4 := neN (l8 _ (.tail _ (.tail _ (.head _))) (by refine leN ?_; dsimp only; omega))
  dsimp only at m2 m3 m4
  clear l8
  walk_at "gob"
  walk1
  (try dsimp only)
  rw [show ((0 : Int) + 2).fdiv (2 ^ Int.toNat 1) = 1 from by decide]
  walk_at "gob"
  walk1
  (try dsimp only)
  rw [show ((1 : Int) - 0) * n = n from by omega]
  walk_at "gob"
  rw [show [q0, q1].getD (Int.toNat 1) 0 = q1 from rfl]
  refine lshift_int h0 (by omega) ?_
  dsimp only
  walk_at "gob"
  rename News _ _ _ _ => kN
  rename Fr _ _ _ _ => kF
  exact ⟨_, [], _, _, _, _, rfl, ⟨rfl, _, rfl⟩, kF, news_endd kN, (fun q hq => nomatch hq), ht1, TabL.made e1 e2 l7⟩
end
section -- ZMath1
theorem offZMath1 : True := by
  w_top off
  trivial
open PySem.Spec
open Builtin.Int (intBits)
theorem lt_two_pow_bits {b : Int} (hb : 0 ≤ b) : b < 2 ^ intBits b := by
  have h := intBits_le_iff.mp (Nat.le_refl (intBits b))
  obtain ⟨m, rfl⟩ := Int.eq_ofNat_of_zero_le hb
  simp only [Int.natAbs_natCast] at h
  exact_mod_cast h
theorem bits_of_lt {x : Int} {m : Nat} (h0 : 0 ≤ x) (h : x < 2 ^ m) : intBits x ≤ m := by
  refine intBits_le_iff.mpr ?_
  obtain ⟨k, rfl⟩ := Int.eq_ofNat_of_zero_le h0
  simp only [Int.natAbs_natCast]
  exact_mod_cast h
theorem bits_mono {x y : Int} (h0 : 0 ≤ x) (h : x ≤ y) : intBits x ≤ intBits y := bits_of_lt h0 (Int.lt_of_le_of_lt h (lt_two_pow_bits (Int.le_trans h0 h)))
structure DMF (a b P hi lo : Int) (B : Nat) : Prop where
  hi0 : 0 ≤ hi
  bhi : intBits hi ≤ 2 * B
  r0 : 0 ≤ hi.fmod b
  br : intBits (hi.fmod b) ≤ B
  bx : intBits (hi.fmod b * P + lo) ≤ 2 * B
  bq : intBits (hi.fdiv b) ≤ 2 * B
  q : hi.fdiv b * P + (hi.fmod b * P + lo).fdiv b = a.fdiv b
  r : (hi.fmod b * P + lo).fmod b = a.fmod b
theorem dmf {a b P hi lo : Int} (ha : 0 < a) (hb : 0 < b) (hA : intBits a ≤ 2 * intBits b) (hP : P = 2 ^ intBits b) (hlo : lo = a % P) (hhi : hi = a / P) : DMF a b P hi lo (intBits b) := by
  have hb' : (0 : Int) ≤ b := Int.le_of_lt hb
  have hbP : b < P := hP ▸ lt_two_pow_bits hb'
  have hP0 : 0 < P := Int.lt_trans hb hbP
  have e1 : hi.fmod b = hi % b := Int.fmod_eq_emod_of_nonneg _ hb'
  have e2 : hi.fdiv b = hi / b := Int.fdiv_eq_ediv_of_nonneg _ hb'
  have h0 : 0 ≤ hi := hhi ▸ Int.ediv_nonneg (Int.le_of_lt ha) (Int.le_of_lt hP0)
  have hia : hi ≤ a := hhi ▸ Int.ediv_le_self _ (Int.le_of_lt ha)
  have hr0 : 0 ≤ hi % b := Int.emod_nonneg _ (Int.ne_of_gt hb)
  have hr1 : hi % b < b := Int.emod_lt_of_pos _ hb
  have hl0 : 0 ≤ lo := hlo ▸ Int.emod_nonneg _ (Int.ne_of_gt hP0)
  have hl1 : lo < P := hlo ▸ Int.emod_lt_of_pos _ hP0
  have hq0 : 0 ≤ hi / b := Int.ediv_nonneg h0 hb'
  have hsplit : a = hi * P + lo := by
    rw [hhi, hlo]
    have := Int.ediv_mul_add_emod a P
    omega
  have hhs : hi = b * (hi / b) + hi % b := (Int.mul_ediv_add_emod hi b).symm
  have hx0 : 0 ≤ hi % b * P + lo := Int.add_nonneg (Int.mul_nonneg hr0 (Int.le_of_lt hP0)) hl0
  have hx1 : hi % b * P + lo < P * P := by
    have h1 : (hi % b + 1) * P ≤ P * P := Int.mul_le_mul_of_nonneg_right (by omega) (Int.le_of_lt hP0)
    have h2 : (hi % b + 1) * P = hi % b * P + P := by rw [Int.add_mul, Int.one_mul]
    omega
  have hPP : P * P = 2 ^ (2 * intBits b) := by
    rw [hP, ← Int.pow_add]
    congr 1
    omega
  have key : a = (hi % b * P + lo) + b * (hi / b * P) := by
    have h3 : hi * P = (b * (hi / b) + hi % b) * P := congrArg (· * P) hhs
    rw [Int.add_mul, Int.mul_assoc] at h3
    omega
  refine ⟨h0, Nat.le_trans (bits_mono h0 hia) hA, e1 ▸ hr0, ?_, ?_, ?_, ?_, ?_⟩
  · rw [e1]; exact bits_mono hr0 (Int.le_of_lt hr1)
  · rw [e1]; exact bits_of_lt hx0 (hPP ▸ hx1)
  · rw [e2]; exact Nat.le_trans (bits_mono hq0 (Int.le_trans (Int.ediv_le_self _ h0) hia)) hA
  · rw [e1, e2, Int.fdiv_eq_ediv_of_nonneg _ hb', Int.fdiv_eq_ediv_of_nonneg _ hb']
    conv => rhs; rw [key]
    rw [Int.add_mul_ediv_left _ _ (Int.ne_of_gt hb)]
    omega
  · rw [e1, Int.fmod_eq_emod_of_nonneg _ hb', Int.fmod_eq_emod_of_nonneg _ hb']
    conv => rhs; rw [key]
    rw [Int.add_mul_emod_self_left]
end
local macro_rules | `(tactic| walk_at "gos") => `(tactic| repeat ((fail_if_success (with_reducible show wpAny _ _ (exec (Stmt.While _ _ _ _) _) _ _ _)); (fail_if_success (with_reducible show wpAny _ _ (exec (Stmt.For _ _ _ _ _) _) _ _ _)); (fail_if_success (with_reducible show wpAny _ _ (exec (Stmt.FunctionDef _ _ _ _ _ _ _ _ _ _) _) _ _ _)); (fail_if_success (with_reducible show wpAny _ _ (binaryOp Operator.RShift _ _) _ _ _)); (fail_if_success (with_reducible show wpAny _ _ (binaryOp Operator.LShift _ _) _ _ _)); (fail_if_success (with_reducible show wpAny _ _ (binaryOp Operator.BitXor _ _) _ _ _)); (fail_if_success (with_reducible show wpAny _ _ (binaryOp Operator.Mult _ _) _ _ _)); (fail_if_success (with_reducible show wpAny _ _ (binaryOp Operator.Pow _ _) _ _ _)); (fail_if_success (with_reducible show wpAny _ _ (call (Value.ref _) _) _ _ _)); walk1; try dsimp only))
section -- ZW7
theorem offZW7 : True := by
  w_top off
  trivial
open PySem.Spec
set_option maxRecDepth 100000
set_option maxHeartbeats 4000000
local macro_rules | `(tactic| k_all) => `(tactic| exact rest_ne (by assumption) (by omega))
theorem allLt_ne {d : Addr} : ∀ {l : List (Addr × Obj)}, AllLt d l → ∀ p ∈ l, p.1 ≠ d
  | [], _ => fun _ h => nomatch h
  | _ :: _, h => fun p hp => by
    rcases List.mem_cons.mp hp with rfl | hp
    · exact Nat.ne_of_lt h.1
    · exact allLt_ne h.2 p hp
local macro_rules | `(tactic| k_all) => `(tactic| exact allLt_ne (by assumption))
theorem ints1 {vs : List Value} {a : Int} (h : IntsAre vs [a]) : ∃ t, vs = [Value.int a t] := by
  cases h; rename_i h; cases h; exact ⟨_, rfl⟩
theorem ints2 {vs : List Value} {a b : Int} (h : IntsAre vs [a, b]) : ∃ t t', vs = [Value.int a t, Value.int b t'] := by
  cases h; rename_i h; obtain ⟨t, rfl⟩ := ints1 h; exact ⟨_, _, rfl⟩
theorem offI_of {I : Addr} {it : Obj} : ∀ {l : List (Addr × Obj)}, AllLt I l → OffI I it l
  | [], _ => trivial
  | _ :: _, h => ⟨.inl (Nat.ne_of_lt h.1), offI_of h.2⟩
theorem unr_end4 {h₀ : Heap} {L I : Addr} {it : Obj} {rest : (Str → Option Value) → List (Addr × Obj) → Prop} {s₁ : Shared} {h' : Heap} {tk : Nat} {m' : Str → Option Value} {t q d : Addr × Obj} {R0 : List (Addr × Obj)}
    (F : Fr h₀ L h' m') (N : News h₀ L h' (t :: (I, it) :: q :: d :: R0)) (h1 : q.1 ≠ I) (h2 : d.1 ≠ I) (h3 : AllLt I R0) (r : rest m' (q :: d :: R0)) : UnrEnd h₀ L s₁ I it rest { s₁ with heap := h', toks := tk } := by
  refine UnrEnd.intro F N (q :: d :: R0) (fun p hp => .tail _ hp) ?_ r
  intro p hp
  rcases List.mem_cons.mp hp with rfl | hp
  · exact h1
  · rcases List.mem_cons.mp hp with rfl | hp
    · exact h2
    · exact allLt_ne h3 p hp
theorem news_dm {g h : Heap} {L : Addr} {q d : Addr × Obj} {t1 t2 r : List (Addr × Obj)} (N : News g L h (q :: d :: (t1 ++ (t2 ++ ([] ++ r))))) : News g L h (t1 ++ (t2 ++ ([q] ++ (d :: r)))) := by
  intro p hp
  refine N p ?_
  simp only [List.mem_append, List.mem_cons, List.not_mem_nil, or_false, false_or] at hp ⊢
  rcases hp with h | h | h | h | h <;> simp [h]
theorem news_fin {g h : Heap} {L : Addr} {a q d : Addr × Obj} {t1 t2 r : List (Addr × Obj)} (N : News g L h (a :: ([] ++ (t1 ++ (t2 ++ ([q] ++ (d :: r))))))) : News g L h ([a] ++ (t1 ++ (t2 ++ ([] ++ r)))) := by
  intro p hp
  refine N p ?_
  simp only [List.mem_append, List.mem_cons, List.not_mem_nil, or_false, false_or] at hp ⊢
  rcases hp with h | h | h | h <;> simp [h]
theorem mem_fin {x q d : Addr × Obj} {t1 t2 r : List (Addr × Obj)} (h : x ∈ [] ++ r) : x ∈ [] ++ (t1 ++ (t2 ++ ([q] ++ (d :: r)))) := by
  simp only [List.mem_append, List.mem_cons, List.not_mem_nil, or_false, false_or] at h ⊢
  simp [h]
theorem mem_finD {q d : Addr × Obj} {t1 t2 r : List (Addr × Obj)} : d ∈ [] ++ (t1 ++ (t2 ++ ([q] ++ (d :: r)))) := by
  simp
theorem dmp1_con (w : World) (a b : Int) (t1 t2 : Tok) (ha : 0 < a) (hb : 0 < b) (hbb : Builtin.Int.intBits b ≤ 1000) (hn : Builtin.Int.intBits a ≤ Builtin.Int.intBits b) :
    ConT w 10 85 [.int a t1, .int b t2] [] (IsDM a b) := by
  walk_at "conT"
  intro prog p loose mean mg mb dp un outer A₀ base g L h₁ tk s cells tl1 tl2 rest B F X T hd hu N Y l1 l2 hL c1 c2 ht1 ht2 l3
  replace hL := ltN hL
  cases Y
  simp only [List.nil_append] at N
  have hb1 : 0 < (Builtin.Int.intBits b : Int) := by
    have := intBits_pos hb
    omega
  have F0 : Fr g L h₁ (fun y => if y = Str.ofString "b" then some (Value.int b t2) else if y = Str.ofString "a" then some (Value.int a t1) else none) := F
  clear F
  walk_at "go"
  rename Fr _ _ _ _ => F1
  rename News _ _ _ _ => N1
  refine (i2d1_con w a _ _ _ ha hb1 (by omega) (by omega)).use B F1 X N1 T rfl c1 c2 ht1 ht2 l3 hL (by omega) (by omega) ?_
  rintro v own tl1' tl2' h2 tk2 ⟨D, vs, k, rfl, rfl, hI⟩ ht1' ht2' F2 N2 hlt h130
  clear F1 N1
  obtain ⟨ta, rfl⟩ : ∃ ta, vs = [Value.int a ta] := by
    exact ints1 hI
  clear hI
  have hD := ltN (h130 _ (.head _))
  dsimp only at hD
  obtain ⟨R0, hR0⟩ : ∃ R0, R0 = tl1' ++ (tl2' ++ ([] ++ rest)) := ⟨_, rfl⟩
  rw [← hR0] at N2
  simp only [List.cons_append, List.nil_append] at N2
  walk_at "go"
  rename (_ < _ ∧ _) => hA
  obtain ⟨hAD, hAR⟩ := hA
  walk1
  walk_at "go"
  rename Fr _ _ _ _ => F4
  rename News _ _ _ _ => N4
  rename (_ < _ ∧ _) => hB
  obtain ⟨hBQ, hBD, hBR⟩ := hB
  refine iter_revUnr (lo := W.listOf #[Value.int a ta] k) (vs := [Value.int a ta]) rfl F4 N4 ⟨.inl (neN (by omega)), .inl (neN (by omega)), offI_of hBR⟩ (.tail _ (.head _)) rfl rfl ?_
  refine RevRest.succ (fun it h5 tk5 hit F5 N5 => ?_)
  clear F4 N4
  walk_at "gos"
  refine lshift_int (by omega) (by show ((0 : Nat) : Int) + _ ≤ _; omega) ?_
  dsimp only
  rw [Int.zero_mul]
  walk_at "gos"
  rw [Int.zero_add]
  rename News _ _ _ _ => N6
  rename Fr _ _ _ _ => F6
  refine (div21_con w a b _ _ _ _ hb (by have := intBits_le_iff.mp hbb; exact Nat.lt_of_lt_of_le this (Nat.pow_le_pow_right (by omega) (by omega))) (by omega)).use B F6 X N6 T rfl (by omega) (by omega) trivial ?_
  rintro v own h7 tk7 ⟨Tt, tq, tr, rfl, rfl⟩ F7 N7 hd7
  clear F6 N6
  have hx1 := neN (hd7 _ (.head _) _ (.tail _ (.head _)))
  dsimp only at hx1
  simp only [List.cons_append, List.nil_append] at N7
  dsimp only
  walk_at "gos"
  rename News _ _ _ _ => N6
  rename Fr _ _ _ _ => F6
  refine unr_end4 F6 N6 (neN (by dsimp only; omega)) (neN (by dsimp only; omega)) hBR ⟨.tail _ (.head _), ?_⟩
  refine RevRest.zero (fun h8 tk8 F8 N8 => ?_)
  clear F6 N6
  simp only [List.push_toArray, List.nil_append] at N8
  dsimp only
  walk_at "gos"
  rename News _ _ _ _ => N9
  rename Fr _ _ _ _ => F9
  rw [hR0] at N9
  have N10 := news_dm N9
  clear N9 N8 F8
  refine (d2i1_con w _ (a.fdiv b) _ _ _ _).use B F9 X N10 T rfl c1 c2 ht1' ht2' ?h3 hL (by omega) (by omega) ?_
  case h3 =>
    refine List.forall_mem_cons.mpr ⟨⟨by dsimp only; omega, by dsimp only; omega⟩, List.forall_mem_cons.mpr ⟨⟨by dsimp only; omega, by dsimp only; omega⟩, ?_⟩⟩
    exact l3
  rintro v own t1'' t2'' h11 tk11 ⟨rfl, t11, rfl⟩ ht1'' ht2'' F11 N11 _ _
  clear F9 N10
  dsimp only
  walk_at "gos"
  rename News _ _ _ _ => N12
  rename Fr _ _ _ _ => F12
  rename (∀ (p : Addr × Obj), p ∈ [] ++ _ → p.1 < _) => l12
  refine ⟨_, _, t1'', t2'', _, _, rfl, ⟨_, _, _, rfl, rfl⟩, F12, news_fin N12, ?_, ht1'', ht2''⟩
  intro q hq
  rcases List.mem_singleton.mp hq with rfl
  refine ⟨fun x hx => l12 x (mem_fin hx), Nat.lt_trans hD (l12 _ (mem_finD))⟩
end
section -- ZW8
theorem offZW8 : True := by
  w_top off
  trivial
open PySem.Spec
set_option maxRecDepth 100000
set_option maxHeartbeats 4000000
local macro_rules | `(tactic| k_all) => `(tactic| exact rest_ne (by assumption) (by omega))
local macro_rules | `(tactic| k_all) => `(tactic| exact allLt_ne (by assumption))
theorem dmp2_con (w : World) (a b : Int) (t1 t2 : Tok) (ha : 0 < a) (hb : 0 < b) (hbb : Builtin.Int.intBits b ≤ 1000) (hn : Builtin.Int.intBits b < Builtin.Int.intBits a) (hn' : Builtin.Int.intBits a ≤ 2 * Builtin.Int.intBits b) :
    ConT w 10 85 [.int a t1, .int b t2] [] (IsDM a b) := by
  walk_at "conT"
  intro prog p loose mean mg mb dp un outer A₀ base g L h₁ tk s cells tl1 tl2 rest B F X T hd hu N Y l1 l2 hL c1 c2 ht1 ht2 l3
  replace hL := ltN hL
  cases Y
  simp only [List.nil_append] at N
  have hb1 : 0 < (Builtin.Int.intBits b : Int) := by
    have := intBits_pos hb
    omega
  have F0 : Fr g L h₁ (fun y => if y = Str.ofString "b" then some (Value.int b t2) else if y = Str.ofString "a" then some (Value.int a t1) else none) := F
  clear F
  walk_at "go"
  rename Fr _ _ _ _ => F1
  rename News _ _ _ _ => N1
  refine (i2d2_con w a _ _ _ ha hb1 (by omega) (by omega) (by omega)).use B F1 X N1 T rfl c1 c2 ht1 ht2 l3 hL (by omega) (by omega) ?_
  rintro v own tl1' tl2' h2 tk2 ⟨D, vs, k, rfl, rfl, hI⟩ ht1' ht2' F2 N2 hlt h130
  clear F1 N1
  rw [Int.toNat_natCast] at hI
  obtain ⟨P, hP⟩ : ∃ P : Int, P = 2 ^ Builtin.Int.intBits b := ⟨_, rfl⟩
  rw [← hP] at hI
  obtain ⟨lo, hlo⟩ : ∃ lo, lo = a % P := ⟨_, rfl⟩
  obtain ⟨hi, hhi⟩ : ∃ hi, hi = a / P := ⟨_, rfl⟩
  rw [← hlo, ← hhi] at hI
  have M := dmf ha hb hn' hP hlo hhi
  have mb1 := M.bhi
  have mb2 := M.br
  have mb3 := M.bx
  have mb4 := M.bq
  obtain ⟨ta, tb, rfl⟩ := ints2 hI
  clear hI
  have hD := ltN (h130 _ (.head _))
  dsimp only at hD
  obtain ⟨R0, hR0⟩ : ∃ R0, R0 = tl1' ++ (tl2' ++ ([] ++ rest)) := ⟨_, rfl⟩
  rw [← hR0] at N2
  simp only [List.cons_append, List.nil_append] at N2
  walk_at "go"
  rename (_ < _ ∧ _) => hA
  obtain ⟨hAD, hAR⟩ := hA
  walk1
  walk_at "go"
  rename Fr _ _ _ _ => F4
  rename News _ _ _ _ => N4
  rename (_ < _ ∧ _) => hB
  obtain ⟨hBQ, hBD, hBR⟩ := hB
  refine iter_revUnr (lo := W.listOf #[Value.int lo ta, Value.int hi tb] k) (vs := [Value.int lo ta, Value.int hi tb]) rfl F4 N4 ⟨.inl (neN (by omega)), .inl (neN (by omega)), offI_of hBR⟩ (.tail _ (.head _)) rfl rfl ?_
  refine RevRest.succ (fun it h5 tk5 hit F5 N5 => ?_)
  clear F4 N4
  walk_at "gos"
  refine lshift_int (by omega) (by show ((0 : Nat) : Int) + _ ≤ _; omega) ?_
  dsimp only
  rw [Int.zero_mul]
  walk_at "gos"
  rw [Int.zero_add]
  rename News _ _ _ _ => N6
  rename Fr _ _ _ _ => F6
  refine (div21_con w hi b _ _ _ _ hb (by have := intBits_le_iff.mp hbb; exact Nat.lt_of_lt_of_le this (Nat.pow_le_pow_right (by omega) (by omega))) (by omega)).use B F6 X N6 T rfl (by omega) (by omega) trivial ?_
  rintro v own h7 tk7 ⟨Tt, tq, tr, rfl, rfl⟩ F7 N7 hd7
  clear F6 N6
  have hx1 := neN (hd7 _ (.head _) _ (.tail _ (.head _)))
  dsimp only at hx1
  simp only [List.cons_append, List.nil_append] at N7
  dsimp only
  walk_at "gos"
  rename News _ _ _ _ => N6
  rename Fr _ _ _ _ => F6
  refine unr_end4 F6 N6 (neN (by dsimp only; omega)) (neN (by dsimp only; omega)) hBR ⟨.tail _ (.head _), ?_⟩
  refine RevRest.succ (fun it2 h8 tk8 hit2 F8 N8 => ?_)
  clear F6 N6
  simp only [List.push_toArray, List.nil_append] at N8
  dsimp only
  walk_at "gos"
  refine lshift_int (by omega) (by omega) ?_
  dsimp only
  rw [Int.toNat_natCast, ← hP]
  walk_at "gos"
  rename News _ _ _ _ => N6
  rename Fr _ _ _ _ => F6
  obtain ⟨x, hx⟩ : ∃ x, x = hi.fmod b * P + lo := ⟨_, rfl⟩
  rw [← hx] at mb3
  have hq9 := M.q
  have hr9 := M.r
  rw [← hx] at hq9 hr9 ⊢
  refine (div21_con w x b _ _ _ _ hb (by have := intBits_le_iff.mp hbb; exact Nat.lt_of_lt_of_le this (Nat.pow_le_pow_right (by omega) (by omega))) (by omega)).use B F6 X N6 T rfl (by omega) (by omega) trivial ?_
  rintro v own h7 tk7 ⟨Tu, tq2, tr2, rfl, rfl⟩ F7 N7 hd7
  clear F6 N6
  have hx2 := neN (hd7 _ (.head _) _ (.tail _ (.head _)))
  dsimp only at hx2
  simp only [List.cons_append, List.nil_append] at N7
  dsimp only
  walk_at "gos"
  rename News _ _ _ _ => N6
  rename Fr _ _ _ _ => F6
  refine unr_end4 F6 N6 (neN (by dsimp only; omega)) (neN (by dsimp only; omega)) hBR ⟨.tail _ (.head _), ?_⟩
  refine RevRest.zero (fun h8 tk8 F8 N8 => ?_)
  clear F6 N6
  simp only [List.push_toArray, List.cons_append, List.nil_append] at N8
  dsimp only
  walk_at "gos"
  rename News _ _ _ _ => N9
  rename Fr _ _ _ _ => F9
  rw [hR0] at N9
  have N10 := news_dm N9
  clear N9 N8 F8
  refine (d2i2_con w _ (x.fdiv b) (hi.fdiv b) _ _ _ _ _ (by omega) (by omega)).use B F9 X N10 T rfl c1 c2 ht1' ht2' ?h3 hL (by omega) (by omega) ?_
  case h3 =>
    refine List.forall_mem_cons.mpr ⟨⟨by dsimp only; omega, by dsimp only; omega⟩, List.forall_mem_cons.mpr ⟨⟨by dsimp only; omega, by dsimp only; omega⟩, ?_⟩⟩
    exact l3
  rintro v own t1'' t2'' h11 tk11 ⟨rfl, t11, rfl⟩ ht1'' ht2'' F11 N11 _ _
  clear F9 N10
  dsimp only
  rw [Int.toNat_natCast, ← hP, hq9]
  rw [hr9] at F11
  walk_at "gos"
  rename News _ _ _ _ => N12
  rename Fr _ _ _ _ => F12
  rename (∀ (p : Addr × Obj), p ∈ [] ++ _ → p.1 < _) => l12
  refine ⟨_, _, t1'', t2'', _, _, rfl, ⟨_, _, _, rfl, rfl⟩, F12, news_fin N12, ?_, ht1'', ht2''⟩
  intro q hq
  rcases List.mem_singleton.mp hq with rfl
  refine ⟨fun x hx => l12 x (mem_fin hx), Nat.lt_trans hD (l12 _ (mem_finD))⟩
end
section -- ZN
theorem offZN : True := by
  w_top off
  trivial
set_option maxRecDepth 100000

/-- the builtins that a bytearray's look at the stack can take for a lender of its buffer -/
def lenders : List String := ["bytearray.__contains__", "bytearray.__mod__", "bytearray.__rmod__", "_struct.pack_into.held", "bytearray.find.held"] ++ PySem.Builtin.Bytes.decodersThatHold
def okC : Code → Bool
  | .builtin id _ => !lenders.contains id
  | _ => true
def NoLend (Γ : PySem.Ctx) : Prop := okC Γ.code = true ∧ ∀ x ∈ Γ.below, okC x.1 = true

def wpN {α : Type} (M : Model) (A : Around) (t : Sem α) (Q : α → Shared → Prop) (E : Value → Shared → Prop) (s : Shared) : Prop :=
  ∀ Γ p, Γ.In A → NoLend Γ → Sem.wp M Γ t (fun a _ s' => Q a s') (fun e _ s' => E e s') p s
def codeN (M : Model) (A : Around) (c : Code) (R : Result → Shared → Prop) (s : Shared) : Prop :=
  ∀ Γ p, Γ.code = c → Γ.Below A → (∀ x ∈ Γ.below, okC x.1 = true) → wpCode M Γ R p s

section
variable {α β : Type} {M : Model} {A : Around} {E : Value → Shared → Prop} {s : Shared}
theorem wpN_of {t : Sem α} {Q : α → Shared → Prop} (h : wpAny M A t Q E s) : wpN M A t Q E s := fun Γ p hΓ _ => h Γ p hΓ
theorem codeN_of {c : Code} {R : Result → Shared → Prop} (h : codeAny M A c R s) : codeN M A c R s := fun Γ p hc hΓ _ => h Γ p hc hΓ
theorem wpN_pure {a : α} {Q : α → Shared → Prop} (h : Q a s) : wpN M A (pure a) Q E s := fun _ _ _ _ => h
theorem wpN_mono {t : Sem α} {Q Q' : α → Shared → Prop} {E' : Value → Shared → Prop} (h : wpN M A t Q E s)
    (hQ : ∀ a s, Q a s → Q' a s) (hE : ∀ e s, E e s → E' e s) : wpN M A t Q' E' s :=
  fun Γ p hΓ hn => Sem.wp_mono M Γ t (fun a _ s => hQ a s) (fun e _ s => hE e s) p s (h Γ p hΓ hn)
theorem wpN_bind {m : Sem α} {f : α → Sem β} {Q : β → Shared → Prop} (h : wpN M A m (fun a s' => wpN M A (f a) Q E s') E s) :
    wpN M A (m >>= f) Q E s := fun Γ p hΓ hn => by
  rw [Sem.wp_bind']
  exact Sem.wp_mono M Γ m (fun a p' s' h' => h' Γ p' hΓ hn) (fun _ _ _ h' => h') p s (h Γ p hΓ hn)
theorem wpN_bindA {m : Sem α} {f : α → Sem β} {Q : β → Shared → Prop} (h : wpAny M A m (fun a s' => wpN M A (f a) Q E s') E s) :
    wpN M A (m >>= f) Q E s := wpN_bind (wpN_of h)
theorem wpN_holding {vs : List Value} {m : Sem α} {Q : α → Shared → Prop} (h : wpN M A m Q E s) : wpN M A (holding vs m) Q E s :=
  fun Γ p hΓ hn => by rw [Sem.wp_holding]; exact h Γ p hΓ hn
theorem wpN_onRaise {m : Sem α} {k : Value → Sem Unit} {Q : α → Shared → Prop}
    (h : wpN M A m Q (fun e s' => wpAny M A (k e) (fun _ s'' => E e s'') E s') s) : wpN M A (m.onRaise k) Q E s := fun Γ p hΓ hn => by
  rw [Sem.wp_onRaise]
  exact Sem.wp_mono M Γ m (fun _ _ _ h' => h') (fun e p' s' h' => h' Γ p' hΓ) p s (h Γ p hΓ hn)
theorem wpN_stack {Q : List (Code × Pos) → Shared → Prop}
    (h : ∀ st : List (Code × Pos), (∀ x ∈ st, okC x.1 = true) → Q st s) : wpN M A stack Q E s := fun Γ p _ hn => by
  show Q ((Γ.code, p) :: Γ.below) s
  refine h _ fun x hx => ?_
  rcases List.mem_cons.mp hx with rfl | hx
  · exact hn.1
  · exact hn.2 x hx
theorem codeN_mono {c : Code} {R R' : Result → Shared → Prop} (h : codeN M A c R s) (hR : ∀ r s, R r s → R' r s) : codeN M A c R' s :=
  fun Γ p hc hΓ hn => wpCode_mono hR (h Γ p hc hΓ hn)
theorem nolend_below {Γ : PySem.Ctx} (hn : NoLend Γ) {p : Pos} : ∀ x ∈ (Γ.code, p) :: Γ.below, okC x.1 = true := fun x hx => by
  rcases List.mem_cons.mp hx with rfl | hx
  · exact hn.1
  · exact hn.2 x hx
theorem wpN_runValue {c : Code} {Q : Value → Shared → Prop}
    (hc : codeN M A c (fun r s' => match r with | .ok (.ret v) => Q v s' | .ok _ => False | .error e => E e s') s) :
    wpN M A (runValue c) Q E s := fun Γ p hΓ hn => by
  rw [Sem.wp_runValue]
  exact hc _ p rfl (hΓ.enter c none p (by intro x; cases x)) (nolend_below hn)
theorem wpN_call {f : Value} {pos : List Value} {kw : List (Str × Value)} {Q : Value → Shared → Prop}
    (hc : codeN M A (.call f ⟨pos, kw⟩) (fun r s' => match r with | .ok (.ret v) => Q v s' | .ok _ => False | .error e => E e s') s) :
    wpN M A (call f pos kw) Q E s := wpN_runValue hc
theorem codeN_of_tree {c : Code} {R : Result → Shared → Prop} (hok : okC c = true)
    (h : wpN M (A.under c) (M.den c) (fun fin s' => match fin with | .done f => R (.ok f) s' | .again c' => c'.quiet = true ∧ codeN M A c' R s')
      (fun e s' => R (.error e) s') s) : codeN M A c R s := fun Γ p hc hΓ hn => by
  rw [wpCode_iff_wp, hc]
  refine Sem.wp_mono M Γ _ (fun fin p' s' h' => ?_) (fun _ _ _ h' => h') p s (h Γ p (hc ▸ hΓ.in) ⟨hc ▸ hok, hn⟩)
  cases fin with
  | done f => exact h'
  | again c' => exact ⟨h'.1, h'.2 (Γ.goto c') p' rfl (hΓ.goto c') hn⟩
end
section
variable {prog : Program} {w : World} {A : Around} {R : Result → Shared → Prop} {s : Shared}
theorem codeN_func {body : List Stmt} {env : Env}
    (h : wpN (model prog w) (A.deeper env) (execs body env) (fun f s' => R (.ok (.ret (match f with | .ret v => v | _ => .none))) s') (fun _ _ => False) s) :
    codeN (model prog w) A (.func body env) R s := by
  refine codeN_of_tree rfl ?_
  show wpN _ (A.deeper env) (do point; match ← (execs body env).onRaise (leaving env) with | .ret v => ret v | _ => ret .none) _ _ s
  refine wpN_bindA (wpAny_point (wpN_bind (wpN_onRaise (wpN_mono h (fun f s' h' => ?_) fun _ _ h' => h'.elim))))
  cases f <;> exact wpN_pure h'
theorem codeN_callFn {a : Addr} {args : Args} {o : Obj} {fd : FuncData} {body : List Stmt} (hroom : A.depth < recursionLimit)
    (ho : s.heap.get? a = some o) (hd : o.data = .func fd) (hco : fd.scope.isCoroutine = false) (hgen : fd.scope.isGenerator = false) (hbody : fd.body = .stmts body) (hcd : s.heap.CodeRec fd.code fd.qualname)
    (h : wpAny (model prog w) A.in1 (bindArgs fd args) (fun binds s₁ =>
      wpAny (model prog w) A.in1 (newFunctionEnv fd.scope fd.globals fd.closure binds (fd.qualname ++ ".<locals>.") (some a) fd.code none fd.builtins)
        (fun env s₂ => s₂.heap.NoLimit ∧ codeN (model prog w) A (.func body env) R s₂) (fun _ _ => False) s₁) (fun _ _ => False) s) :
    codeN (model prog w) A (.call (.ref a) args) R s := by
  refine codeN_of_tree rfl (wpN_of ?_)
  show wpAny _ A.in1 (callAny (.ref a) args) _ _ s
  obtain ⟨c, oc, vs, tq, hc, hoc, hdc, hq⟩ := hcd
  simp only [callAny]
  refine wpAny_bind (wpAny_load ho ?_)
  simp only [hd, callFunction, hco, hgen, hbody, hc]
  rw [hc] at h
  refine wpAny_bind (m := field (.ref c) 1) (wpAny_field hoc hdc hq (wpAny_bind (wpAny_pure ?_)))
  refine wpAny_bind (wpAny_mono h (fun binds s₁ h₁ => ?_) fun _ _ h' => h'.elim)
  refine wpAny_bind (wpAny_mono h₁ (fun env s₂ h₂ => ?_) fun _ _ h' => h'.elim)
  exact wpAny_bind (wpAny_enterFrame h₂.1 hroom (wpAny_pure (And.intro rfl h₂.2)))
end
end
section -- ZHd
theorem offZHd : True := by
  w_top off
  trivial
set_option maxRecDepth 100000
def okSt (st : List (Code × Pos)) : Bool := st.all fun x => okC x.1
/-- t where no lender stands on the stack, alt elsewhere -/
def fenced (t alt : Sem Fin) : Sem Fin := stack >>= fun st => if okSt st = true then t else alt
abbrev asCaller (t : Sem Fin) : Thread := ⟨t, .builtin "claim.caller" {}, default, []⟩
theorem sched_fenced {p : Program} {w : World} {s s' : Shared} {t alt : Sem Fin} {n : Nat} {o : Outcome} (hz : s.asleep)
    (h : schedN (denote table) p w n (.single s (asCaller (fenced t alt))) = .halted o s') :
    ∃ n', schedN (denote table) p w n' (.single s (asCaller t)) = .halted o s' := by
  cases n with
  | zero => cases h
  | succ n =>
    have e : step (denote table) p w s (asCaller (fenced t alt)) = .go s (asCaller t) := rfl
    have hs : sstep (denote table) p w (.single s (asCaller (fenced t alt))) = .go (.single s (asCaller t)) := by
      rcases sstep_single (den := denote table) (prog := p) (w := w) s (asCaller (fenced t alt)) rfl hz with q | q
      · rw [q, e]; rfl
      · rw [e] at q; cases q
    unfold schedN at h
    rw [hs] at h
    exact ⟨n, h⟩

theorem callFrom_fenced {c : ClaimW} {tree alt : List Value → Sem Fin} {w : World} {free : Addr → Prop} {gens : Prop} {kept : Heap → Prop} {s₀ : Shared} (hz : s₀.asleep)
    (H : c.CallFrom (fun vs => asCaller (fenced (tree vs) (alt vs))) w free gens kept s₀) : c.CallFrom (fun vs => asCaller (tree vs)) w free gens kept s₀ :=
  fun args h1 h2 ord h3 =>
    let ⟨vs, s₁, l, n, o, s', r, x⟩ := H args h1 h2 ord h3
    let ⟨n', r'⟩ := sched_fenced (Shared.asleep_of_life (layAllW_rest _ _ _ l).2.2.2 hz) r
    ⟨vs, s₁, l, n', o, s', r', x⟩

theorem open_fenced {c : ClaimW} {tree alt : List Value → Sem Fin} {defs keeps : List Str} {writes : Bool}
    (H : c.HoldsOpenBy (fun vs => asCaller (fenced (tree vs) (alt vs))) defs keeps writes) : c.HoldsOpenBy (fun vs => asCaller (tree vs)) defs keeps writes := by
  refine ⟨H.1, H.2.1, fun w => ⟨(H.2.2 w).1, fun s hs => ?_⟩⟩
  obtain ⟨s₀, hf, hg, s₁, hT, hd, hr, hq, hc⟩ := (H.2.2 w).2 s hs
  have hs' : AfterImport (opening c.prog) w s := hs
  exact ⟨s₀, hf, hg, s₁, hT, hd, hr, hq, callFrom_fenced (Shared.asleep_of_life (hT.2.1.trans (fence_lifeW hf)) hs'.life) hc⟩

/-- the walk of a law, under stacks with no lender -/
abbrev WalkNL (q : Program) (loose : List Str) (XP : (Str → Option Value) → Heap → Prop) (YP : World → Heap → Prop) (r : RowW) (d : DefRec) (kwd : List (Str × Expr)) : Prop :=
  ∀ (w : World) (s₀ s₁ : Shared) (mg mb : Str → Option Value), Ground q loose r.records XP w s₀ mg mb s₁.heap → YP w s₁.heap → ∀ (a : Addr) (o : Obj) (pm cd doc dV kV : Value), s₁.heap.get? a = some o →
    o.data = .func { docDef d.name d.params d.body d.scope pm cd doc with defaults := dV, kwdefaults := kV } → s₁.heap.CodeRec cd d.name → Dflts mg s₁.heap d.params kwd dV kV → mg d.name = some (.ref a) → s₁.gens = #[] →
    ∀ (args : List WData) (vals : List Value) (as : List Addr), r.claim.pre args = true → WData.layableAll args = true → ReadsAllW r.records (classAt s₀.heap) s₁.heap vals args as → WellAll w.params s₁.heap vals args → (∀ a ∈ as, (a == sysModules) = false) →
      codeN (model r.prog w) callerA (.call (.ref a) ⟨vals, []⟩) (GoodWG r.claim (classAt s₀.heap) (ExcName.means s₀.heap) args s₁) s₁

theorem holdsN {r : OpenRow} {q : Program} {loose : List Str} {Xt : Shared → Bool} {XP : (Str → Option Value) → Heap → Prop} {α : Type} {Yf : Shared → α} {Ya : World → α} {YP : World → Heap → Prop} {d : DefRec} {kwd : List (Str × Expr)} {N : Nat}
    (left : LeftO r.prog q loose Xt Yf Ya N) (hY : ∀ w s, Yf s = Ya w → YP w s.heap) (hYk : ∀ w h h', YP w h → (∀ b o, h.get? b = some o → h'.get? b = some o) → YP w h')
    (hX : ∀ s, Xt s = true → XP (s.heap.nsMap mainGlobals) s.heap) (hXk : ∀ mg h h', XP mg h → (∀ b o, h.get? b = some o → h'.get? b = some o) → XP mg h')
    (hdef : defOf q r.name = some (d, kwd)) (hp : r.prog.theDef r.name = some (d.params, d.body, d.scope)) (hk : kwWritten? d.params.kwonlyargs d.params.kw_defaults = some kwd) (hRf : ∀ s, Xt s = true → RecFacts r.records s.heap) (hwr : (!r.writes || r.records.isEmpty) = true)
    (k1 : r.wellSaid = true) (ok : (chainsOk q && opensWell r.prog && (frees r.toRowW && r.within.isEmpty)) = true) (hb : r.prog.bare) (hw : r.toRowW.promised)
    (triv : ∀ cl mean args s, s.gens = #[] → GoodWG r.claim cl mean args s (.ok (.ret (.bool true))) s)
    (call : WalkNL q loose XP YP r.toRowW d kwd) : r.Holds := by
  refine ⟨k1, hw, open_fenced (alt := fun _ => ret (.bool true)) (tree := fun vs => do match ← nsGet mainNs r.name with
      | some f => do ret (← PySem.call f vs)
      | none => unsupported "claim.caller:no-such-global") ?_⟩
  refine open_anyG (r := r.toRowW) (run := fun f vs => stack >>= fun st => if okSt st = true then PySem.call f vs else pure (.bool true))
    (tree := fun vs => fenced (do match ← nsGet mainNs r.name with
      | some f => do ret (← PySem.call f vs)
      | none => unsupported "claim.caller:no-such-global") (ret (.bool true))) left hY hYk hX hXk hRf hwr ok hb hw
    (fun vs w s mg f Q E hg hf h => ?_)
    (fun w s hg G n hn => ?_) fun w s₀ s₁ mg mb G Y args vs as hpre hlay L low => ?_
  · intro Γ p hΓ
    have h0 := h Γ p hΓ
    unfold fenced
    rw [Sem.wp_bind'] at h0 ⊢
    change Sem.wp _ Γ (if okSt ((Γ.code, p) :: Γ.below) = true then _ else _) _ _ p s at h0
    show Sem.wp _ Γ (if okSt ((Γ.code, p) :: Γ.below) = true then _ else _) _ _ p s
    by_cases hk : okSt ((Γ.code, p) :: Γ.below) = true
    · rw [if_pos hk] at h0 ⊢
      rw [Sem.wp_bind']
      show Sem.wp (model r.prog w) Γ (nsGet mainGlobals r.name) _ _ p s
      rw [Sem.wp_nsGet (model r.prog w) Γ _ p s hg, hf]
      show Sem.wp _ Γ (PySem.call f vs >>= fun v => ret v) _ _ p s
      rw [Sem.wp_bind']
      exact Sem.wp_mono _ Γ _ (fun _ _ _ x => x) (fun _ _ _ x => x) p s h0
    · rw [if_neg hk] at h0 ⊢
      exact h0
  · obtain rfl : n = r.name := by split at hn <;> simp_all
    exact pinned_of_view hg G hdef hp hk
  · obtain ⟨a, o, pm, cd, doc, dV, kV, h1, h2, h3, h4, h5⟩ := G.fn hdef
    refine ⟨.ref a, h1, fun Γ p hΓ => ?_⟩
    rw [Sem.wp_bind']
    show Sem.wp _ Γ (if okSt ((Γ.code, p) :: Γ.below) = true then _ else _) _ _ p s₁
    by_cases hk : okSt ((Γ.code, p) :: Γ.below) = true
    · rw [if_pos hk]
      have hk' := List.all_eq_true.mp hk
      refine wpN_call (codeN_mono (call w s₀ s₁ mg mb G Y a o pm cd doc dV kV h2 h3 h4 h5 (defOf_name hdef ▸ h1) L.gens args vs as hpre hlay L.reads L.well (L.low low)) ?_) Γ p hΓ ⟨hk' _ (.head _), fun x hx => hk' x (.tail _ hx)⟩
      intro res s' g
      rcases g.1 with ⟨v, _, _, rfl, _⟩ | ⟨e, _, _, rfl, _⟩ <;> exact g
    · rw [if_neg hk]
      exact triv _ _ _ _ L.gens
end
section -- ZHd2
theorem offZHd2 : True := by
  w_top off
  trivial
set_option maxRecDepth 100000
set_option maxHeartbeats 8000000
noncomputable abbrev theRow : RowW := OpenRow.toRowW (OpenLaw.row PySem.Challenge.rw_zo0025_01)
noncomputable abbrev theHook : Hook := kmHook hd.heap_39 [2, 3, 6, 11, 12, 35, 36, 37, 39, 40, 42, 43, 44, 46, 47, 49, 50, 51, 53, 54, 56, 57, 58, 60, 61, 63, 64, 65, 67, 68,
      70, 71, 72, 74, 75, 77, 78, 79, 81, 82, 84, 85, 86, 88, 89, 91, 92, 93, 95, 96, 98, 99, 100, 102, 103, 105, 106,
      107, 109, 110, 112, 113, 114, 116, 117, 119, 120, 121, 124, 125] (fun _ => by kernel_rfl) [73, 66]
theorem hdLeft : LeftO theRow.prog hd.view_39 [Str.ofString "IPV4_RE"] (fun s => xlAt hd.view_39 [] s && recOk (RowW.records theRow) s) (Hook.obs theHook) (Hook.val theHook) 1696 :=
  fun w => by kernel_rfl
theorem hdTriv : ∀ cl mean args s, s.gens = #[] → GoodWG theRow.claim cl mean args s (.ok (.ret (.bool true))) s := by
  intro cl mean args s hg
  refine GoodW.toG ⟨.inl ⟨.bool true, .bool true, [], rfl, fun _ => rfl, ?_, ?_, fun _ => ⟨List.nodup_nil, fun a ha => nomatch ha⟩⟩, fun _ _ e => e, rfl, hg⟩
  · constructor
  · refine postW_of (X := true) rfl ?_ rfl
    show WTm.value _ (.eq .res (.lit (.bool true))) _ = _
    wtm_val
theorem hdN {d : DefRec} {kwd : List (Str × Expr)} (hdef : defOf hd.view_39 theRow.name = some (d, kwd)) (hp : theRow.prog.theDef theRow.name = some (d.params, d.body, d.scope)) (hk : kwWritten? d.params.kwonlyargs d.params.kw_defaults = some kwd)
    (call : WalkNL hd.view_39 [Str.ofString "IPV4_RE"] (XL hd.view_39 []) (Hook.says theHook) theRow d kwd) : PySem.Challenge.rw_zo0025_01.Holds := by
  w_on
  o_law
  refine holdsN (q := hd.view_39) (loose := [Str.ofString "IPV4_RE"]) (Xt := fun s => xlAt hd.view_39 [] s && recOk (RowW.records theRow) s) (XP := XL hd.view_39 []) (Yf := Hook.obs theHook) (Ya := Hook.val theHook) (YP := Hook.says theHook) (N := 1696) hdLeft (Hook.of theHook) (Hook.keeps theHook) (fun s e => xl_of s (Bool.and_eq_true_iff.mp e).1) XL.keeps hdef hp hk (fun s e => recFacts_of (Bool.and_eq_true_iff.mp e).2) (by rfl) (by first | assumption | decide +kernel) (by decide +kernel) ⟨rfl, rfl, rfl, rfl, rfl, by decide +kernel⟩ ?hw hdTriv call
  case hw => w_witness2
end
section -- ZEnt
theorem offZEnt : True := by
  w_top off
  trivial
set_option maxRecDepth 100000
set_option maxHeartbeats 8000000
/-- what a call of a def whose cells are its own reaches, under stacks with no lender -/
theorem enterN {prog : Program} {w : World} {A : Around} {R : Result → Shared → Prop} {s : Shared} {name : Str} {params : Arguments} {body : List Stmt} {scope : Scope}
    {pm cd doc : Value} {a : Addr} {o : Obj} {args : List Value} {binds : List (Str × Value)}
    (hroom : A.depth < recursionLimit) (ho : s.heap.get? a = some o) (hdata : o.data = .func (docDef name params body scope pm cd doc)) (hlim : s.heap.NoLimit) (hcd : s.heap.CodeRec cd name)
    (hbind : bindArgs (docDef name params body scope pm cd doc) ⟨args, []⟩ = pure binds)
    (hkind : ∀ x ∈ binds, scope.names.lookup x.1 = some .local ∨ (scope.names.lookup x.1 = some .cell ∧ ((cellsFrom (s.heap.objs.size + 1) scope.names []).lookup x.1).isSome = true))
    (hnd : ((cellsFrom 0 scope.names []).map (·.1)).Nodup)
    (hco : scope.isCoroutine = false) (hgen : scope.isGenerator = false) (hk : scope.kind = .function)
    (h : ∀ h₁ tk cells, Fr s.heap s.heap.objs.size h₁ (bindL (envOfC name scope s.heap.objs.size a cd).kindOf binds fun _ => none) → News s.heap s.heap.objs.size h₁ cells →
      CellsAre (bindC (envOfC name scope s.heap.objs.size a cd).kindOf binds fun _ => none) (cellsFrom (s.heap.objs.size + 1) scope.names []) cells →
      wpN (model prog w) (A.deeper (envOfC name scope s.heap.objs.size a cd)) (execs body (envOfC name scope s.heap.objs.size a cd))
        (fun f s' => R (.ok (.ret (match f with | .ret v => v | _ => .none))) s') (fun _ _ => False) { s with heap := h₁, toks := tk }) :
    codeN (model prog w) A (.call (.ref a) ⟨args, []⟩) R s := by
  refine codeN_callFn hroom ho hdata hco hgen rfl hcd ?_
  rw [hbind]
  refine wpAny_pure (wpAny_newFunctionEnv_cells hk hkind fun env' he s' x => ?_)
  subst he
  refine ⟨hlim.keeps x.toInCall.keep, codeN_func ?_⟩
  obtain ⟨h₁, tk, rfl, _⟩ := x.done
  obtain ⟨cells, NC, Y⟩ := Cl.news (h₀ := s.heap) (Nat.le_refl _) fun n c hm => ⟨x.cell n c (lookup_of_mem_nodup (cellsFrom_names scope.names 0 (s.heap.objs.size + 1) [] [] rfl ▸ hnd) hm), x.above n c hm⟩
  exact h h₁ tk cells ⟨x.toInCall.ns, x.toInCall.keep, x.toInCall.fresh⟩ NC Y
def endTree : Result → Sem Fin
  | .ok f => pure (Fin.done f)
  | .error e => throw e
/-- the library's step from the hidden tables to the shown ones, at one end -/
theorem ghost_end (w : World) {s' s₁ : Shared} {cw : ClaimW} {cl : Str → Option Addr} {mean : ExcName → Option Value} {args : List WData} {tabs : List (Addr × Addr)} {r : Result} (hT : TabsAt tabs s₁.heap) (hr : ∀ a x, cw.raises a x = false)
    (h : GoodW cw cl mean args { s₁ with heap := ghostOf s₁.heap tabs } r s' ∧ GrownAll tabs s'.heap) : GoodWG cw cl mean args s₁ r s' := by
  let c₀ : Code := .builtin "claim.caller" {}
  let M : Model := ⟨fun _ => endTree r, default, w⟩
  have k : codeAny M { depth := 400 } c₀ (fun r' s'' => r' = r ∧ s'' = s') s' := by
    refine codeAny_of_tree ?_
    show wpAny M _ (endTree r) _ _ _
    cases r with
    | ok f => exact wpAny_pure ⟨rfl, rfl⟩
    | error e => exact wpAny_throw ⟨rfl, rfl⟩
  have q := kn_post (cl := cl) (mean := mean) (args := args) hT hr (codeAny_mono k (fun r' s'' e => by obtain ⟨rfl, rfl⟩ := e; exact h))
  have q2 := q ⟨c₀, none, none, [], none⟩ default rfl ⟨rfl, Nat.zero_le _, (fun _ e => by cases e), (fun _ e => by cases e), Nat.zero_le _⟩
  rw [wpCode_iff_wp] at q2
  change Sem.wp M _ (endTree r) _ _ _ _ at q2
  cases r with
  | ok f => exact q2
  | error e => exact q2
end
section -- ZBa
theorem offZBa : True := by
  w_top off
  trivial
open PySem.Spec
set_option maxRecDepth 100000
set_option maxHeartbeats 4000000
theorem ba_mro : mroOf (.type "bytearray") = pure [.type "bytearray", .type "object"] := by rw [mroOf_type]; kernel_rfl
theorem ba_lookup_new : typeLookup (.type "bytearray") "__new__" = pure (some (.builtin "bytearray.__new__")) := by rw [typeLookup_type, builtinLookup_eq_fast]; kernel_rfl
theorem ba_slot_init : Slot "bytearray" "__init__" "bytearray.__init__" :=
  .of (owner := "bytearray") (n := "__init__") (by rw [typeLookup_type, builtinLookup_eq_fast]; kernel_rfl) (by decide +kernel) (by decide +kernel) (by decide +kernel)
    (by first | exact .inl (by decide +kernel) | exact .inr (by decide +kernel)) (by rw [isSubtype_type]; kernel_rfl)
theorem ba_called : TypeCalled "bytearray" "bytearray.__new__" "bytearray.__init__" :=
  ⟨by decide +kernel, by decide +kernel, ⟨_, _, ba_mro⟩, madeBy_type ba_mro ba_lookup_new (by decide +kernel), by decide +kernel, by rw [isSubtype_type]; kernel_rfl, ba_slot_init⟩
theorem ba_typeCall (a : Value) : checkTypeCall "bytearray" ⟨[a], []⟩ = pure () := by kernel_rfl
theorem ba_newCall (a : Value) : checkBuiltinCall "bytearray.__new__" ⟨[.type "bytearray", a], []⟩ = pure () := by kernel_rfl
theorem ba_plain_new : plainId "bytearray.__new__" = true := by decide +kernel
theorem ba_entry_new : entryFor table "bytearray.__new__" = some Builtin.«list.__new__» :=
  entryFor_alias (id' := "list.__new__") (by kernel_rfl) (by first | rfl | decide +kernel | (unfold String.splitOn; simp +decide [String.splitOnAux])) (by decide +kernel) (by kernel_rfl)
theorem ba_entry_init : entryFor table "bytearray.__init__" = some Builtin.«bytearray.__init__» := by first | exact entryFor_of_fast (by kernel_rfl) | exact entryFor_of_tree (by kernel_rfl)
set_option maxRecDepth 1000000 in
theorem ba_owner : ("bytearray.__new__".splitOn ".__new__").headD "" = "bytearray" := by simp +decide [String.splitOn, String.splitOnAux]
theorem ba_sub : isSubtype (.type "bytearray") (.type "bytearray") = pure true := by rw [isSubtype_type]; kernel_rfl
theorem ba_args_init (a b : Value) : argsOk "bytearray.__init__" ⟨[a, b], []⟩ := by unfold argsOk; kernel_rfl
theorem ba_bind (v : Value) : Builtin.Bytes.bindOptional "bytearray.__init__" "bytearray" ["source", "encoding", "errors"] [v] [] = pure [some v, none, none] := by kernel_rfl
theorem ba_release : typeLookup (.type "bytearray") "__release_buffer__" = pure (some (.builtin "bytearray.__release_buffer__")) := by rw [typeLookup_type, builtinLookup_eq_fast]; kernel_rfl

section
variable {prog : Program} {w : World} {A : Around} {E : Value → Shared → Prop} {s : Shared}
abbrev baObj (b : Array UInt8) : Obj := { cls := .type "bytearray", data := .bytearray b }
theorem ba_new (a : Value) {Q₁ : Value → Shared → Prop} (h : Q₁ (.ref s.heap.objs.size) { s with heap := s.heap.push (baObj #[]) }) :
    codeAny (model prog w) A (.call (.builtin "bytearray.__new__") ⟨[.type "bytearray", a], []⟩) (wants Q₁ E) s := by
  refine codeAny_of_tree ?_
  show wpAny _ A.in1 (do checkBuiltinCall "bytearray.__new__" ⟨[.type "bytearray", a], []⟩; again (.builtin "bytearray.__new__" ⟨[.type "bytearray", a], []⟩)) _ _ s
  refine wpAny_bind (wpAny_of_eq (ba_newCall a) (wpAny_pure ⟨plainId_quiet ba_plain_new _, codeAny_builtin_stack ba_entry_new rfl fun p st => ?_⟩))
  rw [Around.under_plainId ba_plain_new _]
  have hsub := ba_sub
  have hown := ba_owner
  obtain ⟨hp, g, d, tk, os⟩ := s
  simp only [hown]
  wp_walk
  exact h
end
end
section -- ZBn
theorem offZBn : True := by
  w_top off
  trivial
set_option maxRecDepth 100000
set_option maxHeartbeats 4000000
section
variable {prog : Program} {w : World} {A : Around} {E : Value → Shared → Prop} {s : Shared}
theorem codeN_builtin {R : Result → Shared → Prop} {id : String} {args : Args} {b : Builtin} (hok : okC (.builtin id args) = true) (hb : entryFor table id = some b)
    (h : wpN (model prog w) (A.under (.builtin id args)) (b args)
      (fun fin s' => match fin with | .done f => R (.ok f) s' | .again c' => c'.quiet = true ∧ codeN (model prog w) A c' R s') (fun e s' => R (.error e) s') s) :
    codeN (model prog w) A (.builtin id args) R s := by
  refine codeN_of_tree hok ?_
  show wpN _ _ (match entryFor table id with | some b => b args | none => unsupported ((withoutEnding? id "#data").getD id)) _ _ s
  rw [hb]; exact h
theorem wpN_ok {Q : Bool → Shared → Prop} {f : Code × Pos → Bool} (hf : ∀ x, okC x.1 = true → f x = false) (h : Q false s) :
    wpN (model prog w) A (do return (← stack).any f) Q E s := by
  refine wpN_bind (wpN_stack fun st hst => wpN_pure ?_)
  have : st.any f = false := by
    rw [List.any_eq_false]
    exact fun x hx => by rw [hf x (hst x hx)]; exact Bool.false_ne_true
  rw [this]; exact h
theorem exportedN {self : Value} {Q : Bool → Shared → Prop} (h : Q false s) : wpN (model prog w) A (Builtin.Bytes.exported self) Q E s := by
  unfold Builtin.Bytes.exported
  refine wpN_ok (fun x hx => ?_) h
  obtain ⟨c, p⟩ := x
  cases c <;> try rfl
  rename_i id args
  obtain ⟨pos, kw⟩ := args
  simp only [okC, lenders, Bool.not_eq_true', List.contains_append, Bool.or_eq_false_iff] at hx
  obtain ⟨h1, h2⟩ := hx
  simp only [List.contains_cons, List.contains_nil, Bool.or_false, Bool.or_eq_false_iff, beq_eq_false_iff_ne, ne_eq] at h1
  split
  all_goals first | rfl | (simp_all; done) | skip
theorem ba_type {a : Addr} {o : Obj} (ha : s.heap.get? a = some o) (hc : o.cls = .type "bytearray") : s.TypeIs (.ref a) "bytearray" := by
  first | exact ⟨_, ha, hc⟩ | exact .ref ha hc | exact Or.inr ⟨_, _, rfl, ha, hc⟩
theorem ba_ownRelease {a : Addr} {o : Obj} {Q : Bool → Shared → Prop} (ha : s.heap.get? a = some o) (hc : o.cls = .type "bytearray") (h : Q false s) :
    wpAny (model prog w) A (Builtin.Bytes.ownRelease (.ref a)) Q E s := by
  unfold Builtin.Bytes.ownRelease Builtin.Bytes.slotIsOwn
  refine wpAny_bind (wpAny_bind (wpAny_specialOf (ba_type ha hc) ba_release ?_))
  have h1 : ("bytearray.__release_buffer__" : String).endsWith ("." ++ "__release_buffer__") = true := by decide +kernel
  have h2 : ("bytearray.__release_buffer__" : String).dropRight ("__release_buffer__".length + 1) = "bytearray" := by decide +kernel
  simp only [h1, h2, Bool.not_true, Bool.false_eq_true, if_false]
  exact wpAny_isInstance (ba_type ha hc) ba_sub (wpAny_pure h)
theorem ba_write {a : Addr} {b : Array UInt8} {f : Array UInt8 → Array UInt8} {Q : Unit → Shared → Prop} (ha : s.heap.get? a = some (baObj b)) (hn : (f b).size ≤ 1000)
    (h : ∀ h', Heap.SameBut a s.heap h' → h'.get? a = some (baObj (f b)) → Q () { s with heap := h' }) : wpAny (model prog w) A (Builtin.Bytes.write (.ref a) f) Q E s := by
  unfold Builtin.Bytes.write updateBytearray
  refine wpAny_bind (wpAny_load ha ?_)
  dsimp only [baObj]
  have hg : (s.heap.update a (Obj.mapBytearray f)).get? a = some (baObj (f b)) := by
    rw [Heap.get?_update_self _ ha rfl]; rfl
  refine wpAny_bind (wpAny_update ha ?_)
  refine wpAny_lookBehind hg ?_ (h _ (Heap.SameBut.update _ _ _) hg)
  have hl : ¬ (f b).size > sizeLine := by
    have : sizeLine ≥ 1000 := by decide +kernel
    omega
  simp [baObj, Data.pastItsLine, hl]
theorem ba_init (n : Nat) (t : Tok) {a : Addr} {Q : Fin → Shared → Prop} (hn : n ≤ 1000) (ha : s.heap.get? a = some (baObj #[]))
    (h : ∀ h', Heap.SameBut a s.heap h' → h'.get? a = some (baObj (Array.replicate n 0)) → Q (.done (.ret .none)) { s with heap := h' }) :
    wpN (model prog w) A (Builtin.«bytearray.__init__» ⟨[.ref a, .int n t], []⟩) Q E s := by
  have h1 := ba_bind (.int n t)
  have h2 := ba_release
  unfold Builtin.«bytearray.__init__»
  dsimp only
  simp only [h1, Builtin.Bytes.checkCodecArg]
  refine wpN_bindA (ba_ownRelease ha rfl ?_)
  simp only [Bool.false_eq_true, if_false]
  refine wpN_bindA (wpAny_pure ?_)
  dsimp only
  refine wpN_bindA (wpAny_pure (wpN_bindA (wpAny_pure (wpN_bind ?_))))
  unfold orM
  refine wpN_bind (exportedN (wpN_of ?_))
  dsimp only [toBool, bool]
  unfold Builtin.Bytes.exportsOf
  refine wpAny_bind (wpAny_bind (wpAny_load ha ?_))
  dsimp only [baObj]
  refine wpAny_pure (wpAny_pure ?_)
  rw [if_neg (by decide)]
  refine wpN_of ?_
  unfold Builtin.Bytes.write updateBytearray
  have hi : asStr? (.int n t) = pure none := rfl
  have hs : specialOf (.int n t) (Str.ofString "__index__") = pure (some (.builtin "int.__index__")) := by
    kernel_rfl
  simp only [hi, hs, pure_bind]
  refine wpAny_bind (ba_write ha (Nat.zero_le _) fun h₁ s₁ g₁ => ?_)
  simp only [Option.isSome_none, Option.isSome_some, Bool.false_eq_true, if_false, if_true]
  have hx : (asIndex (.int n t)).attempt = pure (.ok (n : Int)) := by kernel_rfl
  rw [hx]
  simp only [pure_bind]
  have q1 : Builtin.Bytes.fitsIndex (n : Int) = true := by
    have : (2 : Int) ^ 63 = 9223372036854775808 := by decide +kernel
    simp [Builtin.Bytes.fitsIndex, this]
    omega
  have q2 : ¬ ((n : Int) < 0) := by omega
  have q3 : ((n : Int) == 2 ^ 63 - 1) = false := by
    have : (2 : Int) ^ 63 - 1 = 9223372036854775807 := by decide +kernel
    rw [this, beq_eq_false_iff_ne]
    omega
  have q4 : Builtin.Bytes.tooLong (n : Int).toNat = false := by
    have : sizeLine ≥ 1000 := by decide +kernel
    simp only [Builtin.Bytes.tooLong, Builtin.Str.tooLong, Int.toNat_natCast, decide_eq_false_iff_not]
    omega
  simp only [q1, q2, q3, q4, Bool.not_true, Bool.false_eq_true, if_false, Int.toNat_natCast]
  rw [Int.toNat_natCast] at q4
  simp only [q4, Bool.false_eq_true, if_false]
  refine wpAny_bind (wpAny_rule ?_)
  by_cases hz : n = 0
  · subst hz
    rw [if_neg (by decide)]
    exact wpAny_pure (h _ s₁ g₁)
  · rw [if_pos (by omega)]
    refine wpAny_bind (ba_write g₁ (by simpa using hn) fun h₂ s₂ g₂ => ?_)
    exact wpAny_pure (h _ (s₁.trans s₂) g₂)
theorem wpN_bytearray (n : Nat) (t : Tok) {Q : Value → Shared → Prop} (hn : n ≤ 1000)
    (h : ∀ h', h'.objs.size = s.heap.objs.size + 1 → (∀ b, b ≠ s.heap.objs.size → h'.get? b = s.heap.get? b) → h'.get? s.heap.objs.size = some (baObj (Array.replicate n 0)) → Q (.ref s.heap.objs.size) { s with heap := h' }) :
    wpN (model prog w) A (call (.type "bytearray") [.int n t]) Q E s := by
  refine wpN_call (codeN_of_tree rfl ?_)
  show wpN _ _ (callAny (.type "bytearray") _) _ _ _
  refine wpN_pure ⟨Code.quiet_builtin _ (by decide +kernel), codeN_builtin rfl F.entry_type_call ?_⟩
  rw [Around.under_plain (weight_type_call_type "bytearray" [.int n t] []) rfl]
  have e1 := ba_typeCall (.int n t)
  have e2 := ba_mro
  have e3 := ba_called.made
  have e4 := ba_called.canCreate
  have e5 := ba_called.notType
  unfold Builtin.«type.__call__»
  simp only [e5, e1, e2, e3, Bool.false_eq_true, if_false, pure_bind]
  rw [if_neg (fun q => Bool.noConfusion (e4.symm.trans q)), if_neg (show ¬ ([Value.type "bytearray", Value.type "object"].isEmpty = true) by decide)]
  refine wpN_bindA (wpAny_holding (wpAny_call (codeAny_mono (ba_new (E := E) (Q₁ := fun v s' => v = .ref s.heap.objs.size ∧ s' = { s with heap := s.heap.push (baObj #[]) }) (.int n t) ⟨rfl, rfl⟩) fun r s' hr => ?_)))
  cases r with
  | error e => exact hr
  | ok fl =>
    cases fl with
    | ret obj =>
      obtain ⟨rfl, rfl⟩ := hr
      dsimp only
      have ha : (s.heap.push (baObj #[])).get? s.heap.objs.size = some (baObj #[]) := Heap.get?_push_size _ rfl
      refine wpN_bindA (wpAny_isInstance (ba_type ha rfl) ba_sub ?_)
      simp only [Bool.not_true, Bool.false_eq_true, if_false]
      refine wpN_bind (wpN_holding ?_)
      unfold callSpecial?
      refine wpN_bindA (wpAny_specialOf (ba_type ha rfl) ba_slot_init.lookup ?_)
      dsimp only
      refine wpN_holding (wpN_bindA (wpAny_of_eq (ba_slot_init.bind _) ?_))
      dsimp only
      refine wpN_bind (wpN_call (codeN_of_tree rfl ?_))
      show wpN _ _ (do checkBuiltinCall "bytearray.__init__" ⟨[.ref s.heap.objs.size, .int n t], []⟩; again (.builtin "bytearray.__init__" ⟨[.ref s.heap.objs.size, .int n t], []⟩)) _ _ _
      refine wpN_bindA (ba_slot_init.check _ _ _ _ _ _ _ _ (ba_type ha rfl) (ba_args_init _ _) ?_)
      refine wpN_pure ⟨plainId_quiet ba_slot_init.plain _, codeN_builtin (by show (!lenders.contains "bytearray.__init__") = true; decide +kernel) ba_entry_init ?_⟩
      refine ba_init n t hn ha fun h' hs hg => ?_
      refine wpN_pure ?_
      dsimp only
      rw [if_neg (by decide)]
      refine wpN_pure (h h' ?_ ?_ hg)
      · rw [hs.1]; simp [Heap.push]
      · intro b hb
        rw [hs.2 b hb]
        exact Heap.get?_push_ne _ _ _ hb
    | _ => exact hr.elim
end
end
section -- ZBs
theorem offZBs : True := by
  w_top off
  trivial
set_option maxRecDepth 100000
set_option maxHeartbeats 4000000
theorem ba_slot_set : Slot "bytearray" "__setitem__" "bytearray.__setitem__" :=
  .of (owner := "bytearray") (n := "__setitem__") (by rw [typeLookup_type, builtinLookup_eq_fast]; kernel_rfl) (by decide +kernel) (by decide +kernel) (by decide +kernel)
    (by first | exact .inl (by decide +kernel) | exact .inr (by decide +kernel)) (by rw [isSubtype_type]; kernel_rfl)
theorem ba_entry_set : entryFor table "bytearray.__setitem__" = some Builtin.«bytearray.__setitem__» := by first | exact entryFor_of_fast (by kernel_rfl) | exact entryFor_of_tree (by kernel_rfl)
theorem ba_args_set (a b c : Value) : argsOk "bytearray.__setitem__" ⟨[a, b, c], []⟩ := by unfold argsOk; kernel_rfl
theorem ba_no_bytes : typeLookup (.type "bytearray") "__bytes__" = pure none := by rw [typeLookup_type, builtinLookup_eq_fast]; kernel_rfl
theorem ba_no_index : typeLookup (.type "bytearray") "__index__" = pure none := by rw [typeLookup_type, builtinLookup_eq_fast]; kernel_rfl
theorem ba_buffer : typeLookup (.type "bytearray") "__buffer__" = pure (some (.builtin "bytearray.__buffer__")) := by rw [typeLookup_type, builtinLookup_eq_fast]; kernel_rfl
section
variable {prog : Program} {w : World} {A : Around} {E : Value → Shared → Prop} {s : Shared}
theorem line_1000 : 1000 ≤ sizeLine := by decide +kernel
theorem ba_payload {a : Addr} {b : Array UInt8} {Q : Array UInt8 → Shared → Prop} (ha : s.heap.get? a = some (baObj b)) (h : Q b s) : wpAny (model prog w) A (Builtin.Bytes.payload (.ref a)) Q E s := by
  unfold Builtin.Bytes.payload Builtin.Bytes.payload?
  refine wpAny_bind (wpAny_bind (wpAny_load ha ?_))
  exact wpAny_pure (wpAny_pure h)
theorem fits_small {k : Int} (h0 : 0 ≤ k) (h1 : k < 1000) : Builtin.Bytes.fitsIndex k = true := by
  have h63 : (2 : Int) ^ 63 = 9223372036854775808 := by decide +kernel
  simp [Builtin.Bytes.fitsIndex, h63]
  omega
theorem ba_setItem {a : Addr} {b : Array UInt8} {k v : Int} {t t' : Tok} {Q : Unit → Shared → Prop} (ha : s.heap.get? a = some (baObj b)) (h0 : 0 ≤ k) (hk : k < b.size) (hb : b.size ≤ 1000) (v0 : 0 ≤ v) (v1 : v < 256)
    (h : ∀ h', Heap.SameBut a s.heap h' → h'.get? a = some (baObj (b.setIfInBounds k.toNat v.toNat.toUInt8)) → Q () { s with heap := h' }) :
    wpAny (model prog w) A (setItem (.ref a) (.int k t) (.int v t')) Q E s := by
  have hT : s.TypeIs (.ref a) "bytearray" := ba_type ha rfl
  unfold setItem
  refine wpAny_holding ?_
  refine wpAny_bind (wpAny_sequenceKey hT (by decide +kernel) ?_)
  refine wpAny_bind (wpAny_callSpecial?_slot (name := Str.ofString "__setitem__") hT ba_slot_set
    (wpAny_call_entry ba_slot_set hT ba_entry_set ?_ (ba_args_set _ _ _)))
  unfold Builtin.«bytearray.__setitem__»
  refine bm_if_false rfl ?_
  unfold Builtin.Bytes.subscript?
  have hs : specialOf (.int k t) (Str.ofString "__index__") = pure (some (.builtin "int.__index__")) := by kernel_rfl
  have hx : asIndex (.int k t) = pure k := by kernel_rfl
  have hy : Builtin.Bytes.byteValue (.int v t') = pure v.toNat.toUInt8 := by
    unfold Builtin.Bytes.byteValue
    have hv : asIndex (.int v t') = pure v := by kernel_rfl
    have hq : (decide (v < 0) || decide (v ≥ 256)) = false := by simp; omega
    rw [hv]
    simp only [pure_bind, hq, Bool.false_eq_true, if_false]
  have hf := fits_small h0 (by omega)
  have hi : seqIndex? k b.size = some k.toNat := by
    unfold seqIndex?
    have : ¬ k < 0 := by omega
    simp [this]
    omega
  dsimp only
  rw [hs, hx, hy]
  simp only [pure_bind, Option.isNone_some, Bool.false_eq_true, if_false, hf, Bool.not_true]
  refine wpAny_bind (ba_payload ha ?_)
  rw [hi]
  dsimp only
  refine wpAny_bind (ba_write ha (by simpa using hb) fun h' s' g' => ?_)
  exact wpAny_pure ⟨.none, rfl, wpAny_pure (h _ s' g')⟩
theorem ba_ownBuffer {a : Addr} {o : Obj} {Q : Bool → Shared → Prop} (ha : s.heap.get? a = some o) (hc : o.cls = .type "bytearray") (h : Q true s) :
    wpAny (model prog w) A (Builtin.Bytes.slotIsOwn (.ref a) "__buffer__") Q E s := by
  unfold Builtin.Bytes.slotIsOwn
  refine wpAny_bind (wpAny_specialOf (ba_type ha hc) ba_buffer ?_)
  have h1 : ("bytearray.__buffer__" : String).endsWith ("." ++ "__buffer__") = true := by decide +kernel
  have h2 : ("bytearray.__buffer__" : String).dropRight ("__buffer__".length + 1) = "bytearray" := by decide +kernel
  simp only [h1, h2, Bool.not_true, Bool.false_eq_true, if_false]
  exact wpAny_isInstance (ba_type ha hc) ba_sub h
theorem ba_bytes_new {a : Addr} {b : Array UInt8} {Q : Value → Shared → Prop} (ha : s.heap.get? a = some (baObj b)) (hb : b.size ≤ 1000) (h : Q (.bytes b s.toks) { s with toks := s.toks + 1 }) :
    codeAny (model prog w) A (.call (.builtin "bytes.__new__") ⟨[.type "bytes", .ref a], []⟩) (wants Q E) s := by
  refine codeAny_of_tree ?_
  show wpAny _ A.in1 (do checkBuiltinCall "bytes.__new__" ⟨[.type "bytes", .ref a], []⟩; again (.builtin "bytes.__new__" ⟨[.type "bytes", .ref a], []⟩)) _ _ s
  refine wpAny_bind (wpAny_of_eq (F.bm_newCall _) (wpAny_pure ⟨plainId_quiet F.bm_plain _, codeAny_builtin F.bm_entry ?_⟩))
  rw [Around.under_plainId F.bm_plain _]
  have hT : s.TypeIs (.ref a) "bytearray" := ba_type ha rfl
  unfold Builtin.«bytes.__new__»
  refine wpAny_bind (wpAny_of_eq (a := true) rfl ?_)
  refine bm_if_false rfl ?_
  refine wpAny_bind (wpAny_of_eq F.bm_sub ?_)
  refine bm_if_false rfl ?_
  refine wpAny_bind (wpAny_of_eq (F.bm_bind _) ?_)
  refine wpAny_bind (wpAny_of_eq (a := ()) rfl ?_)
  refine wpAny_bind (wpAny_of_eq (a := ()) rfl ?_)
  refine bm_if_false rfl ?_
  refine wpAny_bind (wpAny_specialOf hT ba_no_bytes ?_)
  refine wpAny_bind (wpAny_bind ?_)
  show wpAny _ _ (load a >>= _) _ _ _
  refine wpAny_bind (wpAny_load ha ?_)
  refine wpAny_pure (wpAny_pure ?_)
  refine bm_if_false rfl ?_
  refine wpAny_bind (wpAny_specialOf hT ba_no_index ?_)
  refine bm_if_true rfl ?_
  first
    | show wpAny _ _ (Builtin.Bytes.buffer? "bytes.__new__" (.ref a) true >>= _) _ _ _
    | (refine wpAny_bind ?_; show wpAny _ _ (Builtin.Bytes.buffer? "bytes.__new__" (.ref a) true >>= _) _ _ _)
  refine wpAny_bind ?_
  unfold Builtin.Bytes.buffer?
  refine wpAny_bind (wpAny_specialOf hT ba_buffer ?_)
  dsimp only
  refine wpAny_bind (ba_ownBuffer ha rfl ?_)
  refine bm_if_false rfl ?_
  refine wpAny_bind (wpAny_specialOf hT ba_buffer ?_)
  try dsimp only
  refine wpAny_bind (ba_ownRelease ha rfl ?_)
  refine bm_if_false rfl ?_
  refine wpAny_bind (ba_payload ha (wpAny_pure ?_))
  try dsimp only
  first
    | refine wpAny_bind (wpAny_rule (wpAny_bind (wpAny_mkBytes ?_ (Nat.le_trans hb line_1000))))
    | refine wpAny_bind (wpAny_bind (wpAny_rule (wpAny_bind (wpAny_mkBytes ?_ (Nat.le_trans hb line_1000)))))
  show wpAny _ _ (ret (.bytes b s.toks)) _ _ _
  exact wpAny_pure h
theorem call_bytes_ba {a : Addr} {b : Array UInt8} {Q : Value → Shared → Prop} (ha : s.heap.get? a = some (baObj b)) (hb : b.size ≤ 1000) (h : Q (.bytes b s.toks) { s with toks := s.toks + 1 }) :
    wpAny (model prog w) A (call (.type "bytes") [.ref a]) Q E s := by
  refine callType_codes (Q₁ := fun obj s₁ => s₁.TypeIs obj "bytes" ∧ Q obj s₁) F.bm_called (F.bm_typeCall _) F.entry_object_init
    (ba_bytes_new ha hb ⟨PySem.W.typeIs_bytes _ _ _, h⟩) fun obj s₁ h₁ => ?_
  exact ⟨h₁.1, F.args_object_init_2 obj _, object_init_meets F.bm_called.init.lookup F.bm_called.made (by decide) prog w A.in1 _ s₁ ⟨h₁.1, rfl, h₁.2⟩⟩
end
end
section -- ZCn
theorem offZCn : True := by
  w_top off
  trivial
set_option maxRecDepth 100000
/-- Con, under stacks with no lender -/
def ConN (w : World) (k : Nat) (f : Addr) (vs : List Value) (R : Value → Prop) : Prop :=
  ∀ (prog p : Program) (loose : List Str) (mean : ExcName → Option Value) (mg mb : Str → Option Value) (dp un : Nat) (cn : Str) (cs : Scope) (a : Addr) (ccd : Value) (cl : List (Str × Addr))
    (outer : List Env) (A₀ : Around) (base h₀ : Heap) (L : Addr) (m : Str → Option Value) (news : List (Addr × Obj)) (s : Shared) (Q E : Value → Shared → Prop),
    Below A₀ base outer h₀ → Fr h₀ L s.heap m → (hd.heap_39 w.params).In h₀ → News h₀ L s.heap news → Top p loose mean mg mb h₀ → cs.kind = .function →
    dp + k ≤ 900 → un + 10 * k ≤ 2000 →
    (∀ v h' tk', R v → Fr h₀ L h' m → News h₀ L h' news → Q v { s with heap := h', toks := tk' }) →
    wpN (model prog w) (ktrTop dp un (some []) cn cs L a ccd cl outer) (call (.ref f) vs) Q E s
theorem conN_of {w : World} {k : Nat} {f : Addr} {vs : List Value} {R : Value → Prop} {name qual : Str} {params : Arguments} {body : List Stmt} {scope : Scope} {dV kV doc pm cdv ct oc : Value} {an od : Option Addr} {osl : Array (Option Value)} {binds : List (Str × Value)}
    {mm : Str → Option Value}
    (ho : (hd.heap_39 w.params).lookup f = some ⟨oc, od, .func (fnOf name qual params body scope dV kV doc pm an cdv ct), osl⟩) (hcd : codeIn (hd.heap_39 w.params) cdv qual = true)
    (hbind : ∀ s, BindsTo s (fnOf name qual params body scope dV kV doc pm an cdv ct) ⟨vs, []⟩ binds) (hloc : ∀ y ∈ binds, scope.names.lookup y.1 = some .local)
    (hmm : ∀ y, binds.reverse.lookup y = mm y)
    (h : ∀ (prog p : Program) (loose : List Str) (mean : ExcName → Option Value) (mg mb : Str → Option Value) (dp un : Nat) (outer : List Env) (A₀ : Around) (base g : Heap) (L : Addr) (h₁ : Heap) (tk : Nat) (s : Shared),
      Below A₀ base outer g → Fr g L h₁ mm → (hd.heap_39 w.params).In g → Top p loose mean mg mb g → dp + k ≤ 901 → un + 10 * k ≤ 2003 →
      wpN (model prog w) (ktrTop dp un (some []) qual scope L f cdv [] outer) (execs body (envX qual scope L f cdv [])) (Ends g L s (fun v own => own = [] ∧ R v)) (fun _ _ => False) { s with heap := h₁, toks := tk })
    (hk0 : 0 < k) (hco : scope.isCoroutine = false) (hgen : scope.isGenerator = false) (hk : scope.kind = .function) (hcell : ∀ x ∈ scope.names, x.2 ≠ .cell) : ConN w k f vs R := by
  intro prog p loose mean mg mb dp un cn cs a ccd cl outer A₀ base h₀ L m news s Q E B F X N T hkc hdp hun ret
  refine wpN_call ?_
  obtain ⟨FG, BG, st, lv⟩ := groundX (A := ktrTop dp un (some []) cn cs L a ccd cl outer) (env := envX cn cs L a ccd cl) (R := fun r s' => match r with | .ok (.ret v) => Q v s' | .ok _ => False | .error e => E e s') B F (News.nil : News h₀ L s.heap []) rfl rfl hkc
  refine codeN_callFn (fd := fnX name qual params body scope [] dV kV doc pm an cdv ct) (body := body) (show dp < recursionLimit by unfold recursionLimit; omega) ((X.keeps F.keep) _ _ ho) rfl hco hgen rfl (codeRec_of (X.keeps F.keep) hcd) (hbind s _ _ _ _ ?_)
  refine wpAny_newFunctionEnv hcell hloc (fun h₁ hns hsb => ⟨(T.nolimit.keeps F.keep).fresh _ hsb, codeN_func ?_⟩) hk
  have hk₁ : ∀ b o, s.heap.get? b = some o → h₁.get? b = some o := fun b o e => hsb.extBut b o (Nat.ne_of_lt (Heap.lt_size e)) (Heap.get?_push_of_some _ e)
  have hg : hideAll s.heap (([] : List (Addr × Obj)).map (·.1)) = s.heap := rfl
  rw [hg] at FG BG st lv
  have F2 : Fr s.heap s.heap.objs.size h₁ mm := ⟨by
      have e : (fun y => binds.reverse.lookup y) = mm := funext hmm
      rw [← e]; exact hns, hk₁, Nat.le_refl _⟩
  have hh := h prog p loose mean mg mb (dp + 1) (un + 3) (envX cn cs L a ccd cl :: outer) _ base s.heap s.heap.objs.size h₁ (s.toks + binds.length) s BG F2 (X.keeps st) (T.keeps st) (by omega) (by omega)
  refine wpN_mono hh (fun fl s' he => ?_) (fun _ _ hf => hf)
  obtain ⟨m2, own, h2, tk2, rfl, ⟨rfl, hR⟩, Fe, Ne⟩ := he
  refine lv _ _ (leaveK_ Fe Ne fun _ _ => ?_)
  exact ret _ h2 tk2 hR (F.keeps Fe.keep) (fun p hp => ⟨Fe.keep _ _ (N p hp).1, (N p hp).2⟩)
end
section -- ZSt
theorem offZSt : True := by
  w_top off
  trivial
set_option maxRecDepth 100000
section
variable {M : Model} {A : Around} {E : Value → Shared → Prop} {s : Shared} {env : Env}
theorem consN {st : Stmt} {rest : List Stmt} {Q : Flow → Shared → Prop}
    (h : wpN M A (exec st env) (fun f s' => f = .next ∧ wpN M A (execs rest env) Q E s') E s) : wpN M A (execs (st :: rest) env) Q E s := by
  rw [execs_cons]
  refine wpN_bind (wpN_mono h (fun f s' h' => ?_) fun _ _ x => x)
  obtain ⟨rfl, h'⟩ := h'
  exact h'
/-- a statement walked by the library's own logic, the rest under stacks with no lender -/
theorem consA {st : Stmt} {rest : List Stmt} {Q : Flow → Shared → Prop}
    (h : wpAny M A (exec st env) (fun f s' => f = .next ∧ wpN M A (execs rest env) Q E s') E s) : wpN M A (execs (st :: rest) env) Q E s := consN (wpN_of h)
theorem assignN {x : Str} {pos' pos : Pos} {value : Expr} {Q : Flow → Shared → Prop}
    (h : wpN M A (eval value env) (fun v s₁ => wpAny M A (storeName env x v) (fun _ => Q .next) E s₁) E s)
    (hs : swapsWith value (some (.Name x pos')) pos.line env = pure false := by rfl) : wpN M A (exec (.Assign [.Name x pos'] value pos) env) Q E s := fun Γ p hΓ hn => by
  simp only [exec_Assign_Name env x pos' value pos hs, Sem.wp_bind', Sem.wp_cmd_standAt, Sem.wp_bindName, Sem.wp_pure']
  exact Sem.wp_mono M Γ _ (fun v _ s₁ h₁ => h₁ Γ _ hΓ) (fun _ _ _ h' => h') _ _ (h Γ _ hΓ hn)
theorem callN_ {func : Expr} {args : List Expr} {pos : Pos} {Q : Value → Shared → Prop}
    (h : wpAny M A (eval func env) (fun f s₁ => wpN M A (callWith pos f [] (backTo pos (starEach args env)) []) Q E s₁) E s)
    (he : eval (.Call func args [] pos) env = (do callWith pos (← eval func env) [] (backTo pos (starEach args env)) (backToKw pos (keywordEach [] env))) := by rfl) :
    wpN M A (eval (.Call func args [] pos) env) Q E s := by
  rw [he]; exact wpN_bindA h
theorem withTypeN {pos : Pos} {T : String} {first : List Value} {args : List (Bool × Sem Value)} {Q : Value → Shared → Prop} (hplain : args.any (·.1) = false)
    (h : wpAny M A (evalArgs (.type T) true args []) (fun a s₁ => wpN M A (call (.type T) (first ++ a.pos) a.kw) Q E s₁) E s) : wpN M A (callWith pos (.type T) first args []) Q E s := by
  unfold callWith
  refine wpN_bindA (wpAny_holding (wpAny_mono h (fun a s₁ h₁ => wpN_bindA (wpAny_standAt ?_)) fun _ _ x => x))
  simp only [hplain, List.any_nil, Bool.or_false]
  refine wpN_bindA (wpAny_pure ?_)
  exact wpN_bind (wpN_mono h₁ (fun r s₂ hr => wpN_of (wpAny_bind (wpAny_holding (wpAny_point (wpAny_pure hr))))) fun _ _ x => x)
theorem withTypeN1 {pos : Pos} {T : String} {e : Expr} {rest : List Expr} {Q : Value → Shared → Prop}
    (h : wpAny M A (spliced (backTo pos (starEach (e :: rest) env))) (fun vs s₁ => wpN M A (call (.type T) vs) Q E s₁) E s)
    (he : starEach (e :: rest) env = (false, eval e env) :: starEach rest env := by rfl)
    (hplain : (backTo pos (starEach rest env)).any (·.1) = false := by rfl) :
    wpN M A (callWith pos (.type T) [] (backTo pos (starEach (e :: rest) env)) []) Q E s := by
  rw [he] at h ⊢
  exact withTypeN (by show (false || (backTo pos (starEach rest env)).any (·.1)) = false; rw [hplain]; rfl) (evalArgs_plain h)
theorem wpN_keep {vs : List Value} {m : Sem Value} {Q : Value → Shared → Prop} (h : wpN M A m Q E s) : wpN M A (m.keep vs) Q E s :=
  fun Γ p hΓ hn => by rw [Sem.wp_keep]; exact h Γ p hΓ hn
theorem withKN {f : Value} {pos : Pos} {first : List Value} {P : Heap → Prop} {args : List (Bool × Sem Value)} {Q : Value → Shared → Prop} (hplain : (args.any (·.1) || false) = false)
    (hk : ∀ h, P h → ∃ k, (k = Keeper.frame ∨ k = Keeper.machine ∨ k = Keeper.boundFrame) ∧ Looks M h (keeperOf f) k)
    (h : wpAny M A (evalArgs f true args []) (fun a s₁ => P s₁.heap ∧ wpN M A (call f (first ++ a.pos) a.kw) Q E s₁) E s) : wpN M A (callWith pos f first args []) Q E s := by
  unfold callWith
  refine wpN_bindA (wpAny_holding (wpAny_mono h (fun a s₁ h₁ => wpN_bindA (wpAny_standAt ?_)) fun _ _ x => x))
  obtain ⟨k, hk', L⟩ := hk _ h₁.1
  have hp : (args.any (·.1) || ([] : List (Option Str × Sem Value)).any (·.1.isNone)) = false := hplain
  simp only [hp]
  refine wpN_bindA (L.here ?_)
  have tail : ∀ {t : Sem Value}, wpN M A t Q E s₁ → wpN M A (t >>= fun r => holding [r] point >>= fun _ => pure r) Q E s₁ :=
    fun ht => wpN_bind (wpN_mono ht (fun r s₂ hr => wpN_of (wpAny_bind (wpAny_holding (wpAny_point (wpAny_pure hr))))) fun _ _ x => x)
  have marked (mk : Value) : wpN M A (callMarked mk f (first ++ a.pos) a.kw) Q E s₁ := by unfold callMarked; exact wpN_keep h₁.2
  rcases hk' with rfl | rfl | rfl <;> dsimp only <;> first | exact tail h₁.2 | (split <;> first | exact tail h₁.2 | exact tail (marked _))
theorem withKN1 {K : Frag} {f : Value} {pos : Pos} {e : Expr} {rest : List Expr} {Q : Value → Shared → Prop} (hk : keepIn K f = true)
    (h : wpAny M A (spliced (backTo pos (starEach (e :: rest) env))) (fun vs s₁ => K.In s₁.heap ∧ wpN M A (call f vs) Q E s₁) E s)
    (he : starEach (e :: rest) env = (false, eval e env) :: starEach rest env := by rfl)
    (hplain : (backTo pos (starEach rest env)).any (·.1) = false := by rfl) :
    wpN M A (callWith pos f [] (backTo pos (starEach (e :: rest) env)) []) Q E s := by
  rw [he] at h ⊢
  exact withKN (by show ((false || (backTo pos (starEach rest env)).any (·.1)) || false) = false; rw [hplain]; rfl) (keeps_K hk) (evalArgs_plain h)
end
end
local macro_rules | `(tactic| walk_at "conN") => `(tactic| (
  k_dflt (refine' conN_of ?ho ?hcd ?hb ?hl ?hm ?h ?hk0 ?hco ?hgen ?hkk ?hcell; (case ho => k_is); (case hcd => k_is); (case hb => intro s; exact BindsTo.of_eq rfl); (case hl => exact locs rfl); (case hk0 => decide); (case hco => exact rfl); (case hgen => exact rfl); (case hkk => exact rfl); (case hcell => decide)) ))
local macro_rules | `(tactic| walk_at "goi") => `(tactic| repeat ((fail_if_success (with_reducible show wpAny _ _ (exec (Stmt.While _ _ _ _) _) _ _ _)); (fail_if_success (with_reducible show wpAny _ _ (exec (Stmt.For _ _ _ _ _) _) _ _ _)); (fail_if_success (with_reducible show wpAny _ _ (exec (Stmt.FunctionDef _ _ _ _ _ _ _ _ _ _) _) _ _ _)); (fail_if_success (with_reducible show wpAny _ _ (call (Value.ref _) _) _ _ _)); (fail_if_success (with_reducible show wpAny _ _ (pyIter _) _ _ _)); walk1; try dsimp only))
section -- ZSw
theorem offZSw : True := by
  w_top off
  trivial
set_option maxRecDepth 100000
set_option maxHeartbeats 4000000
def swPos (n x : Nat) : Nat := x / n * n + (n - 1 - x % n)
def swPart (d : Array UInt8) (n c : Nat) : Array UInt8 := Array.ofFn (n := d.size) fun x => if swPos n x.1 < c then d.getD (swPos n x.1) 0 else 0
def swp (d : Array UInt8) (n : Nat) : Array UInt8 := swPart d n d.size
theorem swPos_eq {n q p : Nat} (hp : p < n) : swPos n (n * q + p) = n * q + (n - 1 - p) := by
  unfold swPos
  rw [Nat.mul_add_div (by omega), Nat.mul_add_mod, Nat.div_eq_of_lt hp, Nat.mod_eq_of_lt hp, Nat.add_zero, Nat.mul_comm]
theorem swPos_swPos {n x : Nat} (hn : 0 < n) : swPos n (swPos n x) = x := by
  have hx : x = n * (x / n) + x % n := (Nat.div_add_mod x n).symm
  have hp : x % n < n := Nat.mod_lt _ hn
  have e : swPos n x = n * (x / n) + (n - 1 - x % n) := by unfold swPos; rw [Nat.mul_comm]
  rw [e, swPos_eq (by omega), show n - 1 - (n - 1 - x % n) = x % n by omega, ← hx]
theorem swPart_size {d : Array UInt8} {n c : Nat} : (swPart d n c).size = d.size := by simp [swPart]
theorem swPart_zero {d : Array UInt8} {n : Nat} : Array.replicate d.size 0 = swPart d n 0 := by
  apply Array.ext
  · simp [swPart]
  · intro i h1 h2
    simp [swPart]
theorem swPart_succ {d : Array UInt8} {n c : Nat} (hn : 0 < n) : (swPart d n c).setIfInBounds (swPos n c) (d.getD c 0) = swPart d n (c + 1) := by
  apply Array.ext
  · simp [swPart]
  · intro x h1 h2
    rw [Array.getElem_setIfInBounds (by simpa using h1)]
    simp only [swPart, Array.getElem_ofFn]
    by_cases hx : swPos n c = x
    · have : swPos n x = c := by rw [← hx, swPos_swPos hn]
      rw [if_pos hx, this, if_pos (Nat.lt_succ_self _)]
    · rw [if_neg hx]
      have : swPos n x ≠ c := fun e => hx (by rw [← e, swPos_swPos hn])
      by_cases hl : swPos n x < c
      · rw [if_pos hl, if_pos (by omega)]
      · rw [if_neg hl, if_neg (by omega)]
theorem ba_fresh {g h₁ h₂ : Heap} {L : Addr} {m : Str → Option Value} {o : Obj} (F : Fr g L h₁ m) (ho : ∀ b, b ≠ h₁.objs.size → h₂.get? b = h₁.get? b) (hg : h₂.get? h₁.objs.size = some o) :
    Fr g L h₂ m ∧ News g L h₂ [(h₁.objs.size, o)] := by
  have hk : ∀ b o, h₁.get? b = some o → h₂.get? b = some o := fun b o e => by rw [ho b (Nat.ne_of_lt (Heap.lt_size e))]; exact e
  refine ⟨F.keeps hk, fun p hp => ?_⟩
  rcases List.mem_singleton.mp hp with rfl
  obtain ⟨oL, es, ep, hL, _⟩ := F.ns
  refine ⟨hg, fun e => ?_, ?_⟩
  · have := Heap.lt_size hL
    rw [← (e : h₁.objs.size = L)] at this
    exact Nat.lt_irrefl _ this
  · cases e : g.get? h₁.objs.size with
    | none => rfl
    | some o' => exact absurd (Heap.lt_size (F.keep _ _ e)) (Nat.lt_irrefl _)
theorem ba_step {g h h' : Heap} {L a : Addr} {m : Str → Option Value} {o o' : Obj} {rest : List (Addr × Obj)} (F : Fr g L h m) (N : News g L h ((a, o) :: rest)) (h2 : ∀ p ∈ rest, p.1 ≠ a)
    (hs : Heap.SameBut a h h') (hg : h'.get? a = some o') : Fr g L h' m ∧ News g L h' ((a, o') :: rest) := by
  have hmem := N (a, o) (.head _)
  refine ⟨⟨F.ns.sameBut hs (Ne.symm hmem.2.1), fun b ob e => (hs.2 b (fun q => ?_)).trans (F.keep b ob e), F.above⟩, ?_⟩
  · rw [q, hmem.2.2] at e; cases e
  · exact News.setAt (own := []) N (fun _ h => nomatch h) h2 hs hg
section
variable {prog : Program} {w : World} {A : Around} {E : Value → Shared → Prop} {s : Shared} {env : Env} {h₀ : Heap} {x : Str} {body : List Stmt} {Q : Flow → Shared → Prop}
theorem iter_rangeJ {r : Addr} {a₀ b₀ c₀ : Int} {t₀ u₀ v₀ : Tok} {n : Nat} {m₀ : Str → Option Value} {news : List (Addr × Obj)} (J : Nat → (Str → Option Value) → List (Addr × Obj) → Prop)
    (hh : A.handled = none) (hr : IsRange s.heap r a₀ b₀ c₀ t₀ u₀ v₀) (hsmall : Builtin.Range.small a₀ b₀ c₀ = true) (hn : Builtin.Range.rangeSize a₀ b₀ c₀ = (n : Int)) (F : Fr h₀ env.locals s.heap m₀) (N : News h₀ env.locals s.heap news) (hj : J 0 m₀ news)
    (turn : ∀ (i : Nat) t m₁ nx h tk own, i < n → OwnOff own (news.map (·.1)) → J i m₁ nx → Fr h₀ env.locals h (fun y => if y = x then some (.int (a₀ + i * c₀) t) else m₁ y) → News h₀ env.locals h (nx ++ own) →
      wpAny (model prog w) A (execs body env) (InvPostN h₀ env.locals (J (i + 1)) own (news.map (·.1)) { s with heap := h, toks := tk } Q) E { s with heap := h, toks := tk })
    (done : ∀ m₁ nx h tk, J n m₁ nx → Fr h₀ env.locals h m₁ → News h₀ env.locals h nx → Q .next { s with heap := h, toks := tk }) :
    wpAny (model prog w) A (pyIter (.ref r)) (fun it s₂ => LoopAtV prog w A h₀ env x body Q E it s₂) E s := by
  refine wpAny_pyIter_range hr hsmall ?_
  have W : Walks prog w A s.heap.objs.size [s.heap.objs.size] [s.heap.objs.size] n (fun i v => i < n ∧ ∃ t, v = .int (a₀ + i * c₀) t)
      (fun i h => IsRangeIter h s.heap.objs.size (a₀ + (i : Nat) * c₀) ((n : Int) - (i : Nat)) c₀) := (Walks.range hh _ a₀ c₀ n).bound
  refine loop_invN J W ?_ ?_ ?_ ?_ (by show IsRangeIter _ _ _ _ _; rw [hn]; simpa using Heap.get?_push_size _ rfl) (F.push _) (fun p hp => ⟨Heap.get?_push_of_some _ (N p hp).1, (N p hp).2⟩) hj ?_ ?_
  · exact fun hm => absurd F.ns.lt ((List.mem_singleton.mp hm) ▸ Nat.lt_irrefl _)
  · exact fun b hb => by rw [List.mem_singleton.mp hb]; exact next_is_new F
  · exact fun p hp hI => absurd (Heap.lt_size (N p hp).1) ((List.mem_singleton.mp hI) ▸ Nat.lt_irrefl _)
  · exact fun p hp hI => absurd (Heap.lt_size (N p hp).1) ((List.mem_singleton.mp hI) ▸ Nat.lt_irrefl _)
  · rintro i v m₁ nx h tk own hi ⟨_, t, rfl⟩ _ ho hJ F' N'
    exact turn i t m₁ nx h tk own hi ho hJ F' N'
  · exact fun m₁ nx h tk hJ F₁ N₁ => done m₁ nx h tk hJ F₁ N₁
end
theorem fits_long {x : Int} (h0 : 0 ≤ x) (h1 : x ≤ 2000) : Builtin.Range.rangeFitsLong x = true := by
  have h63 : (2 : Int) ^ 63 = 9223372036854775808 := by decide +kernel
  simp [Builtin.Range.rangeFitsLong, h63]
  omega
theorem range_small {n c k : Nat} (h1 : n ≤ 900) (h2 : 0 < c) (h3 : c ≤ 900) (hs : Builtin.Range.rangeSize 0 (n : Int) (c : Int) = (k : Int)) (hk : k ≤ 900) : Builtin.Range.small 0 (n : Int) (c : Int) = true := by
  unfold Builtin.Range.small
  rw [hs, fits_long (by omega) (by omega), fits_long (by omega) (by omega), fits_long (by omega) (by omega), fits_long (by omega) (by omega), if_pos (by omega), fits_long (by omega) (by omega)]
  simp
theorem byteswap_con (w : World) (d : Array UInt8) (n k : Nat) (t t' : Tok) (hn : 0 < n) (hk : d.size = n * k) (hd : d.size ≤ 900) (hn2 : n ≤ 900) :
    ConN w 1 99 [.bytes d t, .int n t'] (fun v => ∃ t'', v = .bytes (swp d n) t'') := by
  walk_at "conN"
  case hm => exact fun y => (rfl : _ = List.lookup y [(Str.ofString "width", Value.int n t'), (Str.ofString "data", Value.bytes d t)])
  intro prog p loose mean mg mb dp un outer A₀ base g L h₁ tk s B F X T hd hu
  have N : News g L h₁ [] := News.nil
  refine consN (assignN (callN_ ?_))
  walk_at "go"
  refine withTypeN1 ?_
  walk_at "go"
  rename Fr _ _ _ _ => F0
  refine wpN_bytearray d.size _ (by omega) fun h2 hsz hoth hget => ?_
  obtain ⟨F2, N2⟩ := ba_fresh F0 hoth hget
  generalize h₁.objs.size = a at F2 N2
  clear hget hoth hsz F0 N
  dsimp only
  walk1
  dsimp only
  rename Fr _ _ _ _ => F3
  rename News _ _ _ _ => N3
  refine ⟨by trivial, ?_⟩
  refine consA ?_
  refine For_invVF F3 rfl rfl ?_ (by intro _; rfl) ?hE
  case hE => exact PassesOwn.never
  walk_at "go"
  rename Fr _ _ _ _ => F3
  rename News _ _ _ _ => N3
  rename IsRange _ _ _ _ _ _ _ _ => hr
  have hsz : Builtin.Range.rangeSize 0 (d.size : Int) n = (k : Int) := by
    have e : ((d.size : Nat) : Int) = (n : Int) * k := by rw [hk, Int.natCast_mul]
    unfold Builtin.Range.rangeSize
    rw [if_pos (by omega), e]
    by_cases hk0 : k = 0
    · subst hk0
      rw [if_neg (by simp)]
      rfl
    · have h1 : (n : Int) * k = (n : Int) * ((k : Int) - 1) + n := by
        rw [Int.mul_sub, Int.mul_one]; omega
      have h3 : 0 ≤ (n : Int) * ((k : Int) - 1) := Int.mul_nonneg (by omega) (by omega)
      rw [if_pos (by omega), h1, show (n : Int) * ((k : Int) - 1) + n - 0 - 1 = ((n : Int) - 1) + (n : Int) * ((k : Int) - 1) by omega, Int.add_mul_ediv_left _ _ (by omega), Int.ediv_eq_zero_of_lt (by omega) (by omega)]
      omega
  have hk9 : k ≤ 900 := by
    have : 1 * k ≤ n * k := Nat.mul_le_mul_right k hn
    omega
  refine iter_rangeJ (n := k) (J := fun i m nx => nx = [(a, baObj (swPart d n (n * i)))] ∧ m (Str.ofString "swapped_data") = some (.ref a) ∧ m (Str.ofString "data") = some (.bytes d t) ∧ m (Str.ofString "width") = some (.int n t')) rfl hr (range_small (by omega) (by omega) (by omega) hsz hk9) hsz F3 N3 ?j0 ?turn ?done
  case j0 =>
    refine ⟨?_, rfl, rfl, rfl⟩
    rw [Nat.mul_zero, ← swPart_zero]
  case done =>
    rintro m1 nx h5 tk5 ⟨rfl, e1, e2, e3⟩ F5 N5
    have F5' : Fr g L h5 m1 := F5
    have N5' : News g L h5 [(a, baObj (swPart d n (n * k)))] := N5
    have F6 := pinF (x := Str.ofString "swapped_data") F5' e1
    clear F5' F5 F3 N3 N5
    refine ⟨rfl, wpN_of ?_⟩
    walk_at "go"
    refine call_bytes_ba (N5' _ (.head _)).1 (by rw [swPart_size]; omega) ?_
    exact ⟨_, [], h5, _, rfl, ⟨rfl, _, by rw [swp, hk]⟩, F6, News.nil⟩
  case turn =>
    rintro i ti m1 nx h5 tk5 own hi ho ⟨rfl, e1, e2, e3⟩ F5 N5
    have F6 := pinF (x := Str.ofString "swapped_data") F5 (by rw [if_neg (by decide), e1])
    have F7 := pinF (x := Str.ofString "data") F6 (by rw [if_neg (by decide), if_neg (by decide), e2])
    have F8 := pinF (x := Str.ofString "width") F7 (by rw [if_neg (by decide), if_neg (by decide), if_neg (by decide), e3])
    clear F5 F6 F7 F3 N3
    have F9 : Fr g L h5 _ := F8
    have N9 : News g L h5 ((a, baObj (swPart d n (n * i))) :: own) := N5
    clear F8 N5
    walk_at "go"
    refine For_invVF F9 rfl rfl ?_ (by intro _; rfl) PassesOwn.never
    walk_at "goi"
    rename IsRange _ _ _ _ _ _ _ _ => hr2
    rename Fr _ _ _ _ => F10
    rename News _ _ _ _ => N10
    have hsz2 : Builtin.Range.rangeSize 0 (n : Int) 1 = (n : Int) := by
      unfold Builtin.Range.rangeSize
      rw [if_pos (by decide), if_pos (by omega), Int.ediv_one]
      omega
    refine iter_rangeJ (n := n) (J := fun j m nx => nx = (a, baObj (swPart d n (n * i + j))) :: own ∧ m (Str.ofString "swapped_data") = some (.ref a) ∧ m (Str.ofString "data") = some (.bytes d t) ∧ m (Str.ofString "width") = some (.int n t') ∧ m (Str.ofString "i") = some (.int (0 + (i : Int) * n) ti)) rfl hr2 (range_small (n := n) (c := 1) (by omega) (by omega) (by omega) hsz2 hn2) hsz2 F10 N10 ?j2 ?turn2 ?done2
    case j2 => exact ⟨rfl, rfl, rfl, rfl, rfl⟩
    case done2 =>
      rintro m2 nx h6 tk6 ⟨rfl, e1, e2, e3, e4⟩ F11 N11
      have F12 : Fr g L h6 _ := F11
      walk_at "go"
      refine ⟨h6, _, _, _, [(a, baObj (swPart d n (n * i + n)))], rfl, F12, N11, ?_, ?_, rfl, ?_, e1, e2, e3⟩
      · intro p hp
        exact List.mem_cons.mpr (.inl (List.mem_singleton.mp hp))
      · exact fun p hp => List.mem_cons_of_mem _ hp
      · rw [Nat.mul_succ]
    case turn2 =>
      rintro j tj m2 nx h6 tk6 own2 hj ho2 ⟨rfl, e1, e2, e3, e4⟩ F11 N11
      have F12 : Fr g L h6 _ := F11
      have F13 := pinF (x := Str.ofString "swapped_data") F12 (by rw [if_neg (by decide), e1])
      have F14 := pinF (x := Str.ofString "data") F13 (by rw [if_neg (by decide), if_neg (by decide), e2])
      have F15 := pinF (x := Str.ofString "width") F14 (by rw [if_neg (by decide), if_neg (by decide), if_neg (by decide), e3])
      have F16 := pinF (x := Str.ofString "i") F15 (by rw [if_neg (by decide), if_neg (by decide), if_neg (by decide), if_neg (by decide), e4])
      have N12 : News g L h6 ((a, baObj (swPart d n (n * i + j))) :: (own ++ own2)) := N11
      clear F11 F12 F13 F14 F15 N11 N10 F10
      walk_at "go"
      have hlt : n * i + j < d.size := by
        have h1 : n * (i + 1) ≤ n * k := Nat.mul_le_mul_left n hi
        rw [Nat.mul_succ] at h1
        omega
      have hidx : (0 + (i : Int) * n + (0 + (j : Int) * 1)) = ((n * i + j : Nat) : Int) := by
        rw [Int.natCast_add, Int.natCast_mul, Int.mul_comm]
        omega
      rw [hidx]
      refine KBw.item_K rfl (by rw [KBw.ints_length]; omega) (by omega) (by rw [KBw.ints_length]; omega) fun t3 k3 c0 c1 => ?_
      walk_at "go"
      have hidx2 : (0 + (i : Int) * n + n - 1 - (0 + (j : Int) * 1)) = ((swPos n (n * i + j) : Nat) : Int) := by
        rw [swPos_eq hj, Int.natCast_add, Int.natCast_mul, Int.mul_comm]
        omega
      rw [hidx2]
      have hp : swPos n (n * i + j) < d.size := by
        have h1 : n * (i + 1) ≤ n * k := Nat.mul_le_mul_left n hi
        rw [Nat.mul_succ] at h1
        rw [swPos_eq hj]
        omega
      have hv : ((KBw.bInts d).getD ((n * i + j : Nat) : Int).toNat 0).toNat.toUInt8 = d.getD (n * i + j) 0 := by
        rw [Int.toNat_natCast]
        show ((d.toList.map fun c => (c.toNat : Int)).getD (n * i + j) 0).toNat.toUInt8 = _
        rw [← KBw.getD_ints]
        simp
      refine ba_setItem (N12 _ (.head _)).1 (by omega) (by rw [swPart_size]; omega) (by rw [swPart_size]; omega) c0 c1 fun h7 hs7 hg7 => ?_
      have ho' : ∀ p ∈ own ++ own2, p.1 ≠ a := by
        intro p hp
        rcases List.mem_append.mp hp with hp | hp
        · exact ho p hp a (.head _)
        · exact ho2 p hp a (.head _)
      obtain ⟨F20, N20⟩ := ba_step F16 N12 ho' hs7 hg7
      rw [hv, Int.toNat_natCast, swPart_succ hn] at N20
      dsimp only
      walk_at "go"
      refine ⟨h7, _, _, _, (a, baObj (swPart d n (n * i + (j + 1)))) :: own, rfl, F20, N20, ?_, ?_, rfl, rfl, rfl, rfl, rfl, rfl⟩
      · intro p hp
        rcases List.mem_cons.mp hp with rfl | hp
        · exact .head _
        · exact .tail _ (List.mem_append_left _ hp)
      · exact fun p hp => .tail _ (List.mem_append_right _ hp)
end
section -- ZPl
theorem offZPl : True := by
  w_top off
  trivial
set_option maxRecDepth 100000
set_option maxHeartbeats 4000000
/-- what _law_plane hands back: a triple, the list of the points beside it -/
def IsPlane (o v : Int) (ps : List Int) (r : Value) (own : List (Addr × Obj)) : Prop :=
  ∃ D P t1 t2 n, ∃ vs : List Value, r = .ref D ∧ own = [(D, { cls := .type "tuple", data := .seq #[.int o t1, .int v t2, .ref P] 0 }), (P, W.listOf vs.toArray n)] ∧ IntsAre vs ps
theorem news_two {g h : Heap} {L : Addr} {news : List (Addr × Obj)} {p q : Addr × Obj} (N : News g L h news) (hp : p ∈ news) (hq : q ∈ news) : News g L h [p, q] := fun x hx => by
  rcases List.mem_cons.mp hx with rfl | hx
  · exact N _ hp
  · rcases List.mem_singleton.mp hx with rfl
    exact N _ hq
theorem plane_con0 (w : World) (h : Int) (t : Tok) (hm : h.fmod 4 = 0) : Con w 1 106 [.int h t] (fun _ => True) (IsPlane 3 13 [0, 1, 3, 9]) := by
  walk_at "con"
  case hm => exact fun y => (rfl : _ = List.lookup y [(Str.ofString "turn", Value.int h t)])
  case hP => exact fun _ _ _ h => h
  intro prog p loose mean mg mb dp un outer A₀ base g L h₁ tk s B F X T hd hu _
  have N : News g L h₁ [] := News.nil
  walk_at "go"
  rename News _ _ _ _ => N'
  rename Fr _ _ _ _ => F'
  exact ⟨_, _, _, _, rfl, ⟨_, _, _, _, _, [.int _ _, .int _ _, .int _ _, .int _ _], rfl, rfl, by repeat constructor⟩, F', news_two N' (List.mem_of_getElem? (i := 7) rfl) (List.mem_of_getElem? (i := 8) rfl)⟩
theorem plane_con1 (w : World) (h : Int) (t : Tok) (hm : h.fmod 4 = 1) : Con w 1 106 [.int h t] (fun _ => True) (IsPlane 2 7 [1, 2, 4]) := by
  walk_at "con"
  case hm => exact fun y => (rfl : _ = List.lookup y [(Str.ofString "turn", Value.int h t)])
  case hP => exact fun _ _ _ h => h
  intro prog p loose mean mg mb dp un outer A₀ base g L h₁ tk s B F X T hd hu _
  have N : News g L h₁ [] := News.nil
  walk_at "go"
  rename News _ _ _ _ => N'
  rename Fr _ _ _ _ => F'
  exact ⟨_, _, _, _, rfl, ⟨_, _, _, _, _, [.int _ _, .int _ _, .int _ _], rfl, rfl, by repeat constructor⟩, F', news_two N' (List.mem_of_getElem? (i := 5) rfl) (List.mem_of_getElem? (i := 6) rfl)⟩
theorem plane_con2 (w : World) (h : Int) (t : Tok) (hm : h.fmod 4 = 2) : Con w 1 106 [.int h t] (fun _ => True) (IsPlane 5 31 [1, 5, 11, 24, 25, 27]) := by
  walk_at "con"
  case hm => exact fun y => (rfl : _ = List.lookup y [(Str.ofString "turn", Value.int h t)])
  case hP => exact fun _ _ _ h => h
  intro prog p loose mean mg mb dp un outer A₀ base g L h₁ tk s B F X T hd hu _
  have N : News g L h₁ [] := News.nil
  walk_at "go"
  rename News _ _ _ _ => N'
  rename Fr _ _ _ _ => F'
  exact ⟨_, _, _, _, rfl, ⟨_, _, _, _, _, [.int _ _, .int _ _, .int _ _, .int _ _, .int _ _, .int _ _], rfl, rfl, by repeat constructor⟩, F', news_two N' (List.mem_of_getElem? (i := 3) rfl) (List.mem_of_getElem? (i := 4) rfl)⟩
theorem plane_con3 (w : World) (h : Int) (t : Tok) (hm : h.fmod 4 = 3) : Con w 1 106 [.int h t] (fun _ => True) (IsPlane 4 21 [3, 6, 7, 12, 14]) := by
  walk_at "con"
  case hm => exact fun y => (rfl : _ = List.lookup y [(Str.ofString "turn", Value.int h t)])
  case hP => exact fun _ _ _ h => h
  intro prog p loose mean mg mb dp un outer A₀ base g L h₁ tk s B F X T hd hu _
  have N : News g L h₁ [] := News.nil
  walk_at "go"
  rename News _ _ _ _ => N'
  rename Fr _ _ _ _ => F'
  exact ⟨_, _, _, _, rfl, ⟨_, _, _, _, _, [.int _ _, .int _ _, .int _ _, .int _ _, .int _ _], rfl, rfl, by repeat constructor⟩, F', news_two N' (List.mem_of_getElem? (i := 1) rfl) (List.mem_of_getElem? (i := 2) rfl)⟩
end
section -- ZAs
theorem offZAs : True := by
  w_top off
  trivial
open PySem.Builtin
set_option maxRecDepth 100000
theorem asc_loop {b : Array UInt8} {f : Nat → Nat × Array Nat × _codecs.Faults → Sem (ForInStep (Nat × Array Nat × _codecs.Faults))} (F0 : _codecs.Faults)
    (hf : ∀ k p out, p < b.size → out.size = p → f k (p, out, F0) = pure (.yield (p + 1, out.push (b.getD p 0).toNat, F0))) :
    ∀ (n p k : Nat) (out : Array Nat), p + n = b.size → out.size = p → forIn (List.range' k n) (p, out, F0) f = pure (b.size, out ++ ((b.toList.drop p).map (·.toNat)).toArray, F0)
  | 0, p, k, out, h, ho => by
    have hd : b.toList.drop p = [] := List.drop_eq_nil_of_le (by simp; omega)
    rw [hd]
    simp only [List.range', List.forIn_nil, List.map_nil]
    rw [show p = b.size by omega]
    simp
  | n + 1, p, k, out, h, ho => by
    have hp : p < b.size := by omega
    rw [List.range'_succ, List.forIn_cons, hf k p out hp ho]
    simp only [pure_bind]
    rw [asc_loop F0 hf n (p + 1) (k + 1) _ (by omega) (by simp [ho])]
    have e : b.toList.drop p = b.getD p 0 :: b.toList.drop (p + 1) := by
      rw [List.drop_eq_getElem_cons (by simpa using hp)]
      simp [Array.getD, hp]
    rw [e]
    simp
theorem ascii_run (id : String) (b : Array UInt8) (hb : ∀ i, i < b.size → (b.getD i 0).toNat < 128) (hs : b.size ≤ 1000) :
    _codecs.runDecoder id _codecs.asciiDecoder none true b 0 [] = pure (b.map (·.toNat), b.size) := by
  unfold _codecs.runDecoder
  simp only [_codecs.asciiDecoder]
  rw [Std.Legacy.Range.forIn_eq_forIn_range']
  have e2 : List.range' [:b.size].start [:b.size].size [:b.size].step = List.range' 0 b.size := by simp [Std.Legacy.Range.size]
  rw [e2, asc_loop (b := b) ({ } : _codecs.Faults) ?hf b.size 0 0 #[] (by omega) rfl]
  · simp only [pure_bind, List.drop_zero]
    congr 2
    apply Array.ext'
    simp
  case hf =>
    intro k p out hp ho
    have h1 : ¬ (p ≥ b.size) := by omega
    have h2 : ¬ (out.size > sizeLine) := by
      have : 1000 ≤ sizeLine := by decide +kernel
      omega
    have h3 := hb p hp
    simp only [h1, h2, h3, if_true, if_false, _codecs.Found.char]
    simp
theorem asc_entry (c : UInt8) (cs : List UInt8) (t u : Tok) : «bytes.decode» ⟨[.bytes (c :: cs).toArray t, .str (PySem.Str.ofString "ascii") u], []⟩ = (mkStr (PySem.Str.ofString "utf-8") >>= fun _ => mkStr (PySem.Str.ofString "ascii") >>= fun e => mkStr (PySem.Str.ofString "bytes.decode") >>= fun d =>
    call (.builtin "_codecs.decode.text") [.bytes (c :: cs).toArray t, e, .none, d] >>= fun v => ret v) := by kernel_rfl
theorem asc_road {id : String} (b : Array UInt8) : _codecs.decodeRoad id b (PySem.Str.ofString "ascii") none [] = (_codecs.runDecoder id _codecs.asciiDecoder none true b 0 [] >>= fun r => mkStr ⟨r.1⟩) := by kernel_rfl
theorem asc_args (a b : Value) : argsOk "bytes.decode" ⟨[a, b], []⟩ := by unfold argsOk; kernel_rfl
theorem asc_text {b : Array UInt8} {t t1 t2 : Tok} {d : PySem.Str} (hb : ∀ i, i < b.size → (b.getD i 0).toNat < 128) (hs : b.size ≤ 1000) :
    Meets («_codecs.decode.text» ⟨[.bytes b t, .str (PySem.Str.ofString "ascii") t1, .none, .str d t2], []⟩) (fun _ R s => R (.ok (.ret (.str ⟨b.map (·.toNat)⟩ s.toks))) { s with toks := s.toks + 1 }) := by
  refine .of_wp fun prog w A R s h => ?_
  show wpAny _ _ (Bytes.bytesLike _ (.bytes b t) >>= fun r => _) _ _ s
  refine wpAny_bind (wpAny_of_eq KBd.like_eq ?_)
  refine wpAny_bind (wpAny_of_eq KBd.held_eq ?_)
  show wpAny _ _ (_codecs.decodeRoad _ b (PySem.Str.ofString "ascii") none [] >>= fun v => _) _ _ s
  rw [asc_road, ascii_run _ b hb hs]
  refine wpAny_bind (wpAny_bind (wpAny_pure ?_))
  exact wpAny_mkStr (wpAny_pure ⟨_, rfl, h⟩) (by
    have : 1000 ≤ sizeLine := by decide +kernel
    show (b.map (·.toNat)).size ≤ sizeLine
    simp
    omega)
theorem asc_meets {c : UInt8} {cs : List UInt8} {t u : Tok} (hb : ∀ i, i < (c :: cs).toArray.size → ((c :: cs).toArray.getD i 0).toNat < 128) (hs : (c :: cs).toArray.size ≤ 1000) :
    Meets («bytes.decode» ⟨[.bytes (c :: cs).toArray t, .str (PySem.Str.ofString "ascii") u], []⟩) (fun _ R s => ∀ t' k, R (.ok (.ret (.str ⟨(c :: cs).toArray.map (·.toNat)⟩ t'))) { s with toks := k }) := by
  refine .of_wp fun prog w A R s h => ?_
  rw [asc_entry]
  refine wpAny_bind (wpAny_mkStr ?_ (by decide))
  refine wpAny_bind (wpAny_mkStr ?_ (by decide))
  refine wpAny_bind (wpAny_mkStr ?_ (by decide))
  exact wpAny_bind (call_function_meets KBd.kind_text KBd.plain_text KBd.entry_text (KBd.args_text _ _ _ _) (asc_text hb hs) (wpAny_pure ⟨_, rfl, h _ _⟩))
theorem asc_decode {prog : Program} {w : World} {A : Around} {E : Value → Shared → Prop} {s : Shared} {c : UInt8} {cs : List UInt8} {t u : Tok} {Q : Value → Shared → Prop}
    (hb : ∀ i, i < (c :: cs).toArray.size → ((c :: cs).toArray.getD i 0).toNat < 128) (hs : (c :: cs).toArray.size ≤ 1000) (h : ∀ t' k, Q (.str ⟨(c :: cs).toArray.map (·.toNat)⟩ t') { s with toks := k }) :
    wpAny (model prog w) A (call (.builtin "bytes.decode") [.bytes (c :: cs).toArray t, .str (PySem.Str.ofString "ascii") u]) Q E s :=
  call_meets FB.slot_bytes_decode (typeIs_bytes _ _ _) FB.entry_bytes_decode (asc_args _ _) (asc_meets hb hs) h
end
section -- ZDo
theorem offZDo : True := by
  w_top off
  trivial
set_option maxRecDepth 100000
set_option maxHeartbeats 4000000
def textOf (l : List UInt8) : Str := ⟨(l.toArray).map (·.toNat)⟩
def dotted (l : List UInt8) : Str := ⟨(l.flatMap fun c => [46, c.toNat]).toArray⟩
theorem dot_join : ∀ l : List Nat, l ≠ [] → (⟨#[46]⟩ : Str) ++ Str.join ⟨#[46]⟩ (l.map fun n => ⟨#[n]⟩) = ⟨(l.flatMap fun n => [46, n]).toArray⟩
  | [], h => absurd rfl h
  | [x], _ => rfl
  | x :: y :: r, _ => by
    have ih := dot_join (y :: r) (by simp)
    have e := congrArg (fun q : Str => q.cps.toList) ih
    apply PySem.Str.ext'
    apply Array.ext'
    simp only [PySem.Str.cps_append, List.map_cons, Str.join, Array.toList_append] at e ⊢
    simp only [List.flatMap_cons, List.cons_append, List.nil_append] at e ⊢
    have e' : ∀ tl : List Nat, (46 :: (Str.join ⟨#[46]⟩ (⟨#[y]⟩ :: r.map fun n => ⟨#[n]⟩)).cps.toList) = 46 :: y :: tl → (46 :: x :: 46 :: (Str.join ⟨#[46]⟩ (⟨#[y]⟩ :: r.map fun n => ⟨#[n]⟩)).cps.toList) = 46 :: x :: 46 :: y :: tl := by
      intro tl h
      injection h with _ h
      rw [h]
    exact e' _ e
theorem dotted_eq (c : UInt8) (cs : List UInt8) : Str.ofString "." ++ Txt.join (Str.ofString ".") (PyProof.Rows.signs (textOf (c :: cs))) = dotted (c :: cs) := by
  have h1 : Str.ofString "." = (⟨#[46]⟩ : Str) := by decide +kernel
  show _ ++ Builtin.Str.glued _ _ = _
  rw [StrLaws.glued_eq_join, h1]
  have h2 : PyProof.Rows.signs (textOf (c :: cs)) = ((c :: cs).map (·.toNat)).map fun n => ⟨#[n]⟩ := by
    simp [PyProof.Rows.signs, textOf]
  rw [h2, dot_join _ (by simp)]
  unfold dotted
  rw [List.flatMap_map]
theorem join_le {l : List UInt8} (hl : l.length ≤ 100) : (Txt.join (Str.ofString ".") (PyProof.Rows.signs (textOf l))).length ≤ 300 := by
  show (Builtin.Str.glued _ _).length ≤ 300
  rw [StrLaws.glued_eq_join]
  have hle := StrLaws.join_length_le (Str.ofString ".") (PyProof.Rows.signs (textOf l))
  have e : ((PyProof.Rows.signs (textOf l)).map (·.length)).sum = l.length := by
    have e0 := signLens_sum ((textOf l).cps.toList)
    simpa [PyProof.Rows.signs, textOf] using e0
  have h2 : (PyProof.Rows.signs (textOf l)).length = l.length := by simp [PyProof.Rows.signs, textOf]
  have h3 : (Str.ofString ".").length = 1 := by decide +kernel
  rw [e, h2, h3] at hle
  omega
theorem dot_ok {l : List UInt8} (hl : l.length ≤ 100) : JoinOk (Str.ofString ".") (PyProof.Rows.signs (textOf l)) = true := by
  unfold JoinOk
  rw [StrLaws.joinTotal]
  have e : ((PyProof.Rows.signs (textOf l)).map (·.length)).sum = l.length := by
    have e0 := signLens_sum ((textOf l).cps.toList)
    simpa [PyProof.Rows.signs, textOf] using e0
  rw [e]
  have h2 : (PyProof.Rows.signs (textOf l)).length = l.length := by simp [PyProof.Rows.signs, textOf]
  rw [h2]
  have h3 : (Str.ofString ".").length = 1 := by decide +kernel
  rw [h3]
  have : 1000 ≤ sizeLine := by decide +kernel
  simp [Builtin.Str.tooLong]
  omega
theorem dotted_con (w : World) (c : UInt8) (cs : List UInt8) (t : Tok) (hb : ∀ i, i < (c :: cs).toArray.size → ((c :: cs).toArray.getD i 0).toNat < 128) (hl : (c :: cs).length ≤ 100) : Con w 1 120 [.bytes (c :: cs).toArray t] (fun _ => True) (fun v own => own = [] ∧ ∃ t', v = .str (dotted (c :: cs)) t') := by
  walk_at "con"
  case hm => exact fun y => (rfl : _ = List.lookup y [(Str.ofString "octets", Value.bytes (c :: cs).toArray t)])
  case hP => exact fun _ _ _ h => h
  intro prog p loose mean mg mb dp un outer A₀ base g L h₁ tk s B F X T hd hu _
  have N : News g L h₁ [] := News.nil
  walk_at "go"
  rename Fr _ _ _ _ => F'
  refine asc_decode hb (by simpa using (by omega : (c :: cs).length ≤ 1000)) fun t2 k2 => ?_
  walk_at "go"
  refine SC.joinStr rfl (dot_ok hl) fun h2 k t3 hk => ?_
  have F2 := F'.keeps hk
  refine KXadd.add (K := 1) (L := 300) (by decide +kernel) (join_le hl) (by decide) fun t4 k4 _ => ?_
  exact ⟨_, [], h2, k4, rfl, ⟨rfl, t4, by rw [← dotted_eq]; rfl⟩, F2, News.nil⟩
end
section -- ZRp
theorem offZRp : True := by
  w_top off
  trivial
set_option maxRecDepth 100000
set_option maxHeartbeats 4000000
theorem runFor_two {a b : Nat} {m : Sre.M} (ha : (m.runFor a).outcome.isSome = true) (hb : (m.runFor b).outcome.isSome = true) : m.runFor a = m.runFor b := by
  rcases Nat.le_total a b with h | h
  · obtain ⟨k, rfl⟩ := Nat.le.dest h
    rw [runFor_add, runFor_done ha]
  · obtain ⟨k, rfl⟩ := Nat.le.dest h
    rw [runFor_add, runFor_done hb]
section
variable {prog : Program} {w : World} {A : Around} {E : Value → Shared → Prop} {s : Shared}
theorem re_drive {Q : Sre.M → Shared → Prop} : ∀ (k N : Nat) (m : Sre.M), 0 < k → N ≤ 4 * k → (m.runFor N).outcome.isSome = true → Q (m.runFor N) s → wpAny (model prog w) A (Builtin.Re.reDrive k m) Q E s
  | 0, _, _, h, _, _, _ => absurd h (Nat.lt_irrefl _)
  | k + 1, N, m, _, hN, ho, hq => by
    unfold Builtin.Re.reDrive
    show wpAny (model prog w) A (if (m.runFor 4).outcome.isSome = true then pure (m.runFor 4) else do rule "sre.turn"; Builtin.Re.reDrive k (m.runFor 4)) Q E s
    by_cases h4 : (m.runFor 4).outcome.isSome = true
    · rw [if_pos h4]
      exact wpAny_pure (runFor_two ho h4 ▸ hq)
    · rw [if_neg h4]
      have hlt : 4 < N := by
        refine Nat.lt_of_not_le fun hle => h4 ?_
        obtain ⟨j, hj⟩ := Nat.le.dest hle
        rw [← hj, runFor_add, runFor_done ho]; exact ho
      obtain ⟨j, rfl⟩ := Nat.le.dest (Nat.le_of_lt hlt)
      rw [runFor_add] at ho hq
      exact wpAny_bind (wpAny_rule (re_drive k j _ (by omega) (by omega) ho hq))
theorem rules_loop {l : List Nat} {p : Nat → Bool} {f : Nat → String} {Q : PUnit → Shared → Prop} (h : Q PUnit.unit s) :
    wpAny (model prog w) A (forIn l PUnit.unit (fun i (_ : PUnit) => (if p i = true then do rule (f i); pure (ForInStep.yield PUnit.unit) else pure (ForInStep.yield PUnit.unit) : Sem (ForInStep PUnit)))) Q E s := by
  induction l with
  | nil => exact wpAny_pure h
  | cons x l ih =>
    rw [List.forIn_cons]
    refine wpAny_bind ?_
    by_cases hp : p x = true
    · rw [if_pos hp]; exact wpAny_bind (wpAny_rule (wpAny_pure ih))
    · rw [if_neg hp]; exact wpAny_pure ih
theorem re_toEnd {m : Sre.M} {N : Nat} {Q : Option Sre.M → Shared → Prop} (hN : N ≤ 4 * 2 ^ 64) (ho : (m.runFor N).outcome = some .failed) (h : Q none s) : wpAny (model prog w) A (Builtin.Re.reRunToEnd m) Q E s := by
  unfold Builtin.Re.reRunToEnd
  have hk : 0 < 2 ^ 64 := by decide +kernel
  generalize 2 ^ 64 = K at hk hN
  refine wpAny_bind (re_drive K N m hk hN (by rw [ho]; rfl) ?_)
  refine wpAny_bind ?_
  refine rules_loop ?_
  rw [ho]
  exact wpAny_pure h
end
theorem rp_slot : Slot "re.Pattern" "search" "re.Pattern.search" :=
  .of (owner := "re.Pattern") (n := "search") (by rw [typeLookup_type, builtinLookup_eq_fast]; kernel_rfl) (by decide +kernel) (by decide +kernel) (by decide +kernel)
    (by first | exact .inl (by decide +kernel) | exact .inr (by decide +kernel)) (by rw [isSubtype_type]; kernel_rfl)
theorem rp_attrs : PlainAttrs "re.Pattern" :=
  ⟨⟨"object.__getattribute__", by rw [typeLookup_type, builtinLookup_eq_fast]; kernel_rfl, by decide +kernel⟩, by rw [typeLookup_type, builtinLookup_eq_fast]; kernel_rfl⟩
theorem rp_type : typeOf (.builtin "re.Pattern.search") = pure (.type "method_descriptor") := by show builtinType _ = _; rw [builtinType_eq_fast]; kernel_rfl
theorem rp_entry : entryFor table "re.Pattern.search" = some Builtin.«re.Pattern.search» := by first | exact entryFor_of_fast (by kernel_rfl) | exact entryFor_of_tree (by kernel_rfl)
theorem rp_args (a b : Value) : argsOk "re.Pattern.search" ⟨[a, b], []⟩ := by unfold argsOk; kernel_rfl
theorem rp_named (v : Value) : Builtin.Re.reNamed "re.Pattern.search" "search" ["string", "pos", "endpos"] 1 [v] [] = pure [some v, none, none] := by kernel_rfl
section
variable {prog : Program} {w : World} {A : Around} {E : Value → Shared → Prop} {s : Shared}
theorem rp_search {x : Str} {t : Tok} {a c : Addr} {o oc : Obj} {fs items : Array Value} {n : Nat} {t1 : Tok} {Q : Value → Shared → Prop} (ho : s.heap.get? a = some o) (hcl : o.cls = .type "re.Pattern") (hd : o.data = .fields fs)
    (h6 : fs.getD 6 .none = .int 0 t1) (h5 : fs.getD 5 .none = .ref c) {t3 : Tok} (h2 : fs.getD 2 .none = .int 0 t3) (hc : s.heap.get? c = some oc) (hcd : oc.data = .seq items n) (hci : (items.map Builtin.Re.reRawOf).map (·.toNat) = reC)
    (hx : ∀ i, Sre.isDigit (x.cps.getD i 0) = false) (hl : x.cps.size ≤ 1000) (h : Q .none s) : wpAny (model prog w) A (call (.builtin "re.Pattern.search") [.ref a, .str x t]) Q E s := by
  have hT : s.TypeIs (.ref a) "re.Pattern" := ⟨o, ho, hcl⟩
  refine wpAny_call (codeAny_call_builtin rp_slot.plain rp_entry (rp_slot.check _ _ _ _ _ _ _ _ hT (rp_args _ _) ?_))
  unfold Builtin.«re.Pattern.search» Builtin.Re.reTarget
  dsimp only
  rw [rp_named]
  refine wpAny_bind (wpAny_bind (wpAny_pure ?_))
  dsimp only
  refine wpAny_bind (wpAny_pure (wpAny_bind (wpAny_pure ?_)))
  refine wpAny_bind (wpAny_fieldsOf ho hd ?_)
  have ht : Builtin.Re.reTextOf (.str x t) = pure (x.cps, 0) := by
    unfold Builtin.Re.reTextOf
    have : asStr? (.str x t) = pure (some x) := rfl
    rw [this]
    rfl
  rw [ht]
  refine wpAny_bind (wpAny_pure ?_)
  dsimp only
  rw [h6, h5, h2]
  have e0 : Builtin.Re.reRawNat (.int 0 t1) = 0 := rfl
  rw [e0, if_neg (by decide), if_neg (by decide)]
  have hn : Builtin.Re.reNoCollectionInside (.str x t) 0 = pure () := rfl
  rw [hn]
  refine wpAny_bind (wpAny_pure ?_)
  unfold Builtin.Re.reRawItems
  refine wpAny_bind (wpAny_bind (wpAny_seqItems hc hcd (wpAny_pure ?_)))
  refine wpAny_pure ?_
  dsimp only [Option.getD_some]
  rw [hci]
  have e1 : min (Int.toNat 0) x.cps.size = 0 := by simp
  have e2 : min ((2 : Int) ^ 63 - 1).toNat x.cps.size = x.cps.size := by
    have : ((2 : Int) ^ 63 - 1).toNat = 9223372036854775807 := by decide +kernel
    rw [this]
    omega
  rw [e1, e2]
  have e3 : Builtin.Re.reRawNat (.int 0 t3) = 0 := rfl
  rw [e3]
  obtain ⟨N, hN, hf⟩ := re_search hx
  unfold Builtin.Re.reAnswer
  dsimp only
  refine wpAny_bind (re_toEnd (Nat.le_trans hN ?_) hf ?_)
  · have h64 : 2 ^ 64 = 18446744073709551616 := by decide +kernel
    rw [h64]
    omega
  · exact wpAny_pure h
end
end
section -- ZHn
theorem offZHn : True := by
  w_top off
  trivial
set_option maxRecDepth 100000
set_option maxHeartbeats 4000000
theorem hdn_con (w : World) (x : Str) (t : Tok) (hx : ∀ i, Sre.isDigit (x.cps.getD i 0) = false) (hl : x.cps.size ≤ 900) (h0 : 0 < x.cps.size) (h1 : (Txt.item x 0 == Str.ofString ".") = false) (h2 : (Txt.item x (-1) == Str.ofString ".") = false) :
    Con w 1 43 [.str x t] (fun _ => True) (fun v own => own = [] ∧ v = .bool true) := by
  walk_at "con"
  case hm => exact fun y => (rfl : _ = List.lookup y [(Str.ofString "text", Value.str x t)])
  case hP => exact fun _ _ _ h => h
  intro prog p loose mean mg mb dp un outer A₀ base g L h₁ tk s B F X T hd hu _
  have N : News g L h₁ [] := News.nil
  have X1 : (Mine.hd.heap_39 w.params).In h₁ := X.keeps F.keep
  have e36 : (Mine.hd.heap_39 w.params).lookup 36 = _ := rfl
  have e35 : (Mine.hd.heap_39 w.params).lookup 35 = _ := rfl
  conv at e36 => rhs; whnf
  conv at e35 => rhs; whnf
  have o36 := X1 _ _ e36
  have o35 := X1 _ _ e35
  clear X1 e36 e35
  walk_at "go"
  refine getMethod_builtin (T := "re.Pattern") ⟨_, o36, rfl⟩ rp_attrs rp_slot rp_type (fun a e => by cases e; exact ⟨_, o36, rfl⟩) ?_
  walk_at "go"
  refine rp_search (t1 := 0) (t3 := 0) o36 rfl rfl rfl rfl rfl o35 rfl (by kernel_rfl) hx (by omega) ?_
  walk_at "go"
  · exfalso
    rename (_ == _) = true => hq
    rw [eq_of_beq hq] at h0
    revert h0
    decide +kernel
  rename (_ == _) = false => hq
  walk_at "go"
  rename Fr _ _ _ _ => F'
  exact ⟨_, [], _, _, rfl, ⟨rfl, rfl⟩, F', News.nil⟩
end
section -- ZDm
theorem offZDm : True := by
  w_top off
  trivial
set_option maxRecDepth 100000
set_option maxHeartbeats 4000000
structure Hdn (x : Str) : Prop where
  nodig : ∀ i, Sre.isDigit (x.cps.getD i 0) = false
  le : x.cps.size ≤ 900
  pos : 0 < x.cps.size
  first : (Txt.item x 0 == Str.ofString ".") = false
  last : (Txt.item x (-1) == Str.ofString ".") = false
theorem dm_con (w : World) (a b a' b' : Str) (t u : Tok) (ha : a.length ≤ 900) (hb : b.length ≤ 900) (ea : Txt.lower a = a') (eb : Txt.lower b = b') (hne : (a' == b') = false) (hA : Hdn a') (hB : Hdn (Txt.slice b' (some 1) none)) (hS : Txt.startswith b' (Str.ofString ".") = true)
    (hr0 : Txt.rfind a' b' ≠ 0) :
    Con w 2 50 [.str a t, .str b u] (fun _ => True) (fun v own => own = [] ∧ v = .bool (decide (Txt.rfind a' b' ≠ -1))) := by
  walk_at "con"
  case hm => exact fun y => (rfl : _ = List.lookup y [(Str.ofString "B", Value.str b u), (Str.ofString "A", Value.str a t)])
  case hP => exact fun _ _ _ h => h
  intro prog p loose mean mg mb dp un outer A₀ base g L h₁ tk s B F X T hd hu _
  have N : News g L h₁ [] := News.nil
  subst ea
  subst eb
  walk_at "go"
  rename Fr _ _ _ _ => F1
  rename News _ _ _ _ => N1
  refine (hdn_con w (Txt.lower a) _ hA.nodig hA.le hA.pos hA.first hA.last).use B F1 X N1 T rfl (by omega) (by omega) True.intro ?_
  rintro v own h2 tk2 ⟨rfl, rfl⟩ F2 N2 _
  simp only [List.nil_append] at N2
  walk_at "go"
  · rename _ = (-1 : Int) => hq
    rename Fr _ _ _ _ => F3
    exact ⟨_, [], _, _, rfl, ⟨rfl, by simp [hq]⟩, F3, News.nil⟩
  rename _ ≠ (-1 : Int) => hq
  walk_at "go"
  · exact absurd (by assumption) hr0
  walk_at "go"
  rename Fr _ _ _ _ => F5
  rename News _ _ _ _ => N5
  refine (hdn_con w (Txt.slice (Txt.lower b) (some 1) none) _ hB.nodig hB.le hB.pos hB.first hB.last).use B F5 X N5 T rfl (by omega) (by omega) True.intro ?_
  rintro v own h3 tk3 ⟨rfl, rfl⟩ F6 N6 _
  walk_at "go"
  exact ⟨_, [], h3, _, rfl, ⟨rfl, by simp [hq]⟩, F6, News.nil⟩
end
section -- ZLc
theorem offZLc : True := by
  w_top off
  trivial
set_option maxRecDepth 100000
set_option maxHeartbeats 4000000
/-- the body and the scope of law, read off the top's own heap -/
noncomputable def lawBody (w : World) : List Stmt := match (hd.heap_39 w.params).lookup 125 with
  | some ⟨_, _, .func fd, _⟩ => (match fd.body with | .stmts b => b | _ => [])
  | _ => []
noncomputable def lawScope (w : World) : Scope := match (hd.heap_39 w.params).lookup 125 with
  | some ⟨_, _, .func fd, _⟩ => fd.scope
  | _ => default
abbrev lawCl (L : Addr) : List (Str × Addr) :=
  [(Str.ofString "prime", L + 1 + 1 + 1 + 1 + 1 + 1 + 1 + 1), (Str.ofString "seen", L + 1 + 1 + 1 + 1 + 1 + 1 + 1),
    (Str.ofString "turned", L + 1 + 1 + 1 + 1 + 1 + 1), (Str.ofString "line", L + 1 + 1 + 1 + 1 + 1), (Str.ofString "units", L + 1 + 1 + 1 + 1),
    (Str.ofString "v", L + 1 + 1 + 1), (Str.ofString "heaps", L + 1 + 1), (Str.ofString "script", L + 1)]
/-- the ledger: the eight cells, then the rest -/
abbrev lawNews (L : Addr) (o1 o2 o3 o4 o5 o6 o7 o8 : Obj) (rest : List (Addr × Obj)) : List (Addr × Obj) :=
  (L + 1 + 1 + 1 + 1 + 1 + 1 + 1 + 1, o8) :: (L + 1 + 1 + 1 + 1 + 1 + 1 + 1, o7) :: (L + 1 + 1 + 1 + 1 + 1 + 1, o6) :: (L + 1 + 1 + 1 + 1 + 1, o5) :: (L + 1 + 1 + 1 + 1, o4) :: (L + 1 + 1 + 1, o3) :: (L + 1 + 1, o2) :: (L + 1, o1) :: rest
/-- law's body from statement k on -/
def LawAt (w : World) (prog : Program) (L fa : Addr) (ccd : Value) (Q : Flow → Shared → Prop) (k : Nat) (s : Shared) : Prop :=
  wpN (model prog w) (ktrTop 302 7 (some []) (Str.ofString "law") (lawScope w) L fa ccd (lawCl L) []) (execs (List.drop k (lawBody w)) (envX (Str.ofString "law") (lawScope w) L fa ccd (lawCl L))) Q (fun _ _ => False) s
end
local macro_rules | `(tactic| walk_at "gol") => `(tactic| repeat ((fail_if_success (with_reducible show wpAny _ _ (exec (Stmt.While _ _ _ _) _) _ _ _)); (fail_if_success (with_reducible show wpAny _ _ (exec (Stmt.For _ _ _ _ _) _) _ _ _)); (fail_if_success (with_reducible show wpAny _ _ (exec (Stmt.FunctionDef _ _ _ _ _ _ _ _ _ _) _) _ _ _)); (fail_if_success (with_reducible show wpAny _ _ (call (Value.ref _) _) _ _ _)); (fail_if_success (with_reducible show wpAny _ _ (subscriptTail _ _ (Value.ref _) (Value.ref _)) _ _ _)); walk1; try dsimp only))
section -- ZL0
theorem offZL0 : True := by
  w_top off
  trivial
set_option maxRecDepth 100000
set_option maxHeartbeats 1000000
local macro_rules | `(tactic| k_all) => `(tactic| exact rest_ne (by assumption) (by omega))
/-- a new object off the eight cells, and off the rest of the ledger -/
abbrev Off8 (L D : Addr) (rest : List (Addr × Obj)) : Prop := L + 1 + 1 + 1 + 1 + 1 + 1 + 1 + 1 ≠ D ∧ L + 1 + 1 + 1 + 1 + 1 + 1 + 1 ≠ D ∧ L + 1 + 1 + 1 + 1 + 1 + 1 ≠ D ∧ L + 1 + 1 + 1 + 1 + 1 ≠ D ∧ L + 1 + 1 + 1 + 1 ≠ D ∧ L + 1 + 1 + 1 ≠ D ∧ L + 1 + 1 ≠ D ∧ L + 1 ≠ D ∧ LCg.Off1 D rest
theorem law0 (w : World) {prog p : Program} {loose : List Str} {mean : ExcName → Option Value} {mg mb : Str → Option Value} {A₀ : Around} {base g : Heap} {L fa la : Addr} {ccd : Value} {s : Shared} {Q : Flow → Shared → Prop} {o1 o2 o3 o4 o5 o6 o7 o8 : Obj} {h : Heap} {tk : Nat} {m : Str → Option Value}
    {vs : List Value} {ns : List Int} {rest : List (Addr × Obj)}
    (B : Below A₀ base [] g) (X : (Mine.hd.heap_39 w.params).In g) (T : Top p loose mean mg mb g) (hL : 100 < L) (hI : IntsAre vs ns) (hG : g.IsList la vs.toArray) (hn : ns.length ≤ 63)
    (F : Fr g L h m) (N : News g L h (lawNews L o1 o2 o3 o4 o5 o6 o7 o8 rest)) (hr : ∀ q ∈ rest, q.1 < L)
    (d1 : o1.data = .cell (some (.ref la))) (d2 : o2.data = .cell none) (d3 : o3.data = .cell none) (d4 : o4.data = .cell none) (d5 : o5.data = .cell none) (d6 : o6.data = .cell none) (d7 : o7.data = .cell none) (d8 : o8.data = .cell none)
    (next : ∀ (D : Addr) (ys : List Value) (hs : List Int) (o2' : Obj) (h' : Heap) (tk' : Nat), IntsAre ys hs → hs.length = 5 → Off8 L D rest → o2'.data = .cell (some (.ref D)) → Fr g L h' m →
      News g L h' ((D, LCg.lst ys) :: lawNews L o1 o2' o3 o4 o5 o6 o7 o8 rest) → LawAt w prog L fa ccd Q 1 { s with heap := h', toks := tk' }) :
    LawAt w prog L fa ccd Q 0 { s with heap := h, toks := tk } := by
  unfold LawAt at next ⊢
  have es : lawScope w = lawScope w := rfl
  conv at es => rhs; whnf
  rw [es] at next ⊢
  clear es
  refine consA ?_
  k_fold
  dsimp only [lawNews] at N
  walk_at "gol"
  · rename Fr _ _ _ _ => F1
    rename News _ _ _ _ => N1
    rename _ = some (Value.int _ _) => hk1
    have hls := (hG.at fun o e => F1.keep la o e)
    refine slice_list3 (s := ⟨_, _, _, _, _⟩) F1 N1 hls (IsPart.int _ _) IsPart.none (IsPart.int _ _) ?h5 ?_
    case h5 => decide
    intro h1 F2 N2
    have e2 : ∀ x : Array Value, x = x.toList.toArray := fun x => by simp
    rw [e2 (slicePick _ _ _ _)] at N2
    rename Int => kk
    have hP := hI.pick (some kk) none (some 5)
    walk_at "gol"
  walk_at "gol"
  rename Fr _ _ _ _ => F9
  rename News _ _ _ _ => N9
  rename IntsAre _ (List.map _ _) => hI9
  exact next _ _ _ _ _ _ hI9 (by rw [List.length_map]; rfl) (by assumption) (by assumption) F9 N9
end
section -- ZL1
theorem offZL1 : True := by
  w_top off
  trivial
set_option maxRecDepth 100000
set_option maxHeartbeats 1000000
local macro_rules | `(tactic| k_all) => `(tactic| exact rest_ne (by assumption) (by omega))
theorem off1_of {D : Addr} : ∀ {l : List (Addr × Obj)}, (∀ x ∈ l, x.1 ≠ D) → LCg.Off1 D l
  | [], _ => trivial
  | p :: l, h => ⟨h p (.head _), off1_of fun x hx => h x (.tail _ hx)⟩
theorem law1a (w : World) {prog p : Program} {loose : List Str} {mean : ExcName → Option Value} {mg mb : Str → Option Value} {A₀ : Around} {base g : Heap} {L fa D : Addr} {ccd : Value} {s : Shared} {Q : Flow → Shared → Prop} {o1 o2 o3 o4 o5 o6 o7 o8 : Obj} {h : Heap} {tk : Nat} {m : Str → Option Value}
    {ys : List Value} {hs : List Int} {rest : List (Addr × Obj)} {ov vv : Int} {ps : List Int}
    (B : Below A₀ base [] g) (X : (Mine.hd.heap_39 w.params).In g) (T : Top p loose mean mg mb g) (hI : IntsAre ys hs) (hn : hs.length = 5) (off : Off8 L D rest)
    (C : ∀ t, Con w 1 106 [.int (hs.getD 0 0) t] (fun _ => True) (IsPlane ov vv ps))
    (F : Fr g L h m) (N : News g L h ((D, LCg.lst ys) :: lawNews L o1 o2 o3 o4 o5 o6 o7 o8 rest)) (hr : ∀ q ∈ rest, q.1 < L)
    (d2 : o2.data = .cell (some (.ref D))) (d3 : o3.data = .cell none)
    (next : ∀ (P : Addr) (vs : List Value) (n : Nat) (o3' : Obj) (t1 t2 : Tok) (h' : Heap) (tk' : Nat), IntsAre vs ps → Off8 L P rest → D ≠ P → o3'.data = .cell (some (.int vv t2)) →
      Fr g L h' (fun y => if y = Str.ofString "points" then some (.ref P) else if y = Str.ofString "order" then some (.int ov t1) else m y) →
      News g L h' ((P, W.listOf vs.toArray n) :: (D, LCg.lst ys) :: lawNews L o1 o2 o3' o4 o5 o6 o7 o8 rest) → LawAt w prog L fa ccd Q 2 { s with heap := h', toks := tk' }) :
    LawAt w prog L fa ccd Q 1 { s with heap := h, toks := tk } := by
  unfold LawAt at next ⊢
  have es : lawScope w = lawScope w := rfl
  conv at es => rhs; whnf
  rw [es] at next ⊢
  clear es
  refine consA ?_
  k_fold
  dsimp only [lawNews] at N
  walk_at "gol"
  refine (C _).use B F X N T rfl (by decide) (by decide) True.intro ?_
  rintro v own h2 tk2 ⟨D2, P, t1, t2, n, vs, rfl, rfl, hps⟩ F2 N2 hne
  have q1 := hne _ (.head _)
  have q2 := hne _ (.tail _ (.head _))
  clear hne
  simp only [List.cons_append, List.nil_append] at N2
  simp only [List.forall_mem_cons] at q1 q2
  obtain ⟨a0, a8, a7, a6, a5, a4, a3, a2, a1, ar⟩ := q1
  obtain ⟨b0, b8, b7, b6, b5, b4, b3, b2, b1, br⟩ := q2
  obtain ⟨c8, c7, c6, c5, c4, c3, c2, c1, cr⟩ := off
  replace a3 := neN a3
  replace b3 := neN b3
  replace c3 := neN c3
  walk_at "gol"
  rename Fr _ _ _ _ => F9
  rename News _ _ _ _ => N9
  exact next P vs n _ _ _ _ _ hps ⟨b8, b7, b6, b5, b4, b3, b2, b1, off1_of br⟩ b0 (by assumption) F9 (fun q hq => N9 q (.tail _ hq))
/-- the four planes -/
inductive PlaneIs : Int → Int → List Int → Prop
  | p0 : PlaneIs 3 13 [0, 1, 3, 9]
  | p1 : PlaneIs 2 7 [1, 2, 4]
  | p2 : PlaneIs 5 31 [1, 5, 11, 24, 25, 27]
  | p3 : PlaneIs 4 21 [3, 6, 7, 12, 14]
theorem plane_any (w : World) (h : Int) : ∃ o v ps, PlaneIs o v ps ∧ ∀ t, Con w 1 106 [.int h t] (fun _ => True) (IsPlane o v ps) := by
  have e : h.fmod 4 = 0 ∨ h.fmod 4 = 1 ∨ h.fmod 4 = 2 ∨ h.fmod 4 = 3 := by
    rw [Int.fmod_eq_emod_of_nonneg _ (by decide)]
    omega
  rcases e with e | e | e | e
  · exact ⟨_, _, _, .p0, fun t => plane_con0 w h t e⟩
  · exact ⟨_, _, _, .p1, fun t => plane_con1 w h t e⟩
  · exact ⟨_, _, _, .p2, fun t => plane_con2 w h t e⟩
  · exact ⟨_, _, _, .p3, fun t => plane_con3 w h t e⟩
end
local macro_rules | `(tactic| walk_at "CompEnd") => `(tactic| (refine' LCg.CompEnd.intro (by assumption) (by assumption) ?cen ?ce1 ?ce2 ?ce3 ?ce4; (case ce4 => walk1); (case ce1 => kcf_all); (case ce2 => assumption); (case ce3 => exact True.intro)))
section -- ZL2
theorem offZL2 : True := by
  w_top off
  trivial
set_option maxRecDepth 100000
set_option maxHeartbeats 2000000
local macro_rules | `(tactic| k_all) => `(tactic| exact rest_ne (by assumption) (by omega))
/-- the units of a plane -/
def unitsOf (v : Int) : List Int := (rangeKs 1 (v - 1).toNat).foldl (fun l' k' => if ¬v = 21 then l' ++ [k'] else if 0 < k'.fmod 3 ∧ 0 < k'.fmod 7 then l' ++ [k'] else if 0 < k'.fmod 3 ∧ ¬0 < k'.fmod 7 then l' else l') []
theorem law2 (w : World) {prog p : Program} {loose : List Str} {mean : ExcName → Option Value} {mg mb : Str → Option Value} {A₀ : Around} {base g : Heap} {L fa D P : Addr} {ccd : Value} {s : Shared} {Q : Flow → Shared → Prop} {o1 o2 o3 o4 o5 o6 o7 o8 : Obj} {h : Heap} {tk : Nat} {m : Str → Option Value}
    {ys vs : List Value} {hs ps : List Int} {n : Nat}  {rest : List (Addr × Obj)} {vv : Int} {t2 : Tok}
    (B : Below A₀ base [] g) (X : (Mine.hd.heap_39 w.params).In g) (T : Top p loose mean mg mb g) (hI : IntsAre ys hs) (hn : hs.length = 5) (hps : IntsAre vs ps) (hv0 : 7 ≤ vv) (hv1 : vv ≤ 31) 
    (off : Off8 L D rest) (offP : Off8 L P rest) (hDP : D ≠ P)
    (F : Fr g L h m) (N : News g L h ((P, W.listOf vs.toArray n) :: (D, LCg.lst ys) :: lawNews L o1 o2 o3 o4 o5 o6 o7 o8 rest)) (hr : ∀ q ∈ rest, q.1 < L)
    (d2 : o2.data = .cell (some (.ref D))) (d3 : o3.data = .cell (some (.int vv t2))) (d4 : o4.data = .cell none)
    (next : ∀ (U : Addr) (us : List Value) (o4' : Obj) (h' : Heap) (tk' : Nat), IntsAre us (unitsOf vv) → Off8 L U rest → P ≠ U → D ≠ U → o4'.data = .cell (some (.ref U)) →
      Fr g L h' m → News g L h' ((U, LCg.lst us) :: (P, W.listOf vs.toArray n) :: (D, LCg.lst ys) :: lawNews L o1 o2 o3 o4' o5 o6 o7 o8 rest) → LawAt w prog L fa ccd Q 3 { s with heap := h', toks := tk' }) :
    LawAt w prog L fa ccd Q 2 { s with heap := h, toks := tk } := by
  unfold LawAt at next ⊢
  have es : lawScope w = lawScope w := rfl
  conv at es => rhs; whnf
  rw [es] at next ⊢
  clear es
  have eP4 := neN offP.2.2.2.2.1
  have eD4 := neN off.2.2.2.2.1
  refine consA ?_
  k_fold
  dsimp only [lawNews] at N
  walk_at "gol"
  · rename Fr _ _ _ _ => F9
    rename News _ _ _ _ => N9
    rename IntsAre _ (List.foldl _ _ _) => hI9
    rename _ ∧ _ ∧ _ ∧ _ ∧ _ ∧ _ ∧ _ ∧ _ ∧ _ ∧ _ ∧ LCg.Off1 _ _ => o9
    exact next _ _ _ _ _ hI9 o9.2.2 o9.1 o9.2.1 (by assumption) F9 N9
  · intro l k
    dsimp only
    split
    · simp
    · split
      · simp
      · split <;> simp
end
section -- ZL3
theorem offZL3 : True := by
  w_top off
  trivial
set_option maxRecDepth 100000
set_option maxHeartbeats 1000000
theorem unpinF {h₀ h : Heap} {L : Addr} {m : Str → Option Value} {x : Str} {v : Value} (F : Fr h₀ L h (fun y => if y = x then some v else m y)) (e : m x = some v) : Fr h₀ L h m := by
  have q : (fun y => if y = x then some v else m y) = m := by
    funext y
    by_cases h1 : y = x
    · rw [if_pos h1, h1, e]
    · rw [if_neg h1]
  rw [q] at F; exact F
/-- the line: the plane's points, turned by a unit and shifted -/
def lineOf (ns hs ps : List Int) (v : Int) : List Int := ps.map fun k => (ns.getD ((hs.getD (Int.toNat 1) 0).fmod ns.length).toNat 0 * k + hs.getD (Int.toNat 2) 0).fmod v
theorem law3 (w : World) {prog p : Program} {loose : List Str} {mean : ExcName → Option Value} {mg mb : Str → Option Value} {A₀ : Around} {base g : Heap} {L fa D P U : Addr} {ccd : Value} {s : Shared} {Q : Flow → Shared → Prop} {o1 o2 o3 o4 o5 o6 o7 o8 : Obj} {h : Heap} {tk : Nat} {m : Str → Option Value}
    {ys vs us : List Value} {hs ps ns : List Int} {n : Nat} {rest : List (Addr × Obj)} {vv : Int} {t2 : Tok}
    (B : Below A₀ base [] g) (X : (Mine.hd.heap_39 w.params).In g) (T : Top p loose mean mg mb g) (hI : IntsAre ys hs) (hn : hs.length = 5) (hps : IntsAre vs ps) (hpl : ps.length ≤ 6) (hv0 : 7 ≤ vv) (hv1 : vv ≤ 31)
    (hus : IntsAre us ns) (hu0 : 0 < ns.length) (hu1 : ns.length ≤ 30) (hub : ∀ i, Builtin.Int.intBits (ns.getD i 0) ≤ 64)
    (off : Off8 L D rest) (offP : Off8 L P rest) (offU : Off8 L U rest) (hDP : D ≠ P) (hPU : P ≠ U) (hDU : D ≠ U)
    (F : Fr g L h m) (hm : m (Str.ofString "points") = some (.ref P)) (N : News g L h ((U, LCg.lst us) :: (P, W.listOf vs.toArray n) :: (D, LCg.lst ys) :: lawNews L o1 o2 o3 o4 o5 o6 o7 o8 rest)) (hr : ∀ q ∈ rest, q.1 < L)
    (d2 : o2.data = .cell (some (.ref D))) (d3 : o3.data = .cell (some (.int vv t2))) (d4 : o4.data = .cell (some (.ref U))) (d5 : o5.data = .cell none)
    (next : ∀ (V : Addr) (ls : List Value) (o5' : Obj) (h' : Heap) (tk' : Nat), IntsAre ls (lineOf ns hs ps vv) → Off8 L V rest → U ≠ V → P ≠ V → D ≠ V → o5'.data = .cell (some (.ref V)) →
      Fr g L h' m → News g L h' ((V, LCg.lst ls) :: (U, LCg.lst us) :: (P, W.listOf vs.toArray n) :: (D, LCg.lst ys) :: lawNews L o1 o2 o3 o4 o5' o6 o7 o8 rest) → LawAt w prog L fa ccd Q 4 { s with heap := h', toks := tk' }) :
    LawAt w prog L fa ccd Q 3 { s with heap := h, toks := tk } := by
  unfold LawAt at next ⊢
  have es : lawScope w = lawScope w := rfl
  conv at es => rhs; whnf
  rw [es] at next ⊢
  clear es
  have e1 := neN offP.2.2.2.1
  have e2 := neN off.2.2.2.1
  have e3 := neN offU.2.2.2.1
  have hpin := fun h' (F' : Fr g L h' (fun y => if y = Str.ofString "points" then some (.ref P) else m y)) => unpinF F' hm
  have F1 := pinF F hm
  clear F
  refine consA ?_
  k_fold
  dsimp only [lawNews] at N
  walk_at "gol"
  · refine mul_int ?_ (IntMulOk.of_left (hub _))
    walk_at "gol"
  walk_at "gol"
  have f1 := neN offP.2.2.2.1
  have f2 := neN off.2.2.2.1
  have f3 := neN offU.2.2.2.1
  rename _ ∧ _ ∧ _ ∧ _ ∧ _ ∧ _ ∧ _ ∧ _ ∧ _ ∧ _ ∧ _ ∧ LCg.Off1 _ _ => o9
  have f4 := neN o9.2.2.2.2.2.2.1
  rename Fr _ _ _ _ => F9
  rename News _ _ _ _ => N9
  refine storeX_C F9 N9 rfl (.tail f4.symm (.tail f3.symm (.tail f1.symm (.tail f2.symm (.tail ?c1 (.tail ?c2 (.tail ?c3 (.head ?c4)))))))) d5 ?_ rfl rfl
  case c1 => refine neN ?_; dsimp only; omega
  case c2 => refine neN ?_; dsimp only; omega
  case c3 => refine neN ?_; dsimp only; omega
  case c4 =>
    refine List.forall_mem_cons.mpr ⟨?_, List.forall_mem_cons.mpr ⟨?_, List.forall_mem_cons.mpr ⟨?_, List.forall_mem_cons.mpr ⟨?_, rest_ne hr (by omega)⟩⟩⟩⟩
    all_goals (refine neN ?_; dsimp only; omega)
  intro h9 o9' F10 N10 d9
  k_unfold
  rename IntsAre _ (List.map _ _) => hI9
  exact ⟨rfl, next _ _ _ _ _ hI9 o9.2.2.2 o9.1 o9.2.1 o9.2.2.1 d9 (hpin _ F10) N10⟩
end
section -- ZL4
theorem offZL4 : True := by
  w_top off
  trivial
set_option maxRecDepth 100000
set_option maxHeartbeats 1000000
/-- the three factors -/
def factorsOf (ns hs : List Int) : List Int := [1, ns.getD ((hs.getD (Int.toNat 3) 0 + 2).fmod ns.length).toNat 0, ns.getD ((hs.getD (Int.toNat 4) 0 + 1).fmod ns.length).toNat 0]
theorem law4 (w : World) {prog p : Program} {loose : List Str} {mean : ExcName → Option Value} {mg mb : Str → Option Value} {A₀ : Around} {base g : Heap} {L fa D U V : Addr} {ccd : Value} {s : Shared} {Q : Flow → Shared → Prop} {o1 o2 o3 o4 o5 o6 o7 o8 : Obj} {h : Heap} {tk : Nat} {m : Str → Option Value}
    {ys us ls : List Value} {hs ns : List Int} {rest : List (Addr × Obj)}
    (B : Below A₀ base [] g) (X : (Mine.hd.heap_39 w.params).In g) (T : Top p loose mean mg mb g) (hI : IntsAre ys hs) (hn : hs.length = 5) (hus : IntsAre us ns) (hu0 : 0 < ns.length) (hu1 : ns.length ≤ 30)
    (F : Fr g L h m) (N : News g L h ((V, LCg.lst ls) :: (U, LCg.lst us) :: (D, LCg.lst ys) :: lawNews L o1 o2 o3 o4 o5 o6 o7 o8 rest))
    (d2 : o2.data = .cell (some (.ref D))) (d4 : o4.data = .cell (some (.ref U)))
    (next : ∀ (W' : Addr) (fs : List Value) (h' : Heap) (tk' : Nat), IntsAre fs (factorsOf ns hs) → (∀ q ∈ (V, LCg.lst ls) :: (U, LCg.lst us) :: (D, LCg.lst ys) :: lawNews L o1 o2 o3 o4 o5 o6 o7 o8 [], q.1 < W') → AllLt W' rest →
      Fr g L h' (fun y => if y = Str.ofString "factors" then some (.ref W') else m y) → News g L h' ((W', W.listOf fs.toArray 0) :: (V, LCg.lst ls) :: (U, LCg.lst us) :: (D, LCg.lst ys) :: lawNews L o1 o2 o3 o4 o5 o6 o7 o8 rest) → LawAt w prog L fa ccd Q 5 { s with heap := h', toks := tk' }) :
    LawAt w prog L fa ccd Q 4 { s with heap := h, toks := tk } := by
  unfold LawAt at next ⊢
  have es : lawScope w = lawScope w := rfl
  conv at es => rhs; whnf
  rw [es] at next ⊢
  clear es
  refine consA ?_
  k_fold
  dsimp only [lawNews] at N
  walk_at "gol"
  rename Fr _ _ _ _ => F9
  rename News _ _ _ _ => N9
  rename _ ∧ _ ∧ _ ∧ _ ∧ _ ∧ _ ∧ _ ∧ _ ∧ _ ∧ _ ∧ _ ∧ AllLt _ _ => l9
  obtain ⟨l1, l2, l3, l4, l5, l6, l7, l8, l9, l10, l11, l12⟩ := l9
  refine next _ [_, _, _] _ _ (.cons _ _ (.cons _ _ (.cons _ _ .nil))) ?_ l12 F9 N9
  simp only [List.forall_mem_cons, List.not_mem_nil, false_implies, implies_true, and_true]
  exact ⟨l1, l2, l3, l4, l5, l6, l7, l8, l9, l10, l11⟩
end
section -- ZCc
theorem offZCc : True := by
  w_top off
  trivial
open PyProof.Rows.LCg
set_option maxRecDepth 100000
set_option maxHeartbeats 1000000
section
variable {prog : Program} {w : World} {A : Around} {E : Value → Shared → Prop} {s : Shared} {h₀ : Heap} {L : Addr} {m : Str → Option Value} {env : Env}
/-- a new frame of a comprehension with one cell -/
theorem newEnv_cell {scope : Scope} {globals : Addr} {cl : List (Str × Addr)} {qual : Str} {x : Str} {Q : Env → Shared → Prop}
    (hpush : ∀ h : Heap, pushCells h scope.names = h.push { cls := .type "cell", data := .cell none }) (hcells : ∀ n, cellsFrom n scope.names cl = (x, n) :: cl)
    (hQ : Q { scope := scope, locals := s.heap.objs.size, globals := globals, cells := (x, s.heap.objs.size + 1) :: cl, qual := qual, func := none, code := env.code, frame := env.frame, builtins := env.builtins }
      { s with heap := (s.heap.push { cls := .type "dict", data := .dict #[] }).push { cls := .type "cell", data := .cell none } }) :
    wpAny (model prog w) A (newFunctionEnv scope globals cl [] qual none .none (some env)) Q E s := by
  simp only [newFunctionEnv, Option.isSome_some, if_true]
  refine wpAny_bind (wpAny_alloc ?_)
  refine wpAny_bind (wpAny_layCells _ (fun name kind cells => by cases hkc : kind == NameKind.cell <;> simp [hkc]) _ _ _ _ ?_)
  rw [hpush, hcells]
  rw [show ({ s with heap := s.heap.push { cls := .type "dict", data := .dict #[] } } : Shared).heap.objs.size = s.heap.objs.size + 1 from Heap.size_push ..]
  refine wpAny_bind ?_
  rw [List.forIn_nil]
  exact wpAny_pure (wpAny_pure hQ)

theorem offOne_of {D : Addr} : ∀ {l : List (Addr × Obj)}, (∀ x ∈ l, (@Ne Nat x.1 D)) → LCg.Off1 D l
  | [], _ => trivial
  | p :: l, h => ⟨h p (.head _), offOne_of fun x hx => h x (.tail _ hx)⟩
theorem paired_len {α β : Type} {F : α → β → Prop} : ∀ {l₁ : List α} {l₂ : List β}, Paired F l₁ l₂ → l₁.length = l₂.length
  | _, _, .nil => rfl
  | _, _, .cons _ t => by simp [paired_len t]
abbrev Off4 (I C K D : Addr) (news : List (Addr × Obj)) : Prop := ∀ p ∈ news, (@Ne Nat p.1 I) ∧ (@Ne Nat p.1 C) ∧ (@Ne Nat p.1 K) ∧ (@Ne Nat p.1 D)

/-- a list comprehension whose variable is a cell, its value handed to a name -/
theorem compCell {elt iter : Expr} {x y : Str} {px py : Pos} {scope : Scope} {cl : List (Str × Addr)} {pos spos : Pos} {Q : Flow → Shared → Prop} {its : List Value} {G : Value → Value → Prop} {ax : Addr} {oa : Obj} {news : List (Addr × Obj)}
    (_F₀ : Fr h₀ L s.heap m) (_N₀ : News h₀ L s.heap news) (hLe : env.locals = L) (hh : A.handled = none)
    (hsw : swapsWith (.ListComp elt [⟨.Name x px, iter, [], 0⟩] scope pos) (some (.Name y py)) spos.line env = pure true)
    (hclos : closureFor scope env = pure cl) (hkind : scope.kind = .function)
    (hpush : ∀ h : Heap, pushCells h scope.names = h.push { cls := .type "cell", data := .cell none }) (hcells : ∀ n, cellsFrom n scope.names cl = (x, n) :: cl)
    (hnames : ∀ z ∈ scope.names, z.2 = .local → scope.names.lookup z.1 = some .local) (hx : (relabel scope env).names.lookup x = some .cell)
    (hy : env.kindOf y = some .local) (hp : (env.scope.kind == .class || (env.scope.kind == .module && env.locals != env.globals)) = false)
    (hsz : its.length ≤ sizeLine)
    (h : wpAny (model prog w) A (eval iter env) (fun xv s₁ => xv = .ref ax ∧ (∃ h₁ t₁, s₁ = { s with heap := h₁, toks := t₁ } ∧ Fr h₀ L h₁ m ∧ News h₀ L h₁ news)) E s)
    (hsrc : (ax, oa) ∈ news) (hoc : oa.cls = .type "list") (hod : ∃ n, oa.data = .seq its.toArray n)
    (helt : ∀ v I oI C oC K oK D ys h tk (E' : Value → Shared → Prop), v ∈ its → oK.data = .cell (some v) → Fr h₀ L h m → News h₀ L h ((I, oI) :: (C, oC) :: (K, oK) :: (D, lst ys) :: news) → Off4 I C K D news →
      (@Ne Nat I C) → (@Ne Nat I K) → (@Ne Nat I D) → (@Ne Nat C K) → (@Ne Nat C D) → (@Ne Nat K D) →
      wpAny (model prog w) A (eval elt (compEnvC scope ((x, K) :: cl) C env)) (fun y s' => ∃ h' tk', s' = { s with heap := h', toks := tk' } ∧ Fr h₀ L h' m ∧ News h₀ L h' ((I, oI) :: (C, oC) :: (K, oK) :: (D, lst ys) :: news) ∧ G v y) E' { s with heap := h, toks := tk })
    (done : ∀ D ys h tk, Paired G its ys → Fr h₀ L h (fun z => if z = y then some (.ref D) else m z) → News h₀ L h ((D, lst ys) :: news) → Off1 D news → Q .next { s with heap := h, toks := tk })
    (hs : ∀ x, foldedSetIterable iter env x = pure x := by intro _; rfl) :
    wpAny (model prog w) A (exec (.Assign [.Name y py] (.ListComp elt [⟨.Name x px, iter, [], 0⟩] scope pos) spos) env) Q E s := by
  subst hLe
  rw [exec_Assign_Name_used _ _ _ _ hsw]
  refine wpAny_bind (wpAny_standAt (wpAny_bind ?_))
  show wpAny _ A (do let _ ← comprehension (.ListComp elt [⟨.Name x px, iter, [], 0⟩] scope pos) scope env _ (newList []) false (eval iter env) (some (assign (.Name y py) env))) _ _ s
  refine wpAny_bind (wpAny_mono (wpAny_comprehension_free (use := some (assign (.Name y py) env)) (Q := fun _ s' => Q .next s') rfl hs hclos hkind hnames
    (wpAny_mono h (fun xv s₁ h₁ => ?_) fun _ _ e => e)) (fun _ s' hq => wpAny_pure (wpAny_pure hq)) fun _ _ e => e)
  obtain ⟨rfl, h₁, t₁, rfl, F, N⟩ := h₁
  have hoa := (N _ hsrc).1
  have hl : h₁.IsList ax its.toArray := by
    obtain ⟨n, e⟩ := hod
    exact ⟨oa, hoa, hoc, n, e⟩
  have hlt : ax < h₁.objs.size := Heap.lt_size hoa
  refine wpAny_pyIter_list (s := ⟨_, _, _, _, _⟩) hl ?_
  dsimp only
  have upI : ∀ b o, h₁.get? b = some o → (h₁.push { cls := .type "list_iterator", data := .fields #[.ref ax, .int 0 0] }).get? b = some o := fun b o e => Heap.get?_push_of_some _ e
  have hI1 : (h₁.push { cls := .type "list_iterator", data := .fields #[.ref ax, .int 0 0] }).get? h₁.objs.size = some { cls := .type "list_iterator", data := .fields #[.ref ax, .int 0 0] } := Heap.get?_push_size _ rfl
  refine wpAny_newObj_type (newEnv_cell hpush hcells ?_)
  dsimp only
  generalize hA : h₁.push { cls := .type "list_iterator", data := .fields #[.ref ax, .int 0 0] } = H1 at upI hI1 ⊢
  have s1 : H1.objs.size = h₁.objs.size + 1 := by rw [← hA, Heap.size_push]
  clear hA
  have up2 : ∀ b o, H1.get? b = some o → (H1.push { cls := .type "list", data := .seq ([] : List Value).toArray }).get? b = some o := fun b o e => Heap.get?_push_of_some _ e
  have hD2 : (H1.push { cls := .type "list", data := .seq ([] : List Value).toArray }).get? H1.objs.size = some (lst []) := Heap.get?_push_size _ rfl
  generalize hB : H1.push { cls := .type "list", data := .seq ([] : List Value).toArray } = H2 at up2 hD2 ⊢
  have s2 : H2.objs.size = h₁.objs.size + 1 + 1 := by rw [← hB, Heap.size_push, s1]
  clear hB
  have up3 : ∀ b o, H2.get? b = some o → (H2.push { cls := .type "dict", data := .dict #[] }).get? b = some o := fun b o e => Heap.get?_push_of_some _ e
  have hC3 : (H2.push { cls := .type "dict", data := .dict #[] }).Ns H2.objs.size (fun _ => none) := Heap.Ns.new H2 (.type "dict")
  generalize hC : H2.push { cls := .type "dict", data := .dict #[] } = H3 at up3 hC3 ⊢
  have s3 : H3.objs.size = h₁.objs.size + 1 + 1 + 1 := by rw [← hC, Heap.size_push, s2]
  clear hC
  have up4 : ∀ b o, H3.get? b = some o → (H3.push { cls := .type "cell", data := .cell none }).get? b = some o := fun b o e => Heap.get?_push_of_some _ e
  have hK4 : (H3.push { cls := .type "cell", data := .cell none }).IsCell H3.objs.size none := ⟨_, Heap.get?_push_size _ rfl, rfl⟩
  have hK3 : H3.objs.size = H2.objs.size + 1 := by rw [s3, s2]
  generalize hK : H3.push { cls := .type "cell", data := .cell none } = H4 at up4 hK4 ⊢
  have s4 : H4.objs.size = h₁.objs.size + 1 + 1 + 1 + 1 := by rw [← hK, Heap.size_push, s3]
  clear hK
  rw [← hK3]
  have up : ∀ b o, h₁.get? b = some o → H4.get? b = some o := fun b o e => up4 _ _ (up3 _ _ (up2 _ _ (upI _ _ e)))
  replace hI1 := up4 _ _ (up3 _ _ (up2 _ _ hI1))
  replace hD2 := up4 _ _ (up3 _ _ hD2)
  replace hC3 := hC3.keeps up4
  have hLn : env.locals < h₁.objs.size := F.ns.lt
  have hnew : ∀ a, h₁.objs.size ≤ a → h₀.get? a = none := fun a ha => by
    cases e : h₀.get? a with
    | none => rfl
    | some o' => exact absurd (Heap.lt_size (F.keep a o' e)) (Nat.not_lt.mpr ha)
  have hlow : ∀ p ∈ news, p.1 < h₁.objs.size := fun p hp => Heap.lt_size (N p hp).1
  generalize hn : h₁.objs.size = n at *
  generalize hIe : n = I at hI1 ⊢
  generalize hDe : H1.objs.size = D at hD2 s1 ⊢
  generalize hCe : H2.objs.size = C at hC3 s2 ⊢
  generalize hKe : H3.objs.size = K at hK4 s3 ⊢
  clear hDe hCe hKe hK3
  have nIC : (@Ne Nat I C) := by rw [s2, ← hIe]; omega
  have nIK : (@Ne Nat I K) := by rw [s3, ← hIe]; omega
  have nID : (@Ne Nat I D) := by rw [s1, ← hIe]; omega
  have nCK : (@Ne Nat C K) := by rw [s2, s3]; omega
  have nCD : (@Ne Nat C D) := by rw [s2, s1]; omega
  have nKD : (@Ne Nat K D) := by rw [s3, s1]; omega
  have gI : h₀.get? I = none := hnew I (by rw [hIe]; exact Nat.le_refl _)
  have gC : h₀.get? C = none := hnew C (by rw [s2]; exact Nat.le_add_right _ 2)
  have gD : h₀.get? D = none := hnew D (by rw [s1]; exact Nat.le_add_right _ 1)
  have gK : h₀.get? K = none := hnew K (by rw [s3]; exact Nat.le_add_right _ 3)
  have lI : I ≠ env.locals := by rw [← hIe]; exact Ne.symm (Nat.ne_of_lt hLn)
  have lC : C ≠ env.locals := by rw [s2]; exact Ne.symm (Nat.ne_of_lt (Nat.lt_of_lt_of_le hLn (Nat.le_add_right _ 2)))
  have lD : D ≠ env.locals := by rw [s1]; exact Ne.symm (Nat.ne_of_lt (Nat.lt_of_lt_of_le hLn (Nat.le_add_right _ 1)))
  have lK : K ≠ env.locals := by rw [s3]; exact Ne.symm (Nat.ne_of_lt (Nat.lt_of_lt_of_le hLn (Nat.le_add_right _ 3)))
  have off : Off4 I C K D news := fun p hp => by
    have := hlow p hp
    refine ⟨?_, ?_, ?_, ?_⟩
    · rw [← hIe]; exact Nat.ne_of_lt this
    · rw [s2]; exact Nat.ne_of_lt (Nat.lt_of_lt_of_le this (Nat.le_add_right _ 2))
    · rw [s3]; exact Nat.ne_of_lt (Nat.lt_of_lt_of_le this (Nat.le_add_right _ 3))
    · rw [s1]; exact Nat.ne_of_lt (Nat.lt_of_lt_of_le this (Nat.le_add_right _ 1))
  have axI : ax ≠ I := by rw [← hIe]; exact Nat.ne_of_lt hlt
  have axC : ax ≠ C := (off _ hsrc).2.1
  have axK : ax ≠ K := (off _ hsrc).2.2.1
  have axD : ax ≠ D := (off _ hsrc).2.2.2
  have F4 : Fr h₀ env.locals H4 m := F.keeps up
  have N4 : News h₀ env.locals H4 news := N.grown up
  have W : Walks prog w A I [I, ax] [I] its.toArray.size (fun i v => its.toArray[i]? = some v) (fun i h => h.IsListIter I ax i ∧ h.IsList ax its.toArray) := Walks.list hh I ax axI its.toArray
  have hitr : H4.IsListIter I ax 0 := ⟨_, hI1, rfl, rfl⟩
  have hl4 : H4.IsList ax its.toArray := hl.at fun o e => up _ _ e
  clear hI1 up up2 up3 up4 upI hl F N hIe s1 s2 s3 s4 hnew hlow hLn hlt hoa hn
  generalize hce : compEnvC scope ((x, K) :: cl) C env = cenv
  have loop : ∀ s₃ : Shared, s₃ = { s with heap := H4, toks := t₁ } → codeAny (model prog w) A (.compLoop (.ListComp elt [⟨.Name x px, iter, [], 0⟩] scope pos) 0 (.ref I) (.ref D) cenv)
      (compPost (model prog w) A E (some (assign (.Name y py) env)) (fun _ s' => Q .next s') (.ref D) C) s₃ := by
    rintro s₃ rfl
    refine codeAny_compLoop_tests
      (fun k s' => ∃ h' tk i ys m' ov, s' = { s with heap := h', toks := tk } ∧ i ≤ its.length ∧ k = its.length + 1 - i ∧ Paired G (its.take i) ys ∧ (h'.IsListIter I ax i ∧ h'.IsList ax its.toArray) ∧ Fr h₀ env.locals h' m ∧ h'.Ns C m' ∧ h'.IsCell K ov ∧
        News h₀ env.locals h' ((D, lst ys) :: news)) ?_ (its.length + 1)
      ⟨H4, _, 0, [], _, none, rfl, Nat.zero_le _, rfl, .nil, ⟨hitr, hl4⟩, F4, hC3, hK4, fun p hp => ?_⟩
    · rintro k s' ⟨h', tk, i, ys, m', ov, rfl, hi, rfl, hP, hst', F', hn', hcell', N'⟩
      by_cases hlt : i < its.length
      · refine W.item i _ _ _ (by simpa using hlt) hst' fun v h₂ tk₂ hPv hst₂ hk₂ => ?_
        have hk2 : ∀ b o, b ≠ I → h'.get? b = some o → h₂.get? b = some o := fun b o hb e => hk₂ b o (by simpa using hb) e
        have F2 : Fr h₀ env.locals h₂ m := fr_but F' hk₂ (Ne.symm lI) gI
        have N2 : News h₀ env.locals h₂ ((D, lst ys) :: news) := news_but N' hk₂ fun p hp => by
          rcases List.mem_cons.mp hp with rfl | hp
          · exact Ne.symm nID
          · exact (off p hp).1
        have hn2 : h₂.Ns C m' := hn'.at' fun o e => hk2 _ o (Ne.symm nIC) e
        have hc2 : h₂.IsCell K ov := by
          obtain ⟨o, e, d⟩ := hcell'
          exact ⟨o, hk2 _ o (Ne.symm nIK) e, d⟩
        have hv : its[i]? = some v := by simpa using hPv
        have hvm : v ∈ its := List.mem_of_getElem? hv
        subst hce
        refine wpAny_assign_Name (wpAny_storeName_cell (c := K) (by simp [compEnvC, relabel, hkind]) hx (by simp [compEnvC]) hc2 fun h₃ hc₃ hs₃ => ?_)
        refine wpAny_tests_nil ?_
        simp only [if_true]
        obtain ⟨oI, heI, _⟩ := id (hst₂.1.at fun o e => hs₃.extBut I o nIK e)
        obtain ⟨oC, heC, hoC⟩ := ns_obj (hn2.sameBut hs₃ nCK)
        obtain ⟨oK, heK, hoK⟩ := hc₃
        have F3 : Fr h₀ env.locals h₃ m := F2.change hs₃ lK gK
        have N3 : News h₀ env.locals h₃ ((I, oI) :: (C, oC) :: (K, oK) :: (D, lst ys) :: news) := fun p hp => by
          rcases List.mem_cons.mp hp with rfl | hp
          · exact ⟨heI, lI, gI⟩
          rcases List.mem_cons.mp hp with rfl | hp
          · exact ⟨heC, lC, gC⟩
          rcases List.mem_cons.mp hp with rfl | hp
          · exact ⟨heK, lK, gK⟩
          refine ⟨hs₃.extBut _ _ ?_ (N2 p hp).1, (N2 p hp).2⟩
          rcases List.mem_cons.mp hp with rfl | hp
          · exact Ne.symm nKD
          · exact (off p hp).2.2.1
        refine wpAny_mono (helt v I oI C oC K oK D ys h₃ _ _ hvm hoK F3 N3 off nIC nIK nID nCK nCD nKD) (fun y s₄ h₄ => ?_) fun _ _ e => e
        obtain ⟨h₄, tk₄, rfl, F₄, N₄, hG⟩ := h₄
        have zI := (N₄ (I, oI) (.head _)).1
        have zC := (N₄ (C, oC) (.tail _ (.head _))).1
        have zK := (N₄ (K, oK) (.tail _ (.tail _ (.head _)))).1
        have zD := (N₄ (D, lst ys) (.tail _ (.tail _ (.tail _ (.head _))))).1
        have N₅ : News h₀ env.locals h₄ ((D, lst ys) :: news) := fun p hp => N₄ p (.tail _ (.tail _ (.tail _ hp)))
        have hst3 : h₃.IsListIter I ax (i + 1) ∧ h₃.IsList ax its.toArray := ⟨hst₂.1.at fun o e => hs₃.extBut I o nIK e, hst₂.2.at fun o e => hs₃.extBut ax o axK e⟩
        have zA : h₄.IsList ax its.toArray := by
          obtain ⟨n, e⟩ := hod
          exact ⟨oa, (N₅ (ax, oa) (.tail _ hsrc)).1, hoc, n, e⟩
        have zIt : h₄.IsListIter I ax (i + 1) := hst3.1.at fun o e => by rw [heI] at e; cases e; exact zI
        refine append_at (s := ⟨_, _, _, _, _⟩) (hsz := by have := paired_len hP; rw [List.length_take] at this; show ys.toArray.size ≤ sizeLine; rw [List.size_toArray]; omega) zD fun h₅ hs₅ hD₅ => ?_
        refine ⟨its.length + 1 - (i + 1), by omega, h₅, tk₄, i + 1, ys ++ [y], _, some v, rfl, hlt, rfl, ?_, ⟨zIt.at fun o e => hs₅.extBut I o nID e, zA.at fun o e => hs₅.extBut ax o axD e⟩, F₄.change hs₅ lD gD,
          (hoC.ns zC).sameBut hs₅ nCD, ⟨oK, hs₅.extBut _ _ nKD zK, hoK⟩, fun p hp => ?_⟩
        · rw [List.take_add_one, hv]
          exact hP.snoc hG
        · rcases List.mem_cons.mp hp with rfl | hp
          · exact ⟨hD₅.trans (congrArg some (lst_snoc ys y)), lD, gD⟩
          · exact ⟨hs₅.extBut _ _ (off p hp).2.2.2 (N₅ p (.tail _ hp)).1, (N₅ p (.tail _ hp)).2⟩
      · obtain rfl : i = its.length := Nat.le_antisymm hi (Nat.not_lt.mp hlt)
        rw [List.take_length] at hP
        refine W.done _ _ _ (by simpa using hst') fun h₂ tk₂ hk₂ => ?_
        have F2 : Fr h₀ env.locals h₂ m := fr_but F' hk₂ (Ne.symm lI) gI
        have N2 : News h₀ env.locals h₂ ((D, lst ys) :: news) := news_but N' hk₂ fun p hp => by
          rcases List.mem_cons.mp hp with rfl | hp
          · exact Ne.symm nID
          · exact (off p hp).1
        have hn2 : h₂.Ns C m' := hn'.at' fun o e => hk₂ _ o (by simpa using Ne.symm nIC) e
        show wpAny _ A (assign (.Name y py) env (.ref D)) _ _ _
        refine wpAny_assign_Name (wpAny_storeName_local hy F2.ns (fun h₆ hn₆ hs₆ => ?_) hp)
        have hL₀ : h₀.get? env.locals = none := Heap.get?_none_of_le F2.above
        have F₆ : Fr h₀ env.locals h₆ (fun z => if z = y then some (.ref D) else m z) := ⟨hn₆, fun b o e => hs₆.extBut b o (fun q => by rw [q, hL₀] at e; cases e) (F2.keep b o e), F2.above⟩
        refine ⟨m', hn2.sameBut hs₆ lC, fun h'' hs'' => done D ys h'' _ hP (F₆.change hs'' lC gC) (fun p hp => ?_) ?_⟩
        · have z : h₆.get? p.1 = some p.2 := hs₆.extBut _ _ (N2 p hp).2.1 (N2 p hp).1
          refine ⟨hs''.extBut _ _ ?_ z, (N2 p hp).2⟩
          rcases List.mem_cons.mp hp with rfl | hp
          · exact Ne.symm nCD
          · exact (off p hp).2.1
        · exact offOne_of fun p hp => (off p hp).2.2.2
    · rcases List.mem_cons.mp hp with rfl | hp
      · exact ⟨hD2, lD, gD⟩
      · exact N4 p hp
  subst hce
  exact codeAny_compStart_list (loop _ rfl) (W.self 0 _ _ _ ⟨hitr, hl4⟩ (loop _ rfl))
end
end
local macro_rules | `(tactic| walk_at "gop") => `(tactic| repeat ((fail_if_success (with_reducible show wpAny _ _ (exec (Stmt.While _ _ _ _) _) _ _ _)); (fail_if_success (with_reducible show wpAny _ _ (exec (Stmt.For _ _ _ _ _) _) _ _ _)); (fail_if_success (with_reducible show wpAny _ _ (binaryOp Operator.Pow _ _) _ _ _)); (fail_if_success (with_reducible show wpAny _ _ (binaryOp Operator.Mult _ _) _ _ _)); (fail_if_success (with_reducible show wpAny _ _ (call (Value.ref _) _) _ _ _)); (fail_if_success (with_reducible show wpAny _ _ (subscriptTail _ _ _ (Value.ref _)) _ _ _)); walk1; try dsimp only))
section -- ZL5
theorem offZL5 : True := by
  w_top off
  trivial
set_option maxRecDepth 100000
set_option maxHeartbeats 1000000
theorem ints_mem : ∀ {fs : List Value} {ks : List Int}, IntsAre fs ks → ∀ v ∈ fs, ∃ k t, v = .int k t ∧ k ∈ ks
  | _, _, .nil, v, hv => nomatch hv
  | _, _, .cons k t h, v, hv => by
    rcases List.mem_cons.mp hv with rfl | hv
    · exact ⟨k, t, rfl, .head _⟩
    · obtain ⟨k', t', e, hk⟩ := ints_mem h v hv
      exact ⟨k', t', e, .tail _ hk⟩
theorem bits64 {k : Int} (h : 0 ≤ k ∧ k ≤ 31) : Builtin.Int.intBits k ≤ 64 := by
  refine Nat.le_trans (intBits_le_iff.mpr ?_) (by decide : 5 ≤ 64)
  omega
theorem apF_len : ∀ (f n : Nat) (acc : List UInt8), (apF f n acc).length ≤ f + acc.length
  | 0, _, acc => by simp [apF]
  | f + 1, n, acc => by
    unfold apF
    split
    · omega
    · have := apF_len f (n / 16) ((65 + n % 16).toUInt8 :: acc)
      simp only [List.length_cons] at this
      omega
theorem ap_len (n : Nat) : (ap n).length ≤ 64 := by have := apF_len 64 n []; simpa [ap] using this
/-- the number of a word -/
def wordN (v : Int) (ns : List Int) (k : Int) : Int := -16 ^ v.toNat - (ns.map fun x => 16 ^ ((k * x).fmod v).toNat).sum
/-- the word of a multiple -/
def wordOf (v : Int) (ns : List Int) (k : Int) : Array UInt8 := KBy.picked (ap (wordN v ns k).natAbs).toArray (some 1) none
theorem pow_sum_le {v : Int} (hv0 : 7 ≤ v) (hv1 : v ≤ 31) (k : Int) : ∀ ns : List Int, 0 ≤ (ns.map fun x => (16 : Int) ^ ((k * x).fmod v).toNat).sum ∧ (ns.map fun x => (16 : Int) ^ ((k * x).fmod v).toNat).sum ≤ ns.length * 16 ^ 31
  | [] => by simp
  | x :: r => by
    have ih := pow_sum_le hv0 hv1 k r
    simp only [List.map_cons, List.sum_cons, List.length_cons]
    have hm1 : (k * x).fmod v < v := by rw [Int.fmod_eq_emod_of_nonneg _ (by omega)]; exact Int.emod_lt_of_pos _ (by omega)
    have h1 : (16 : Int) ^ ((k * x).fmod v).toNat ≤ 16 ^ 31 := by
      have : (16 : Nat) ^ ((k * x).fmod v).toNat ≤ 16 ^ 31 := Nat.pow_le_pow_right (by omega) (by omega)
      exact_mod_cast this
    have h0 : (0 : Int) ≤ 16 ^ ((k * x).fmod v).toNat := Int.pow_nonneg (by decide)
    generalize (16 : Int) ^ ((k * x).fmod v).toNat = z at *
    generalize (List.map (fun x => (16 : Int) ^ ((k * x).fmod v).toNat) r).sum = y at *
    have e : ((r.length + 1 : Nat) : Int) * 16 ^ 31 = r.length * 16 ^ 31 + 16 ^ 31 := by push_cast; rw [Int.add_mul, Int.one_mul]
    rw [e]
    generalize ((r.length : Nat) : Int) * 16 ^ 31 = b at *
    generalize (16 : Int) ^ 31 = c at *
    omega
theorem word_lt {v : Int} {ns : List Int} {k : Int} (hnl : ns.length ≤ 6) (hv0 : 7 ≤ v) (hv1 : v ≤ 31) : (-16 ^ v.toNat - (ns.map fun x => (16 : Int) ^ ((k * x).fmod v).toNat).sum).natAbs < 16 ^ 64 := by
  have h := pow_sum_le hv0 hv1 k ns
  have h1 : (16 : Int) ^ v.toNat ≤ 16 ^ 31 := by
    have : (16 : Nat) ^ v.toNat ≤ 16 ^ 31 := Nat.pow_le_pow_right (by omega) (by omega)
    exact_mod_cast this
  have h0 : (0 : Int) ≤ 16 ^ v.toNat := Int.pow_nonneg (by decide)
  have h2 : (ns.length : Int) * 16 ^ 31 ≤ 6 * 16 ^ 31 := Int.mul_le_mul_of_nonneg_right (by omega) (by decide)
  have h3 : (7 : Int) * 16 ^ 31 < 16 ^ 64 := by decide
  have h4 : ((16 ^ 64 : Nat) : Int) = 16 ^ 64 := by decide
  have h5 : (7 : Int) * 16 ^ 31 = 6 * 16 ^ 31 + 16 ^ 31 := by decide
  generalize (16 : Int) ^ v.toNat = z at *
  generalize (List.map (fun x => (16 : Int) ^ ((k * x).fmod v).toNat) ns).sum = y at *
  rw [← Int.ofNat_lt, h4]
  rw [h5] at h3
  generalize (16 : Int) ^ 31 = c at *
  generalize (16 : Int) ^ 64 = d at *
  generalize (ns.length : Int) * c = e at *
  generalize (6 : Int) * c = f at *
  omega
theorem unpin2 {h₀ h : Heap} {L : Addr} {m : Str → Option Value} {x y : Str} {v u : Value} (F : Fr h₀ L h (fun z => if z = y then some u else if z = x then some v else m z)) (e : m x = some v) : Fr h₀ L h (fun z => if z = y then some u else m z) := by
  have q : (fun z => if z = y then some u else if z = x then some v else m z) = (fun z => if z = y then some u else m z) := by
    funext z
    by_cases h1 : z = y
    · rw [if_pos h1, if_pos h1]
    · rw [if_neg h1, if_neg h1]
      by_cases h2 : z = x
      · rw [if_pos h2, h2, e]
      · rw [if_neg h2]
  rw [q] at F; exact F
theorem law5 (w : World) {prog p : Program} {loose : List Str} {mean : ExcName → Option Value} {mg mb : Str → Option Value} {A₀ : Around} {base g : Heap} {L fa V W' : Addr} {ccd : Value} {s : Shared} {Q : Flow → Shared → Prop} {o1 o2 o3 o4 o5 o6 o7 o8 : Obj} {h : Heap} {tk : Nat} {m : Str → Option Value}
    {ls : List Value} {ns : List Int} {f0 f1 f2 : Int} {ta tb tc : Tok} {rest : List (Addr × Obj)} {vv : Int} {t2 : Tok}
    (B : Below A₀ base [] g) (X : (Mine.hd.heap_39 w.params).In g) (T : Top p loose mean mg mb g) (hls : IntsAre ls ns) (hnl : ns.length ≤ 6) (hnb : ∀ x ∈ ns, 0 ≤ x ∧ x ≤ 31) (hkb : ∀ k ∈ [f0, f1, f2], 0 ≤ k ∧ k ≤ 31) (hv0 : 7 ≤ vv) (hv1 : vv ≤ 31)
    (F : Fr g L h m) (hm : m (Str.ofString "factors") = some (.ref W')) (N : News g L h ((W', W.listOf #[.int f0 ta, .int f1 tb, .int f2 tc] 0) :: (V, LCg.lst ls) :: lawNews L o1 o2 o3 o4 o5 o6 o7 o8 rest))
    (d3 : o3.data = .cell (some (.int vv t2))) (d5 : o5.data = .cell (some (.ref V)))
    (next : ∀ (D : Addr) (ua ub uc : Tok) (h' : Heap) (tk' : Nat), Fr g L h' (fun y => if y = Str.ofString "words" then some (.ref D) else m y) →
      News g L h' ((D, LCg.lst [.bytes (wordOf vv ns f0) ua, .bytes (wordOf vv ns f1) ub, .bytes (wordOf vv ns f2) uc]) :: (W', W.listOf #[.int f0 ta, .int f1 tb, .int f2 tc] 0) :: (V, LCg.lst ls) :: lawNews L o1 o2 o3 o4 o5 o6 o7 o8 rest) →
      LCg.Off1 D ((W', W.listOf #[.int f0 ta, .int f1 tb, .int f2 tc] 0) :: (V, LCg.lst ls) :: lawNews L o1 o2 o3 o4 o5 o6 o7 o8 rest) → LawAt w prog L fa ccd Q 6 { s with heap := h', toks := tk' }) :
    LawAt w prog L fa ccd Q 5 { s with heap := h, toks := tk } := by
  unfold LawAt at next ⊢
  have es : lawScope w = lawScope w := rfl
  conv at es => rhs; whnf
  rw [es] at next ⊢
  clear es
  have F1 := pinF F hm
  clear F
  refine consA ?_
  k_fold
  dsimp only [lawNews] at N
  refine compCell (its := [.int f0 ta, .int f1 tb, .int f2 tc]) (ax := W') (oa := W.listOf #[.int f0 ta, .int f1 tb, .int f2 tc] 0) (G := fun a b => ∃ k t t', a = .int k t ∧ b = .bytes (wordOf vv ns k) t') F1 N (rfl) (by rfl) (by with_unfolding_all rfl) (by rfl) (by rfl) (by intro h; rfl) (by intro n; rfl) (by decide) (by rfl) (by rfl) (by rfl) ?hsz ?hiter (.head _) rfl ⟨0, rfl⟩ ?helt ?done
  case hsz => have : 1000 ≤ sizeLine := by decide +kernel
              exact Nat.le_trans (by simp) this
  case hiter =>
    walk_at "gol"
    all_goals first | exact F1 | exact N
  case done =>
    intro D ys h9 tk9 hP F9 N9 o9
    rcases hP with _ | ⟨g0, _ | ⟨g1, _ | ⟨g2, _ | _⟩⟩⟩
    obtain ⟨_, _, ua, e, rfl⟩ := g0
    cases e
    obtain ⟨_, _, ub, e, rfl⟩ := g1
    cases e
    obtain ⟨_, _, uc, e, rfl⟩ := g2
    cases e
    k_unfold
    exact ⟨rfl, next D ua ub uc _ _ (unpin2 F9 hm) N9 o9⟩
  case helt =>
    clear N F1
    intro v I oI C oC K oK D ys h2 tk2 E' hv hK F1 N off nIC nIK nID nCK nCD nKD
    obtain ⟨k, tk, rfl, hk⟩ := ints_mem (ks := [f0, f1, f2]) (.cons _ _ (.cons _ _ (.cons _ _ .nil))) v hv
    simp only [List.forall_mem_cons] at off
    obtain ⟨⟨w1, w2, w3, w4⟩, ⟨v1, v2, v3, v4⟩, ⟨a8, b8, c8, e8⟩, ⟨a7, b7, c7, e7⟩, ⟨a6, b6, c6, e6⟩, ⟨a5, b5, c5, e5⟩, ⟨a4, b4, c4, e4⟩, ⟨a3, b3, c3, e3⟩, ⟨a2, b2, c2, e2⟩, ⟨a1, b1, c1, e1⟩, offr⟩ := off
    dsimp only at *
    walk_at "gol"
    · rename _ ∈ ns => hxn
      rename Int => k'
      refine mul_int ?_ (IntMulOk.of_left (bits64 (hkb _ hk)))
      walk_at "gop"
      have hm0 : 0 ≤ (k * k').fmod vv := by rw [Int.fmod_eq_emod_of_nonneg _ (by omega)]; exact Int.emod_nonneg _ (by omega)
      have hm1 : (k * k').fmod vv < vv := by rw [Int.fmod_eq_emod_of_nonneg _ (by omega)]; exact Int.emod_lt_of_pos _ (by omega)
      refine pow_int_small hm0 (by omega) (by decide) ?_
      clear hm0 hm1
      walk_at "gop"
    walk_at "gol"
    rename Fr _ _ _ _ => F9
    rename News _ _ _ _ => N9
    refine (int2ap_con w _ _ ?hlt).use B F9 X N9 T rfl (by decide) (by decide) True.intro ?_
    case hlt => exact word_lt hnl hv0 hv1
    rintro v own h3 tk3 ⟨rfl, t3, rfl⟩ F10 N10 _
    simp only [List.nil_append] at N10
    dsimp only at *
    walk_at "gol"
    refine KBc.slice_K (s := ⟨_, _, _, _, _⟩) F10 N10 rfl (by constructor) (by constructor) ?hz ?_
    case hz => rw [KBw.ints_length, List.size_toArray]; exact Nat.le_trans (ap_len _) (by decide)
    intro h4 t4 k4 F4 N4 _
    k_unfold
    refine ⟨h4, _, rfl, F4, fun q hq => N4 q (.tail _ hq), ?_⟩
    exact ⟨k, tk, t4, rfl, rfl⟩
end
section -- ZJn
theorem offZJn : True := by
  w_top off
  trivial
open PySem.Builtin
set_option maxRecDepth 100000
theorem slot_bytes_join : Slot "bytes" "join" "bytes.join" :=
  .of (owner := "bytes") (n := "join") (by rw [typeLookup_type, builtinLookup_eq_fast]; kernel_rfl) (by decide +kernel) (by decide +kernel) (by decide +kernel)
    (by first | exact .inl (by decide +kernel) | exact .inr (by decide +kernel)) (by rw [isSubtype_type]; kernel_rfl)
theorem entry_bytes_join : entryFor table "bytes.join" = some Builtin.«bytes.join» := entryFor_of_tree (by kernel_rfl)
theorem args_bytes_join (a b : Value) : argsOk "bytes.join" ⟨[a, b], []⟩ := by unfold argsOk; kernel_rfl
theorem takeQuiet_eq {id : String} {b : Array UInt8} {t : Tok} : Bytes.takeBufferQuiet? id (.bytes b t) 0 = pure (some (b, none)) := by
  unfold Bytes.takeBufferQuiet? Bytes.takeBuffer?
  rw [KBy.special_eq KBy.look_buffer, KBy.own_buffer]
  have e0 : ((0 : Int) == Bytes.fullReadOnly) = false := by decide +kernel
  simp only [pure_bind, e0, KBy.buffer_eq]
  kernel_rfl
section
variable {M : Model} {A : Around} {E : Value → Shared → Prop} {s : Shared}
theorem seqItems_wp {D : Addr} {o : Obj} {xs : Array Value} {n : Nat} {Q : Option (Array Value) → Shared → Prop} (ho : s.heap.get? D = some o) (hd : o.data = .seq xs n) (h : Q (some xs) s) : wpAny M A (seqItems? (.ref D)) Q E s := by
  unfold seqItems?
  refine wpAny_bind (wpAny_load ho ?_)
  rw [hd]
  exact wpAny_pure h
end
theorem joined3 (a b c : Array UInt8) : Bytes.joined #[] [a, b, c] = a ++ b ++ c := by
  simp [Bytes.joined, List.zipIdx]
theorem joinLet_wp {M : Model} {A : Around} {E : Value → Shared → Prop} {s : Shared} {keep : List Value} {Q : Unit → Shared → Prop} : ∀ {taken : List (Value × Option Value)}, (∀ x ∈ taken, x.2 = none) → Q () s → wpAny M A (Bytes.joinLetGo taken keep) Q E s
  | [], _, h => wpAny_pure h
  | (x, w) :: r, hx, h => by
    obtain rfl : w = none := hx _ (.head _)
    unfold Bytes.joinLetGo
    exact wpAny_bind (wpAny_letGo (joinLet_wp (fun y hy => hx y (.tail _ hy)) h))
theorem join3 {b0 b1 b2 e : Array UInt8} {t t0 t1 t2 : Tok} {D : Addr} (he : e = #[]) (hsz : b0.size + b1.size + b2.size ≤ 1000) :
    Meets («bytes.join» ⟨[.bytes e t, .ref D], []⟩) (fun _ R s => s.heap.get? D = some (LCg.lst [.bytes b0 t0, .bytes b1 t1, .bytes b2 t2]) ∧ ∀ t' k, R (.ok (.ret (.bytes (b0 ++ b1 ++ b2) t'))) { s with toks := k }) := by
  subst he
  refine .of_wp fun prog w A R s hS => ?_
  obtain ⟨ho, h⟩ := hS
  show wpAny _ _ (Bytes.joinItems (.ref D) >>= fun seq => _) _ _ s
  refine wpAny_bind ?_
  unfold Bytes.joinItems
  refine wpAny_bind (wpAny_typeOf (T := "list") ⟨_, ho, rfl⟩ ?_)
  refine wpAny_pure ?_
  refine wpAny_bind (seqItems_wp ho rfl ?_)
  show wpAny _ _ (forIn [0:3] _ _ >>= fun r => _) _ _ s
  refine wpAny_bind ?_
  rw [Std.Legacy.Range.forIn_eq_forIn_range']
  have e2 : List.range' [0:3].start [0:3].size [0:3].step = [0, 1, 2] := by decide +kernel
  rw [e2]
  simp only [List.forIn_cons, List.forIn_nil]
  refine wpAny_bind (wpAny_bind (seqItems_wp ho rfl ?_))
  refine wpAny_ite (KBy.ite_no (by decide +kernel) ?_)
  refine wpAny_bind (wpAny_holding (wpAny_of_eq (takeQuiet_eq (b := b0) (t := t0)) ?_))
  refine wpAny_bind (seqItems_wp ho rfl ?_)
  refine wpAny_ite (KBy.ite_no (by simp) (wpAny_pure ?_))
  refine wpAny_bind (wpAny_bind (seqItems_wp ho rfl ?_))
  refine wpAny_ite (KBy.ite_no (by simp [Value.onHeap]) ?_)
  refine wpAny_bind (wpAny_holding (wpAny_of_eq (takeQuiet_eq (b := b1) (t := t1)) ?_))
  refine wpAny_bind (seqItems_wp ho rfl ?_)
  refine wpAny_ite (KBy.ite_no (by simp) (wpAny_pure ?_))
  refine wpAny_bind (wpAny_bind (seqItems_wp ho rfl ?_))
  refine wpAny_ite (KBy.ite_no (by simp [Value.onHeap]) ?_)
  refine wpAny_bind (wpAny_holding (wpAny_of_eq (takeQuiet_eq (b := b2) (t := t2)) ?_))
  refine wpAny_bind (seqItems_wp ho rfl ?_)
  refine wpAny_ite (KBy.ite_no (by simp) (wpAny_pure ?_))
  refine wpAny_pure ?_
  refine wpAny_bind (wpAny_pure ?_)
  refine wpAny_ite (KBy.ite_no ?tl ?_)
  case tl =>
    rw [KBy.tooLong_not]
    · exact Bool.false_ne_true
    · simp
      omega
  refine wpAny_bind ?_
  show wpAny _ _ (mkBytes (Bytes.joined #[] [b0, b1, b2])) _ _ s
  rw [joined3]
  refine wpAny_mkBytes ?_ ?_
  · refine wpAny_bind (wpAny_holding (wpAny_point ?_))
    refine wpAny_bind ?_
    show wpAny _ _ (Bytes.joinLetGo [(_, none), (_, none), (_, none)] _) _ _ _
    refine joinLet_wp (by simp) ?_
    exact wpAny_pure ⟨_, rfl, h _ _⟩
  · have : 1000 ≤ sizeLine := by decide +kernel
    simp
    omega
theorem slot_bytes_count : Slot "bytes" "count" "bytes.count" :=
  .of (owner := "bytes") (n := "count") (by rw [typeLookup_type, builtinLookup_eq_fast]; kernel_rfl) (by decide +kernel) (by decide +kernel) (by decide +kernel)
    (by first | exact .inl (by decide +kernel) | exact .inr (by decide +kernel)) (by rw [isSubtype_type]; kernel_rfl)
theorem entry_bytes_count : entryFor table "bytes.count" = some Builtin.«bytes.count» := entryFor_of_tree (by kernel_rfl)
theorem args_bytes_count (a b : Value) : argsOk "bytes.count" ⟨[a, b], []⟩ := by unfold argsOk; kernel_rfl
theorem type_bytes_count : typeOf (.builtin "bytes.count") = pure (.type "method_descriptor") := by show builtinType _ = _; rw [builtinType_eq_fast]; kernel_rfl
theorem method_count {prog : Program} {w : World} {A : Around} {E : Value → Shared → Prop} {s : Shared} {b : Array UInt8} {t : Tok} {imp : Sem Bool} {Q : Value × List Value → Shared → Prop} (h : Q (.builtin "bytes.count", [.bytes b t]) s) : wpAny (model prog w) A (getMethod (.bytes b t) "count" imp) Q E s := by
  with_reducible exact KBd.method_of (.bytes b t) (typeIs_bytes _ _ _) slot_bytes_count type_bytes_count KBd.noRef h
theorem search_eq {b : Array UInt8} {c : UInt8} {t u : Tok} (hb : 0 < b.size) : Bytes.searchArgs .bytes "count" ⟨[.bytes b t, .bytes #[c] u], []⟩ = pure (b, #[c], some (0, b.size)) := by
  have e : Bytes.searchArgs .bytes "count" ⟨[.bytes b t, .bytes #[c] u], []⟩ = (Bytes.buffer? "bytes.count" (.bytes #[c] u) >>= fun r => match r with
    | some x => pure (b, x, if (Bytes.window b.size none none).2 - (Bytes.window b.size none none).1 < x.size then none else some ((Bytes.window b.size none none).1.toNat, (Bytes.window b.size none none).2.toNat))
    | none => _) := rfl
  rw [e, KBy.buffer_eq]
  simp only [pure_bind]
  congr 3
  rw [if_neg]
  · simp [Bytes.window]
    rw [if_neg (by omega)]
    omega
  · simp [Bytes.window]
    omega
theorem count_meets {b : Array UInt8} {c : UInt8} {t u : Tok} (hb : 0 < b.size) :
    Meets («bytes.count» ⟨[.bytes b t, .bytes #[c] u], []⟩) (fun _ R s => ∀ t' k, R (.ok (.ret (.int (Bytes.occurrences b #[c] 0 b.size).length t'))) { s with toks := k }) := by
  refine .of_wp fun prog w A R s h => ?_
  show wpAny _ _ (Bytes.searchArgs .bytes "count" ⟨[.bytes b t, .bytes #[c] u], []⟩ >>= fun r => _) _ _ s
  refine wpAny_bind (wpAny_of_eq (search_eq hb) ?_)
  show wpAny _ _ (if (#[c] : Array UInt8).isEmpty = true then _ else _) _ _ s
  refine wpAny_ite (KBy.ite_no (by simp) ?_)
  show wpAny _ _ (mkInt _ >>= fun v => ret v) _ _ s
  exact wpAny_bind (wpAny_mkInt (wpAny_pure ⟨_, rfl, h _ _⟩))
theorem bytesCount {prog : Program} {w : World} {A : Around} {E : Value → Shared → Prop} {s : Shared} {b : Array UInt8} {c : UInt8} {t u : Tok} {Q : Value → Shared → Prop} (hb : 0 < b.size) (h : ∀ t' k, Q (.int (Bytes.occurrences b #[c] 0 b.size).length t') { s with toks := k }) :
    wpAny (model prog w) A (call (.builtin "bytes.count") [.bytes b t, .bytes #[c] u]) Q E s :=
  call_meets slot_bytes_count (typeIs_bytes _ _ _) entry_bytes_count (args_bytes_count _ _) (count_meets hb) h
theorem type_bytes_join : typeOf (.builtin "bytes.join") = pure (.type "method_descriptor") := by show builtinType _ = _; rw [builtinType_eq_fast]; kernel_rfl
theorem method_join {prog : Program} {w : World} {A : Around} {E : Value → Shared → Prop} {s : Shared} {b : Array UInt8} {t : Tok} {imp : Sem Bool} {Q : Value × List Value → Shared → Prop} (h : Q (.builtin "bytes.join", [.bytes b t]) s) : wpAny (model prog w) A (getMethod (.bytes b t) "join" imp) Q E s := by
  with_reducible exact KBd.method_of (.bytes b t) (typeIs_bytes _ _ _) slot_bytes_join type_bytes_join KBd.noRef h
theorem joinStr3 {prog : Program} {w : World} {A : Around} {E : Value → Shared → Prop} {s : Shared} {b0 b1 b2 e : Array UInt8} {t t0 t1 t2 : Tok} {D : Addr} {Q : Value → Shared → Prop} (he : e = #[]) (hsz : b0.size + b1.size + b2.size ≤ 1000)
    (ho : s.heap.get? D = some (LCg.lst [.bytes b0 t0, .bytes b1 t1, .bytes b2 t2])) (h : ∀ t' k, Q (.bytes (b0 ++ b1 ++ b2) t') { s with toks := k }) :
    wpAny (model prog w) A (call (.builtin "bytes.join") [.bytes e t, .ref D]) Q E s :=
  call_meets slot_bytes_join (typeIs_bytes _ _ _) entry_bytes_join (args_bytes_join _ _) (join3 he hsz) ⟨ho, h⟩
end
local macro_rules | `(tactic| walk_at "god") => `(tactic| repeat ((fail_if_success (with_reducible show wpAny _ _ (exec (Stmt.While _ _ _ _) _) _ _ _)); (fail_if_success (with_reducible show wpAny _ _ (exec (Stmt.For _ _ _ _ _) _) _ _ _)); (fail_if_success (with_reducible show wpAny _ _ (call (Value.builtin _) _) _ _ _)); (fail_if_success (with_reducible show wpAny _ _ (call (Value.ref _) _) _ _ _)); (fail_if_success (with_reducible show wpAny _ _ (getMethod (Value.bytes _ _) _ _) _ _ _)); (fail_if_success (with_reducible show wpAny _ _ (subscriptTail _ _ _ (Value.ref _)) _ _ _)); walk1; try dsimp only))
section -- ZL6
theorem offZL6 : True := by
  w_top off
  trivial
set_option maxRecDepth 100000
set_option maxHeartbeats 1000000
/-- the ledger behind the words -/
abbrev newsW (L WD W' V : Addr) (w0 w1 w2 : Array UInt8) (ua ub uc : Tok) (f0 f1 f2 : Int) (ta tb tc : Tok) (ls : List Value) (o1 o2 o3 o4 o5 o6 o7 o8 : Obj) (rest : List (Addr × Obj)) : List (Addr × Obj) :=
  (WD, LCg.lst [.bytes w0 ua, .bytes w1 ub, .bytes w2 uc]) :: (W', W.listOf #[.int f0 ta, .int f1 tb, .int f2 tc] 0) :: (V, LCg.lst ls) :: lawNews L o1 o2 o3 o4 o5 o6 o7 o8 rest
theorem law6 (w : World) {prog p : Program} {loose : List Str} {mean : ExcName → Option Value} {mg mb : Str → Option Value} {A₀ : Around} {base g : Heap} {L fa V W' WD : Addr} {ccd : Value} {s : Shared} {Q : Flow → Shared → Prop} {o1 o2 o3 o4 o5 o6 o7 o8 : Obj} {h : Heap} {tk : Nat} {m : Str → Option Value}
    {ls : List Value} {f0 f1 f2 : Int} {ta tb tc ua ub uc : Tok} {rest : List (Addr × Obj)} {n : Nat} {t2 : Tok} {w0 w1 w2 : Array UInt8}
    (B : Below A₀ base [] g) (X : (Mine.hd.heap_39 w.params).In g) (T : Top p loose mean mg mb g) (hv0 : 7 ≤ n) (hv1 : n ≤ 31) (z0 : w0.size = n) (z1 : w1.size = n) (z2 : w2.size = n)
    (F : Fr g L h m) (hm : m (Str.ofString "words") = some (.ref WD)) (N : News g L h (newsW L WD W' V w0 w1 w2 ua ub uc f0 f1 f2 ta tb tc ls o1 o2 o3 o4 o5 o6 o7 o8 rest))
    (e1 : (@Ne Nat WD (L + 1 + 1 + 1 + 1 + 1 + 1))) (e2 : (@Ne Nat W' (L + 1 + 1 + 1 + 1 + 1 + 1))) (e3 : (@Ne Nat V (L + 1 + 1 + 1 + 1 + 1 + 1))) (hr : ∀ q ∈ rest, q.1 < L)
    (d3 : o3.data = .cell (some (.int (n : Int) t2))) (d6 : o6.data = .cell none)
    (next : ∀ (o6' : Obj) (t : Tok) (h' : Heap) (tk' : Nat), Fr g L h' m → o6'.data = .cell (some (.bytes (swp (w0 ++ w1 ++ w2) n) t)) →
      News g L h' (newsW L WD W' V w0 w1 w2 ua ub uc f0 f1 f2 ta tb tc ls o1 o2 o3 o4 o5 o6' o7 o8 rest) → LawAt w prog L fa ccd Q 7 { s with heap := h', toks := tk' }) :
    LawAt w prog L fa ccd Q 6 { s with heap := h, toks := tk } := by
  unfold LawAt at next ⊢
  have es : lawScope w = lawScope w := rfl
  conv at es => rhs; whnf
  rw [es] at next ⊢
  clear es
  have hpin := fun h' (F' : Fr g L h' (fun y => if y = Str.ofString "words" then some (.ref WD) else m y)) => unpinF F' hm
  have F1 := pinF F hm
  clear F
  refine consN (assignN (callN_ ?_))
  dsimp only [newsW, lawNews] at N
  walk_at "god"
  refine withKN1 (K := Mine.hd.heap_39 w.params) (by k_is) ?_
  walk_at "god"
  refine method_join ?_
  walk_at "god"
  have hget := (N _ (.head _)).1
  refine joinStr3 rfl (by omega) hget ?_
  intro t4 k4
  dsimp only
  walk_at "god"
  refine byteswap_con w _ n 3 _ _ (by omega) (by simp only [Array.size_append]; omega) (by simp only [Array.size_append]; omega) (by omega) _ _ _ _ _ _ _ _ _ _ _ _ _ _ _ _ _ _ _ _ _ _ _ B F1 X N T rfl (by decide) (by decide) ?_
  rintro v h3 tk3 ⟨t3, rfl⟩ F3 N3
  dsimp only
  clear F1 N hget
  refine storeX_C F3 N3 rfl (.tail e1 (.tail e2 (.tail e3 (.tail ?c1 (.tail ?c2 (.head ?c4)))))) d6 ?_ rfl rfl
  case c1 => refine neN ?_; dsimp only; omega
  case c2 => refine neN ?_; dsimp only; omega
  case c4 =>
    refine List.forall_mem_cons.mpr ⟨?_, List.forall_mem_cons.mpr ⟨?_, List.forall_mem_cons.mpr ⟨?_, List.forall_mem_cons.mpr ⟨?_, List.forall_mem_cons.mpr ⟨?_, rest_ne hr (by omega)⟩⟩⟩⟩⟩
    all_goals (refine neN ?_; dsimp only; omega)
  intro h9 o9 F9 N9 d9
  exact ⟨by trivial, next o9 _ _ _ (hpin _ F9) d9 N9⟩
end
local macro_rules | `(tactic| walk_at "god") => `(tactic| repeat ((fail_if_success (with_reducible show wpAny _ _ (exec (Stmt.While _ _ _ _) _) _ _ _)); (fail_if_success (with_reducible show wpAny _ _ (exec (Stmt.For _ _ _ _ _) _) _ _ _)); (fail_if_success (with_reducible show LCg.CompSrc _ _ _ _ _ _ _ _ _ _ _ _ _ _)); (fail_if_success (with_reducible show wpAny _ _ (call (Value.builtin _) _) _ _ _)); (fail_if_success (with_reducible show wpAny _ _ (call (Value.ref _) _) _ _ _)); (fail_if_success (with_reducible show wpAny _ _ (getMethod (Value.bytes _ _) _ _) _ _ _)); (fail_if_success (with_reducible show wpAny _ _ (subscriptTail _ _ _ (Value.ref _)) _ _ _)); walk1; try dsimp only))
section -- ZL7
theorem offZL7 : True := by
  w_top off
  trivial
set_option maxRecDepth 100000
set_option maxHeartbeats 1000000
theorem compRest_of {prog : Program} {w : World} {A : Around} {s : Shared} {h₀ : Heap} {L : Addr} {m : Str → Option Value} {env : Env} {elt : Expr} {x : Str} {scope : Scope} {cl : List (Str × Addr)} {S : List (Addr × Obj) → Prop} {P : Nat → Value → Prop}
    {Fin : List Value → List (Addr × Obj) → Prop} {news : List (Addr × Obj)} (n : Nat) (G : Nat → Value → Prop) (hS : S news)
    (helt : ∀ i v I oI C oC D ys m₂ h tk (E' : Value → Shared → Prop), i < n → P i v → LCg.NsObj oC m₂ → m₂ x = some v → Fr h₀ L h m → News h₀ L h ((I, oI) :: (C, oC) :: (D, LCg.lst ys) :: news) → (∀ p ∈ news, p.1 ≠ I ∧ p.1 ≠ C ∧ p.1 ≠ D) → ((@Ne Nat I C) ∧ (@Ne Nat I D) ∧ (@Ne Nat C D)) →
      wpAny (model prog w) A (eval elt (compEnvC scope cl C env)) (fun y s' => ∃ h' tk', s' = { s with heap := h', toks := tk' } ∧ Fr h₀ L h' m ∧ News h₀ L h' ((I, oI) :: (C, oC) :: (D, LCg.lst ys) :: news) ∧ G i y) E' { s with heap := h, toks := tk })
    (fin : ∀ ys, ys.length = n → (∀ i y, ys[i]? = some y → G i y) → Fin ys news) :
    ∀ k i ys, k + i = n → ys.length = i → (∀ j y, ys[j]? = some y → G j y) → LCg.CompRest prog w A h₀ L m env elt x scope cl s S P Fin k i ys news
  | 0, i, ys, hk, hl, hg => fin ys (by omega) hg
  | k + 1, i, ys, hk, hl, hg => by
    refine LCg.CompRest.succ fun v I oI C oC D m₂ h tk E' hP hC hx F N off ne => ?_
    refine wpAny_mono (helt i v I oI C oC D ys m₂ h tk E' (by omega) hP hC hx F N off.mem ne) (fun y s' hy => ?_) fun _ _ e => e
    obtain ⟨h', tk', rfl, F', N', hG⟩ := hy
    refine LCg.CompEnd.intro (s₁ := { s with heap := h, toks := tk }) F' N' news (fun p hp => hp) off hS ?_
    refine compRest_of n G hS helt fin k (i + 1) _ (by omega) (by simp [hl]) fun j z hz => ?_
    rcases Nat.lt_trichotomy j ys.length with h1 | h1 | h1
    · rw [List.getElem?_append_left h1] at hz
      exact hg j z hz
    · subst h1
      simp at hz
      subst hz
      rw [hl]; exact hG
    · rw [List.getElem?_eq_none (by simp; omega)] at hz
      cases hz
theorem three_of {G : Nat → Value → Prop} {ys : List Value} (hl : ys.length = 3) (hg : ∀ i y, ys[i]? = some y → G i y) : ∃ a b c, ys = [a, b, c] ∧ G 0 a ∧ G 1 b ∧ G 2 c := by
  match ys, hl with
  | [a, b, c], _ => exact ⟨a, b, c, rfl, hg 0 a rfl, hg 1 b rfl, hg 2 c rfl⟩
/-- the k-th mirror word -/
def mirOf (d : Array UInt8) (n : Nat) (k : Int) : Array UInt8 := KBy.picked d (some (n * k)) (some (n * k + n))
theorem law7 (w : World) {prog p : Program} {loose : List Str} {mean : ExcName → Option Value} {mg mb : Str → Option Value} {A₀ : Around} {base g : Heap} {L fa V W' WD : Addr} {ccd : Value} {s : Shared} {Q : Flow → Shared → Prop} {o1 o2 o3 o4 o5 o6 o7 o8 : Obj} {h : Heap} {tk : Nat} {m : Str → Option Value}
    {ls : List Value} {f0 f1 f2 : Int} {ta tb tc ua ub uc : Tok} {rest : List (Addr × Obj)} {n : Nat} {t2 t6 : Tok} {w0 w1 w2 d : Array UInt8}
    (B : Below A₀ base [] g) (X : (Mine.hd.heap_39 w.params).In g) (T : Top p loose mean mg mb g) (hv0 : 7 ≤ n) (hv1 : n ≤ 31) (zd : d.size = n * 3)
    (F : Fr g L h m) (N : News g L h (newsW L WD W' V w0 w1 w2 ua ub uc f0 f1 f2 ta tb tc ls o1 o2 o3 o4 o5 o6 o7 o8 rest))
    (d3 : o3.data = .cell (some (.int (n : Int) t2))) (d6 : o6.data = .cell (some (.bytes d t6)))
    (next : ∀ (M : Addr) (xa xb xc : Tok) (h' : Heap) (tk' : Nat), Fr g L h' (fun y => if y = Str.ofString "mirrors" then some (.ref M) else m y) →
      News g L h' ((M, LCg.lst [.bytes (mirOf d n 0) xa, .bytes (mirOf d n 1) xb, .bytes (mirOf d n 2) xc]) :: newsW L WD W' V w0 w1 w2 ua ub uc f0 f1 f2 ta tb tc ls o1 o2 o3 o4 o5 o6 o7 o8 rest) →
      LCg.Off1 M (newsW L WD W' V w0 w1 w2 ua ub uc f0 f1 f2 ta tb tc ls o1 o2 o3 o4 o5 o6 o7 o8 rest) → LawAt w prog L fa ccd Q 8 { s with heap := h', toks := tk' }) :
    LawAt w prog L fa ccd Q 7 { s with heap := h, toks := tk } := by
  unfold LawAt at next ⊢
  have es : lawScope w = lawScope w := rfl
  conv at es => rhs; whnf
  rw [es] at next ⊢
  clear es
  refine consA ?_
  k_fold
  dsimp only [newsW, lawNews] at N
  refine LCg.Assign_ListComp_U F (by rfl) (by with_unfolding_all rfl) (by rfl) (by decide) (by rfl) (by decide) (by rfl) (by rfl) (by rfl) ?_
  walk_at "god"
  rename Fr _ _ _ _ => F1
  rename News _ _ _ _ => N1
  rename IsRange _ _ _ _ _ _ _ _ => hr
  refine LCg.CompSrc.range (n := 3) (by rfl) F1 N1 hr (by decide +kernel) (by decide +kernel) (by decide +kernel) fun g' => compRest_of 3 (fun i y => ∃ t, y = .bytes (mirOf d n i) t) True.intro ?helt ?fin 3 0 [] rfl rfl (by simp)
  case fin =>
    intro ys hl hg D h9 tk9 F9 N9 o9
    obtain ⟨a, b, c, rfl, ⟨xa, rfl⟩, ⟨xb, rfl⟩, ⟨xc, rfl⟩⟩ := three_of hl hg
    k_unfold
    exact ⟨rfl, next D xa xb xc _ _ F9 N9 o9⟩
  case helt =>
    clear F1 N1 hr
    rintro i v I oI C oC D ys m₂ h2 tk2 E' hi ⟨tv, rfl⟩ hC hx F2 N2 off ⟨nIC, nID, nCD⟩
    dsimp only at *
    walk_at "god"
    refine KBc.slice_K (s := ⟨_, _, _, _, _⟩) F2 N2 rfl (by constructor) (by constructor) ?hz ?_
    case hz => rw [KBw.ints_length]; omega
    intro h4 t4 k4 F4 N4 _
    refine ⟨h4, _, rfl, F4, N4, t4, ?_⟩
    unfold mirOf
    rw [Int.zero_add]
end
local macro_rules | `(tactic| walk_at "gop") => `(tactic| repeat ((fail_if_success (with_reducible show wpAny _ _ (eval (Expr.ListComp _ _ _ _) _) _ _ _)); (fail_if_success (with_reducible show wpAny _ _ (exec (Stmt.While _ _ _ _) _) _ _ _)); (fail_if_success (with_reducible show wpAny _ _ (exec (Stmt.For _ _ _ _ _) _) _ _ _)); (fail_if_success (with_reducible show wpAny _ _ (binaryOp Operator.Pow _ _) _ _ _)); (fail_if_success (with_reducible show wpAny _ _ (binaryOp Operator.Mult _ _) _ _ _)); (fail_if_success (with_reducible show wpAny _ _ (call (Value.ref _) _) _ _ _)); (fail_if_success (with_reducible show wpAny _ _ (subscriptTail _ _ _ (Value.ref _)) _ _ _)); walk1; try dsimp only))
section -- ZL8
theorem offZL8 : True := by
  w_top off
  trivial
set_option maxRecDepth 100000
set_option maxHeartbeats 1000000
theorem ints_at : ∀ {ls : List Value} {ns : List Int} {i : Nat} {v : Value}, IntsAre ls ns → ls[i]? = some v → ∃ t, v = .int (ns.getD i 0) t ∧ ns.getD i 0 ∈ ns
  | _, _, i, v, .nil, h => by simp at h
  | _, _, 0, v, .cons k t r, h => by
    simp at h
    exact ⟨t, h.symm, .head _⟩
  | _, _, i + 1, v, .cons k t r, h => by
    simp at h
    obtain ⟨t', e, hm⟩ := ints_at r h
    exact ⟨t', by simpa using e, by simpa using Or.inr hm⟩
theorem ints_of : ∀ {ys : List Value} {ks : List Int}, ys.length = ks.length → (∀ (i : Nat) (y : Value), ys[i]? = some y → ∃ t, y = Value.int (ks.getD i 0) t) → IntsAre ys ks
  | [], [], _, _ => .nil
  | y :: r, k :: q, hl, h => by
    obtain ⟨t, e⟩ := h 0 y rfl
    have e' : y = .int k t := by simpa using e
    subst e'
    exact .cons k t (ints_of (by simpa using hl) fun i z hz => by simpa using h (i + 1) z (by simpa using hz))
theorem unpin4 {h₀ h : Heap} {L : Addr} {m : Str → Option Value} {a b c d : Str} {va vb vc v : Value} (F : Fr h₀ L h (fun z => if z = a then some va else if z = b then some vb else if z = c then some vc else if z = d then some v else m z)) (e : m d = some v) : Fr h₀ L h (fun z => if z = a then some va else if z = b then some vb else if z = c then some vc else m z) := by
  have q : (fun z => if z = a then some va else if z = b then some vb else if z = c then some vc else if z = d then some v else m z) = (fun z => if z = a then some va else if z = b then some vb else if z = c then some vc else m z) := by
    funext y
    by_cases hd : y = d
    · subst hd
      rw [if_pos (rfl : y = y), e]
    · rw [if_neg hd]
  rw [q] at F; exact F
/-- the ledger behind the mirrors -/
abbrev newsM (L M WD W' V : Addr) (m0 m1 m2 : Array UInt8) (xa xb xc : Tok) (w0 w1 w2 : Array UInt8) (ua ub uc : Tok) (f0 f1 f2 : Int) (ta tb tc : Tok) (ls : List Value) (o1 o2 o3 o4 o5 o6 o7 o8 : Obj) (rest : List (Addr × Obj)) : List (Addr × Obj) :=
  (M, LCg.lst [.bytes m0 xa, .bytes m1 xb, .bytes m2 xc]) :: newsW L WD W' V w0 w1 w2 ua ub uc f0 f1 f2 ta tb tc ls o1 o2 o3 o4 o5 o6 o7 o8 rest
def numberOf (ns : List Int) : Int := (ns.map fun x => (16 : Int) ^ x.toNat).sum
theorem law8 (w : World) {prog p : Program} {loose : List Str} {mean : ExcName → Option Value} {mg mb : Str → Option Value} {A₀ : Around} {base g : Heap} {L fa V W' WD M : Addr} {ccd : Value} {s : Shared} {Q : Flow → Shared → Prop} {o1 o2 o3 o4 o5 o6 o7 o8 : Obj} {h : Heap} {tk : Nat} {m : Str → Option Value}
    {ls : List Value} {f0 f1 f2 : Int} {ta tb tc ua ub uc xa xb xc : Tok} {rest : List (Addr × Obj)} {n : Nat} {t2 : Tok} {w0 w1 w2 m0 m1 m2 : Array UInt8} {ns : List Int}
    (B : Below A₀ base [] g) (X : (Mine.hd.heap_39 w.params).In g) (T : Top p loose mean mg mb g) (hv0 : 7 ≤ n) (hv1 : n ≤ 31)
    (F : Fr g L h m) (N : News g L h (newsM L M WD W' V m0 m1 m2 xa xb xc w0 w1 w2 ua ub uc f0 f1 f2 ta tb tc ls o1 o2 o3 o4 o5 o6 o7 o8 rest))
    (hls : IntsAre ls ns) (hnl : ns.length ≤ 6) (hnb : ∀ x ∈ ns, 0 ≤ x ∧ x ≤ 31) (hm : m (Str.ofString "mirrors") = some (.ref M)) (d3 : o3.data = .cell (some (.int (n : Int) t2))) (d5 : o5.data = .cell (some (.ref V))) (hk1 : Builtin.Int.intBits (numberOf ns) ≤ 1000) (hk2 : Builtin.Int.intBits (worth m0.toList) ≤ 1000)
    (next : ∀ (y1 y2 y3 : Tok) (h' : Heap) (tk' : Nat), Fr g L h' (fun y => if y = Str.ofString "product" then some (.int (numberOf ns * worth m0.toList) y3) else if y = Str.ofString "number" then some (.int (numberOf ns) y2) else if y = Str.ofString "ring" then some (.int (16 ^ n - 1) y1) else m y) →
      News g L h' (newsM L M WD W' V m0 m1 m2 xa xb xc w0 w1 w2 ua ub uc f0 f1 f2 ta tb tc ls o1 o2 o3 o4 o5 o6 o7 o8 rest) → LawAt w prog L fa ccd Q 11 { s with heap := h', toks := tk' }) :
    LawAt w prog L fa ccd Q 8 { s with heap := h, toks := tk } := by
  unfold LawAt at next ⊢
  have es : lawScope w = lawScope w := rfl
  conv at es => rhs; whnf
  rw [es] at next ⊢
  clear es
  have F1 := pinF F hm
  clear F
  refine consA ?_
  k_fold
  dsimp only [newsM, newsW, lawNews] at N
  walk_at "gop"
  refine pow_int_small (by omega) (by omega) (by decide) ?_
  rw [Int.toNat_natCast]
  walk_at "gop"
  refine consA ?_
  k_fold
  walk_at "gop"
  rename Fr _ _ _ _ => F2
  rename News _ _ _ _ => N2
  refine LCg.ListComp_U F2 (by rfl) (by decide) (by rfl) (by decide) (by rfl) ?_
  walk_at "god"
  refine LCg.CompSrc.ledger (its := ls.toArray) (by rfl) F2 N2 (.tail _ (.tail _ (.tail _ (.head _)))) ?hsz fun g' => compRest_of ls.length (fun i y => ∃ t, y = .int ((16 : Int) ^ (ns.getD i 0).toNat) t) ?hS ?helt ?fin ls.length 0 [] rfl rfl (by simp)
  case hsz => rw [List.size_toArray, hls.length]; exact Nat.le_trans hnl (by decide +kernel)
  case hS => exact .inr ⟨_, .tail _ (.tail _ (.tail _ (.head _))), rfl, _, rfl⟩
  case helt =>
    rintro i v I oI C oC D ys m₂ h2 tk2 E' hi hP hC hx F3 N3 off ⟨nIC, nID, nCD⟩
    have hP' : ls[i]? = some v := by simpa using hP
    obtain ⟨tv, rfl, hmem⟩ := ints_at hls hP'
    have hb := hnb _ hmem
    clear F2 N2
    dsimp only at *
    walk_at "gop"
    refine pow_int_small (by omega) (by omega) (by decide) ?_
    refine ⟨h2, _, rfl, F3, N3, _, rfl⟩
  case fin =>
    intro ys hl hg D h9 tk9 F9 N9 o9
    have hI : IntsAre ys (ns.map fun x => (16 : Int) ^ x.toNat) := ints_of (by rw [hl, hls.length, List.length_map]) fun i y hy => by
      have hi : i < ns.length := by
        have := (List.getElem?_eq_some_iff.mp hy).1
        rw [hl, hls.length] at this; exact this
      obtain ⟨t, rfl⟩ := hg i y hy
      refine ⟨t, ?_⟩
      simp [List.getD, hi]
    clear F2 N2
    walk_at "gop"
    refine consA ?_
    k_fold
    rename Fr _ _ _ _ => F10
    rename News _ _ _ _ => N10
    walk_at "gop"
    refine (worth_con w _ _).use B F10 X N10 T rfl (by decide) (by decide) True.intro ?_
    rintro v own h3 tk3 ⟨rfl, t3, rfl⟩ F11 N11 _
    simp only [List.nil_append] at N11
    clear F10 N10
    dsimp only at *
    walk_at "gop"
    refine mul_int ?_ (IntMulOk.of_le hk1 hk2 (by decide))
    walk_at "gop"
    rename Fr _ _ _ _ => F12
    rename News _ _ _ _ => N12
    exact next _ _ _ _ _ (unpin4 F12 hm) fun q hq => N12 q (.tail _ hq)
end
section -- ZL11
theorem offZL11 : True := by
  w_top off
  trivial
set_option maxRecDepth 100000
set_option maxHeartbeats 1000000
/-- every entry of the tables holds fields -/
theorem TabL.fields {P line col : Nat} {qual : Str} {tl : List (Addr × Obj)} (h : TabL P line col qual tl) : ∀ q ∈ tl, ∃ vs, q.2.data = .fields vs := by
  cases h with
  | fresh => intro q hq; rcases List.mem_singleton.mp hq with rfl; exact ⟨_, rfl⟩
  | made hd hv hc =>
    intro q hq
    rcases List.mem_cons.mp hq with rfl | hq
    · exact ⟨_, rfl⟩
    · rcases List.mem_singleton.mp hq with rfl
      exact ⟨_, hd⟩
theorem TabL.hd {P line col : Nat} {qual : Str} {tl : List (Addr × Obj)} (h : TabL P line col qual tl) : ∃ ps, (P, tabObj ps) ∈ tl := by
  cases h with
  | fresh => exact ⟨_, .head _⟩
  | made hd hv hc => exact ⟨_, .head _⟩
theorem offT_of {g h : Heap} {L a : Addr} {o : Obj} {news r1 r2 : List (Addr × Obj)} (N : News g L h news) (ht1 : TabL 66 58 4 (Str.ofString "_int2digits.<locals>.inner") r1) (ht2 : TabL 73 73 4 (Str.ofString "_digits2int.<locals>.inner") r2)
    (hs : ∀ q ∈ r1 ++ r2, q ∈ news) (hm : (a, o) ∈ news) (hn : ∀ vs, o.data ≠ .fields vs) : OffT a := by
  obtain ⟨p1, e1⟩ := ht1.hd
  obtain ⟨p2, e2⟩ := ht2.hd
  refine ⟨?_, ?_⟩
  · rintro (rfl : a = 66)
    have h1 := (N _ hm).1
    rw [show h.get? (66, o).1 = h.get? 66 from rfl, (N _ (hs _ (List.mem_append_left _ e1))).1] at h1
    cases h1
    exact hn _ rfl
  · rintro (rfl : a = 73)
    have h1 := (N _ hm).1
    rw [show h.get? (73, o).1 = h.get? 73 from rfl, (N _ (hs _ (List.mem_append_right _ e2))).1] at h1
    cases h1
    exact hn _ rfl
/-- two entries of a ledger with unlike data lie apart -/
theorem apart_of {g h : Heap} {L a b : Addr} {o q : Obj} {news : List (Addr × Obj)} (N : News g L h news) (hm : (a, o) ∈ news) (hq : (b, q) ∈ news) (hd : o.data ≠ q.data) : (@Ne Nat a b) := by
  rintro (rfl : a = b)
  have h1 := (N _ hm).1
  rw [show h.get? (a, o).1 = h.get? (a, q).1 from rfl, (N _ hq).1] at h1
  cases h1
  exact hd rfl
theorem tabs_apart {g h : Heap} {L a : Addr} {o : Obj} {news r1 r2 : List (Addr × Obj)} (N : News g L h news) (ht1 : TabL 66 58 4 (Str.ofString "_int2digits.<locals>.inner") r1) (ht2 : TabL 73 73 4 (Str.ofString "_digits2int.<locals>.inner") r2)
    (hs : ∀ q ∈ r1 ++ r2, q ∈ news) (hm : (a, o) ∈ news) (hn : ∀ vs, o.data ≠ .fields vs) : ∀ q ∈ r1 ++ r2, q.1 ≠ a := by
  intro q hq
  have hf : ∃ vs, q.2.data = .fields vs := by
    rcases List.mem_append.mp hq with h1 | h1
    · exact ht1.fields q h1
    · exact ht2.fields q h1
  obtain ⟨vs, e⟩ := hf
  exact apart_of N (o := q.2) (q := o) (hs q hq) hm (by rw [e]; exact fun x => hn vs x.symm)
theorem dmp_con (w : World) (a b : Int) (t1 t2 : Tok) (ha : 0 < a) (hb : 0 < b) (hbb : Builtin.Int.intBits b ≤ 1000) (hn' : Builtin.Int.intBits a ≤ 2 * Builtin.Int.intBits b) :
    ConT w 10 85 [.int a t1, .int b t2] [] (IsDM a b) := by
  by_cases hn : Builtin.Int.intBits a ≤ Builtin.Int.intBits b
  · exact dmp1_con w a b t1 t2 ha hb hbb hn
  · exact dmp2_con w a b t1 t2 ha hb hbb (Nat.lt_of_not_le hn) hn'
section
variable {L M WD W' V : Addr} {m0 m1 m2 w0 w1 w2 : Array UInt8} {xa xb xc ua ub uc ta tb tc : Tok} {f0 f1 f2 : Int} {ls : List Value} {o1 o2 o3 o4 o5 o6 o7 o8 : Obj} {r1 r2 : List (Addr × Obj)} {q : Addr × Obj}
theorem newsM_app (r : List (Addr × Obj)) : newsM L M WD W' V m0 m1 m2 xa xb xc w0 w1 w2 ua ub uc f0 f1 f2 ta tb tc ls o1 o2 o3 o4 o5 o6 o7 o8 r = newsM L M WD W' V m0 m1 m2 xa xb xc w0 w1 w2 ua ub uc f0 f1 f2 ta tb tc ls o1 o2 o3 o4 o5 o6 o7 o8 [] ++ r := rfl
theorem tab_mem (hq : q ∈ newsM L M WD W' V m0 m1 m2 xa xb xc w0 w1 w2 ua ub uc f0 f1 f2 ta tb tc ls o1 o2 o3 o4 o5 o6 o7 o8 []) : q ∈ newsM L M WD W' V m0 m1 m2 xa xb xc w0 w1 w2 ua ub uc f0 f1 f2 ta tb tc ls o1 o2 o3 o4 o5 o6 o7 o8 (r1 ++ r2) := by
  rw [newsM_app (r1 ++ r2)]; exact List.mem_append_left _ hq
theorem tab_tail (hq : q ∈ r1 ++ r2) : q ∈ newsM L M WD W' V m0 m1 m2 xa xb xc w0 w1 w2 ua ub uc f0 f1 f2 ta tb tc ls o1 o2 o3 o4 o5 o6 o7 o8 (r1 ++ r2) := by
  rw [newsM_app (r1 ++ r2)]; exact List.mem_append_right _ hq
theorem tab_swap (hq : q ∈ r1 ++ (r2 ++ (([] : List (Addr × Obj)) ++ (newsM L M WD W' V m0 m1 m2 xa xb xc w0 w1 w2 ua ub uc f0 f1 f2 ta tb tc ls o1 o2 o3 o4 o5 o6 o7 o8 [])))) : q ∈ newsM L M WD W' V m0 m1 m2 xa xb xc w0 w1 w2 ua ub uc f0 f1 f2 ta tb tc ls o1 o2 o3 o4 o5 o6 o7 o8 (r1 ++ r2) := by
  rw [newsM_app (r1 ++ r2)]
  simp only [List.mem_append, List.not_mem_nil, false_or] at hq ⊢
  rcases hq with h | h | h
  · exact .inr (.inl h)
  · exact .inr (.inr h)
  · exact .inl h
theorem tab_swap2 {d : Addr × Obj} (hq : q ∈ d :: newsM L M WD W' V m0 m1 m2 xa xb xc w0 w1 w2 ua ub uc f0 f1 f2 ta tb tc ls o1 o2 o3 o4 o5 o6 o7 o8 (r1 ++ r2)) : q ∈ [d] ++ (r1 ++ (r2 ++ (([] : List (Addr × Obj)) ++ (newsM L M WD W' V m0 m1 m2 xa xb xc w0 w1 w2 ua ub uc f0 f1 f2 ta tb tc ls o1 o2 o3 o4 o5 o6 o7 o8 [])))) := by
  rw [newsM_app (r1 ++ r2)] at hq
  simp only [List.mem_append, List.not_mem_nil, false_or, List.mem_cons, or_false] at hq ⊢
  rcases hq with h | h | h | h
  · exact .inl h
  · exact .inr (.inr (.inr h))
  · exact .inr (.inl h)
  · exact .inr (.inr (.inl h))
end
theorem unpinB {h₀ h : Heap} {L : Addr} {m : Str → Option Value} {a b c d : Str} {va vb v u : Value} (F : Fr h₀ L h (fun z => if z = a then some va else if z = b then some vb else if z = c then some u else if z = d then some v else m z)) (e : m d = some v) (e' : m c = some u) : Fr h₀ L h (fun z => if z = a then some va else if z = b then some vb else m z) := by
  have q : (fun z => if z = a then some va else if z = b then some vb else if z = c then some u else if z = d then some v else m z) = (fun z => if z = a then some va else if z = b then some vb else m z) := by
    funext y
    by_cases hc : y = c
    · subst hc
      rw [if_pos (rfl : y = y), e']
    · rw [if_neg hc]
      by_cases hd : y = d
      · subst hd
        rw [if_pos (rfl : y = y), e]
      · rw [if_neg hd]
  rw [q] at F; exact F
theorem law11 (w : World) {prog p : Program} {loose : List Str} {mean : ExcName → Option Value} {mg mb : Str → Option Value} {A₀ : Around} {base g : Heap} {L fa V W' WD M : Addr} {ccd : Value} {s : Shared} {Q : Flow → Shared → Prop} {o1 o2 o3 o4 o5 o6 o7 o8 : Obj} {h : Heap} {tk : Nat} {m : Str → Option Value}
    {ls : List Value} {f0 f1 f2 : Int} {ta tb tc ua ub uc xa xb xc : Tok} {rest r1 r2 : List (Addr × Obj)} {n : Nat} {t2 : Tok} {w0 w1 w2 m0 m1 m2 : Array UInt8} {a b : Int} {u1 u2 : Tok}
    (B : Below A₀ base [] g) (X : (Mine.hd.heap_39 w.params).In g) (T : Top p loose mean mg mb g) (hv0 : 7 ≤ n) (hv1 : n ≤ 31)
    (F : Fr g L h m) (N : News g L h (newsM L M WD W' V m0 m1 m2 xa xb xc w0 w1 w2 ua ub uc f0 f1 f2 ta tb tc ls o1 o2 o3 o4 o5 o6 o7 o8 (r1 ++ r2)))
    (hL : 100 < L) (c1 : CodeHd base 70 66) (c2 : CodeHd base 77 73) (ht1 : TabL 66 58 4 (Str.ofString "_int2digits.<locals>.inner") r1) (ht2 : TabL 73 73 4 (Str.ofString "_digits2int.<locals>.inner") r2) (notf : ∀ q ∈ newsM L M WD W' V m0 m1 m2 xa xb xc w0 w1 w2 ua ub uc f0 f1 f2 ta tb tc ls o1 o2 o3 o4 o5 o6 o7 o8 [], ∀ vs, q.2.data ≠ .fields vs) (hma : m (Str.ofString "product") = some (.int a u1)) (hmb : m (Str.ofString "ring") = some (.int b u2))
    (ha : 0 < a) (hb : 0 < b) (hbb : Builtin.Int.intBits b ≤ 1000) (hn : Builtin.Int.intBits a ≤ 2 * Builtin.Int.intBits b)
    (next : ∀ (y1 y2 : Tok) (r1' r2' : List (Addr × Obj)) (h' : Heap) (tk' : Nat), TabL 66 58 4 (Str.ofString "_int2digits.<locals>.inner") r1' → TabL 73 73 4 (Str.ofString "_digits2int.<locals>.inner") r2' →
      Fr g L h' (fun y => if y = Str.ofString "rest" then some (.int (a.fmod b) y2) else if y = Str.ofString "quotient" then some (.int (a.fdiv b) y1) else m y) →
      News g L h' (newsM L M WD W' V m0 m1 m2 xa xb xc w0 w1 w2 ua ub uc f0 f1 f2 ta tb tc ls o1 o2 o3 o4 o5 o6 o7 o8 (r1' ++ r2')) → LawAt w prog L fa ccd Q 12 { s with heap := h', toks := tk' }) :
    LawAt w prog L fa ccd Q 11 { s with heap := h, toks := tk } := by
  unfold LawAt at next ⊢
  have es : lawScope w = lawScope w := rfl
  conv at es => rhs; whnf
  rw [es] at next ⊢
  clear es
  have F0 := pinF F hma
  have F1 := pinF F0 (x := Str.ofString "ring") hmb
  clear F F0
  refine consA ?_
  k_fold
  dsimp only [newsM, newsW, lawNews] at N
  walk_at "gop"
  have hof := fun (q : Addr × Obj) (hq : q ∈ newsM L M WD W' V m0 m1 m2 xa xb xc w0 w1 w2 ua ub uc f0 f1 f2 ta tb tc ls o1 o2 o3 o4 o5 o6 o7 o8 []) => tab_mem (r1 := r1) (r2 := r2) hq
  have hT : ∀ q ∈ ([] : List (Addr × Obj)) ++ (newsM L M WD W' V m0 m1 m2 xa xb xc w0 w1 w2 ua ub uc f0 f1 f2 ta tb tc ls o1 o2 o3 o4 o5 o6 o7 o8 []), OffT q.1 := by
    intro q hq
    have hq' := hof q hq
    have hd := notf q hq
    exact offT_of N ht1 ht2 (fun x hx => tab_tail hx) hq' hd
  have N2 : News g L h (r1 ++ (r2 ++ (([] : List (Addr × Obj)) ++ (newsM L M WD W' V m0 m1 m2 xa xb xc w0 w1 w2 ua ub uc f0 f1 f2 ta tb tc ls o1 o2 o3 o4 o5 o6 o7 o8 [])))) := fun q hq => N q (tab_swap hq)
  clear N
  refine (dmp_con w a b _ _ ha hb hbb hn).use B F1 X N2 T rfl c1 c2 ht1 ht2 hT hL (by decide) (by decide) ?_
  rintro v own r1' r2' h3 tk3 ⟨D, y1, y2, rfl, rfl⟩ ht1' ht2' F3 N3 _ _
  have N4 : News g L h3 ((D, tup2 (a.fdiv b) y1 (a.fmod b) y2) :: newsM L M WD W' V m0 m1 m2 xa xb xc w0 w1 w2 ua ub uc f0 f1 f2 ta tb tc ls o1 o2 o3 o4 o5 o6 o7 o8 (r1' ++ r2')) := fun q hq => N3 q (tab_swap2 hq)
  clear N3 N2 F1
  dsimp only [newsM, newsW, lawNews] at N4
  dsimp only
  walk_at "gop"
  rename Fr _ _ _ _ => F9
  rename News _ _ _ _ => N9
  exact next _ _ _ _ _ _ ht1' ht2' (unpinB F9 hma hmb) (fun q hq => N9 q (.tail _ hq))
end
section -- ZL12
theorem offZL12 : True := by
  w_top off
  trivial
set_option maxRecDepth 100000
set_option maxHeartbeats 1000000

theorem ne_not {l : List UInt8} {c : UInt8} {k : Nat} (h : l = c :: List.replicate k 66) : ¬ (l != (#[c] ++ (List.replicate k 66).toArray).toList) = true := by
  subst h
  simp
theorem pinG {h₀ h : Heap} {L : Addr} {m : Str → Option Value} (F : Fr h₀ L h m) (m' : Str → Option Value) (e : m = m') : Fr h₀ L h m' := e ▸ F
theorem law12 (w : World) {prog p : Program} {loose : List Str} {mean : ExcName → Option Value} {mg mb : Str → Option Value} {A₀ : Around} {base g : Heap} {L fa V W' WD M : Addr} {ccd : Value} {s : Shared} {Q : Flow → Shared → Prop} {o1 o2 o3 o4 o5 o6 o7 o8 : Obj} {h : Heap} {tk : Nat} {m : Str → Option Value}
    {ls : List Value} {f0 f1 f2 : Int} {ta tb tc ua ub uc xa xb xc : Tok} {rest r1 r2 : List (Addr × Obj)} {n : Nat} {t2 : Tok} {w0 w1 w2 m0 m1 m2 : Array UInt8} {a b q r ov : Int} {u1 u2 u3 u4 u5 : Tok}
    (B : Below A₀ base [] g) (X : (Mine.hd.heap_39 w.params).In g) (T : Top p loose mean mg mb g) (hv0 : 7 ≤ n) (hv1 : n ≤ 31)
    (F : Fr g L h m) (N : News g L h (newsM L M WD W' V m0 m1 m2 xa xb xc w0 w1 w2 ua ub uc f0 f1 f2 ta tb tc ls o1 o2 o3 o4 o5 o6 o7 o8 (rest)))
    (hma : m (Str.ofString "product") = some (.int a u1)) (hmb : m (Str.ofString "ring") = some (.int b u2)) (hmq : m (Str.ofString "quotient") = some (.int q u3)) (hmr : m (Str.ofString "rest") = some (.int r u4)) (hmo : m (Str.ofString "order") = some (.int ov u5)) (d3 : o3.data = .cell (some (.int (n : Int) t2)))
    (hqa : q * b + r = a) (hq : Builtin.Int.intBits q ≤ 1000) (hb : Builtin.Int.intBits b ≤ 1000) (ho0 : 2 ≤ ov) (ho1 : ov ≤ 5) (hr64 : r.natAbs < 16 ^ 64) (hr : ap r.natAbs = (66 + ov).toNat.toUInt8 :: List.replicate (n - 1) 66)
    (next : ∀ (h' : Heap) (tk' : Nat), Fr g L h' m → News g L h' (newsM L M WD W' V m0 m1 m2 xa xb xc w0 w1 w2 ua ub uc f0 f1 f2 ta tb tc ls o1 o2 o3 o4 o5 o6 o7 o8 rest) → LawAt w prog L fa ccd Q 13 { s with heap := h', toks := tk' }) :
    LawAt w prog L fa ccd Q 12 { s with heap := h, toks := tk } := by
  unfold LawAt at next ⊢
  have es : lawScope w = lawScope w := rfl
  conv at es => rhs; whnf
  rw [es] at next ⊢
  clear es
  have F1 := pinF F hma
  have F2 := pinF F1 (x := Str.ofString "ring") hmb
  have F3 := pinF F2 (x := Str.ofString "quotient") hmq
  have F4 := pinF F3 (x := Str.ofString "rest") hmr
  have F5 := pinF F4 (x := Str.ofString "order") hmo
  clear F F1 F2 F3 F4
  refine consA ?_
  k_fold
  dsimp only [newsM, newsW, lawNews] at N
  walk_at "gop"
  refine mul_int ?_ (IntMulOk.of_le hq hb (by decide))
  walk_at "gop"
  · exact absurd hqa (by assumption)
  · exact absurd hqa (by assumption)
  walk_at "gop"
  refine (int2ap_con w _ _ hr64).use B F5 X N T rfl (by decide) (by decide) True.intro ?_
  rintro v own h3 tk3 ⟨rfl, t3, rfl⟩ F6 N6 _
  simp only [List.nil_append] at N6
  dsimp only at *
  clear F5 N
  walk_at "gop"
  refine bytes_mul_K (d := List.replicate (n - 1) 66) (List.cons_ne_nil _ _) (by omega) (by omega) ?hs ?e ?_
  case hs =>
    have e1 : ((n : Int) - 1).toNat = n - 1 := by omega
    rw [e1]
    simp only [List.length_cons, List.length_nil]
    omega
  case e =>
    have e1 : ((n : Int) - 1).toNat = n - 1 := by omega
    rw [e1]
    simp
  intro t5 k5
  dsimp only
  refine KBy.add_bytes ?hz ?_
  case hz => simp; omega
  intro t6 k6
  dsimp only
  walk_at "gop"
  · rename (_ != _) = true => h9
    exact absurd h9 (ne_not hr)
  · rename (_ != _) = true => h9
    exact absurd h9 (ne_not hr)
  walk_at "gop"
  rename Fr _ _ _ _ => F9
  rename News _ _ _ _ => N9
  have G1 := unpinF F9 (by exact hmo)
  have G2 := unpinF G1 (by exact hmr)
  have G3 := unpinF G2 (by exact hmq)
  have G4 := unpinF G3 (by exact hmb)
  have G5 := unpinF G4 (by exact hma)
  exact next _ _ G5 (fun q hq => N9 q (.tail _ hq))
end
section -- ZL13
theorem offZL13 : True := by
  w_top off
  trivial
set_option maxRecDepth 100000
set_option maxHeartbeats 1000000
theorem law13 (w : World) {prog p : Program} {loose : List Str} {mean : ExcName → Option Value} {mg mb : Str → Option Value} {A₀ : Around} {base g : Heap} {L fa V W' WD M : Addr} {ccd : Value} {s : Shared} {Q : Flow → Shared → Prop} {o1 o2 o3 o4 o5 o6 o7 o8 : Obj} {h : Heap} {tk : Nat} {m : Str → Option Value}
    {ls : List Value} {f0 f1 f2 : Int} {ta tb tc ua ub uc xa xb xc : Tok} {rest r1 r2 : List (Addr × Obj)} {n : Nat} {t2 : Tok} {w0 w1 w2 m0 m1 m2 : Array UInt8} {c a b : Int} {u1 u2 : Tok}
    (B : Below A₀ base [] g) (X : (Mine.hd.heap_39 w.params).In g) (T : Top p loose mean mg mb g) (hv0 : 7 ≤ n) (hv1 : n ≤ 31)
    (F : Fr g L h m) (N : News g L h (newsM L M WD W' V m0 m1 m2 xa xb xc w0 w1 w2 ua ub uc f0 f1 f2 ta tb tc ls o1 o2 o3 o4 o5 o6 o7 o8 (r1 ++ r2)))
    (hL : 100 < L) (c1 : CodeHd base 70 66) (c2 : CodeHd base 77 73) (ht1 : TabL 66 58 4 (Str.ofString "_int2digits.<locals>.inner") r1) (ht2 : TabL 73 73 4 (Str.ofString "_digits2int.<locals>.inner") r2) (notf : ∀ q ∈ newsM L M WD W' V m0 m1 m2 xa xb xc w0 w1 w2 ua ub uc f0 f1 f2 ta tb tc ls o1 o2 o3 o4 o5 o6 o7 o8 [], ∀ vs, q.2.data ≠ .fields vs) (hma : m (Str.ofString "number") = some (.int c u1)) (hmb : m (Str.ofString "ring") = some (.int b u2))
    (hca : c * c = a) (hcb : Builtin.Int.intBits c ≤ 1000) (ha : 0 < a) (hb : 0 < b) (hbb : Builtin.Int.intBits b ≤ 1000) (hn : Builtin.Int.intBits a ≤ 2 * Builtin.Int.intBits b)
    (next : ∀ (y1 y2 : Tok) (r1' r2' : List (Addr × Obj)) (h' : Heap) (tk' : Nat), TabL 66 58 4 (Str.ofString "_int2digits.<locals>.inner") r1' → TabL 73 73 4 (Str.ofString "_digits2int.<locals>.inner") r2' →
      Fr g L h' (fun y => if y = Str.ofString "square" then some (.int (a.fmod b) y2) else if y = Str.ofString "times" then some (.int (a.fdiv b) y1) else m y) →
      News g L h' (newsM L M WD W' V m0 m1 m2 xa xb xc w0 w1 w2 ua ub uc f0 f1 f2 ta tb tc ls o1 o2 o3 o4 o5 o6 o7 o8 (r1' ++ r2')) → LawAt w prog L fa ccd Q 14 { s with heap := h', toks := tk' }) :
    LawAt w prog L fa ccd Q 13 { s with heap := h, toks := tk } := by
  unfold LawAt at next ⊢
  have es : lawScope w = lawScope w := rfl
  conv at es => rhs; whnf
  rw [es] at next ⊢
  clear es
  have F0 := pinF F hma
  have F1 := pinF F0 (x := Str.ofString "ring") hmb
  clear F F0
  refine consA ?_
  k_fold
  dsimp only [newsM, newsW, lawNews] at N
  walk_at "gop"
  refine mul_int ?_ (IntMulOk.of_le hcb hcb (by decide))
  rw [hca]
  walk_at "gop"
  have hof := fun (q : Addr × Obj) (hq : q ∈ newsM L M WD W' V m0 m1 m2 xa xb xc w0 w1 w2 ua ub uc f0 f1 f2 ta tb tc ls o1 o2 o3 o4 o5 o6 o7 o8 []) => tab_mem (r1 := r1) (r2 := r2) hq
  have hT : ∀ q ∈ ([] : List (Addr × Obj)) ++ (newsM L M WD W' V m0 m1 m2 xa xb xc w0 w1 w2 ua ub uc f0 f1 f2 ta tb tc ls o1 o2 o3 o4 o5 o6 o7 o8 []), OffT q.1 := by
    intro q hq
    have hq' := hof q hq
    have hd := notf q hq
    exact offT_of N ht1 ht2 (fun x hx => tab_tail hx) hq' hd
  have N2 : News g L h (r1 ++ (r2 ++ (([] : List (Addr × Obj)) ++ (newsM L M WD W' V m0 m1 m2 xa xb xc w0 w1 w2 ua ub uc f0 f1 f2 ta tb tc ls o1 o2 o3 o4 o5 o6 o7 o8 [])))) := fun q hq => N q (tab_swap hq)
  clear N
  refine (dmp_con w a b _ _ ha hb hbb hn).use B F1 X N2 T rfl c1 c2 ht1 ht2 hT hL (by decide) (by decide) ?_
  rintro v own r1' r2' h3 tk3 ⟨D, y1, y2, rfl, rfl⟩ ht1' ht2' F3 N3 _ _
  have N4 : News g L h3 ((D, tup2 (a.fdiv b) y1 (a.fmod b) y2) :: newsM L M WD W' V m0 m1 m2 xa xb xc w0 w1 w2 ua ub uc f0 f1 f2 ta tb tc ls o1 o2 o3 o4 o5 o6 o7 o8 (r1' ++ r2')) := fun q hq => N3 q (tab_swap2 hq)
  clear N3 N2 F1
  dsimp only [newsM, newsW, lawNews] at N4
  dsimp only
  walk_at "gop"
  rename Fr _ _ _ _ => F9
  rename News _ _ _ _ => N9
  exact next _ _ _ _ _ _ ht1' ht2' (unpinB F9 hma hmb) (fun q hq => N9 q (.tail _ hq))
end
section -- ZL14
theorem offZL14 : True := by
  w_top off
  trivial
set_option maxRecDepth 100000
set_option maxHeartbeats 1000000
theorem law14 (w : World) {prog p : Program} {loose : List Str} {mean : ExcName → Option Value} {mg mb : Str → Option Value} {A₀ : Around} {base g : Heap} {L fa V W' WD M : Addr} {ccd : Value} {s : Shared} {Q : Flow → Shared → Prop} {o1 o2 o3 o4 o5 o6 o7 o8 : Obj} {h : Heap} {tk : Nat} {m : Str → Option Value}
    {ls : List Value} {f0 f1 f2 : Int} {ta tb tc ua ub uc xa xb xc : Tok} {rest r1 r2 : List (Addr × Obj)} {n : Nat} {t2 : Tok} {w0 w1 w2 m0 m1 m2 : Array UInt8} {c b q r : Int} {u1 u2 u3 u4 : Tok}
    (B : Below A₀ base [] g) (X : (Mine.hd.heap_39 w.params).In g) (T : Top p loose mean mg mb g) (hv0 : 7 ≤ n) (hv1 : n ≤ 31)
    (F : Fr g L h m) (N : News g L h (newsM L M WD W' V m0 m1 m2 xa xb xc w0 w1 w2 ua ub uc f0 f1 f2 ta tb tc ls o1 o2 o3 o4 o5 o6 o7 o8 (rest)))
    (hma : m (Str.ofString "number") = some (.int c u1)) (hmb : m (Str.ofString "ring") = some (.int b u2)) (hmq : m (Str.ofString "times") = some (.int q u3)) (hmr : m (Str.ofString "square") = some (.int r u4))
    (hqa : q * b + r = c * c) (hq : Builtin.Int.intBits q ≤ 1000) (hb : Builtin.Int.intBits b ≤ 1000) (hc : Builtin.Int.intBits c ≤ 1000)
    (next : ∀ (h' : Heap) (tk' : Nat), Fr g L h' m → News g L h' (newsM L M WD W' V m0 m1 m2 xa xb xc w0 w1 w2 ua ub uc f0 f1 f2 ta tb tc ls o1 o2 o3 o4 o5 o6 o7 o8 rest) → LawAt w prog L fa ccd Q 15 { s with heap := h', toks := tk' }) :
    LawAt w prog L fa ccd Q 14 { s with heap := h, toks := tk } := by
  unfold LawAt at next ⊢
  have es : lawScope w = lawScope w := rfl
  conv at es => rhs; whnf
  rw [es] at next ⊢
  clear es
  have F1 := pinF F hma
  have F2 := pinF F1 (x := Str.ofString "ring") hmb
  have F3 := pinF F2 (x := Str.ofString "times") hmq
  have F5 := pinF F3 (x := Str.ofString "square") hmr
  clear F F1 F2 F3
  refine consA ?_
  k_fold
  dsimp only [newsM, newsW, lawNews] at N
  walk_at "gop"
  refine mul_int ?_ (IntMulOk.of_le hq hb (by decide))
  walk_at "gop"
  refine mul_int ?_ (IntMulOk.of_le hc hc (by decide))
  walk_at "gop"
  · exact absurd hqa (by assumption)
  · exact absurd hqa (by assumption)
  walk_at "gop"
  rename Fr _ _ _ _ => F9
  rename News _ _ _ _ => N9
  have G1 := unpinF F9 (by exact hmr)
  have G2 := unpinF G1 (by exact hmq)
  have G3 := unpinF G2 (by exact hmb)
  have G4 := unpinF G3 (by exact hma)
  exact next _ _ G4 N9
end
local macro_rules | `(tactic| walk_at "goq") => `(tactic| repeat ((fail_if_success (with_reducible show wpAny _ _ (exec (Stmt.While _ _ _ _) _) _ _ _)); (fail_if_success (with_reducible show wpAny _ _ (exec (Stmt.For _ _ _ _ _) _) _ _ _)); (fail_if_success (with_reducible show wpAny _ _ (binaryOp Operator.Pow _ _) _ _ _)); (fail_if_success (with_reducible show wpAny _ _ (binaryOp Operator.Mult _ _) _ _ _)); (fail_if_success (with_reducible show wpAny _ _ (call (Value.ref _) _) _ _ _)); (fail_if_success (with_reducible show wpAny _ _ (subscriptTail _ _ _ (Value.ref _)) _ _ _)); walk1; try dsimp only))
section -- ZL15
theorem offZL15 : True := by
  w_top off
  trivial
set_option maxRecDepth 100000
set_option maxHeartbeats 1000000
/-- the letters of the square's rest, turned -/
def seenOf (n : Nat) (r : Int) : Array UInt8 := KBy.picked (ap ((16 : Int) ^ n + r).natAbs).toArray (some 1) none
theorem law15 (w : World) {prog p : Program} {loose : List Str} {mean : ExcName → Option Value} {mg mb : Str → Option Value} {A₀ : Around} {base g : Heap} {L fa V W' WD M : Addr} {ccd : Value} {s : Shared} {Q : Flow → Shared → Prop} {o1 o2 o3 o4 o5 o6 o7 o8 : Obj} {h : Heap} {tk : Nat} {m : Str → Option Value}
    {ls : List Value} {f0 f1 f2 : Int} {ta tb tc ua ub uc xa xb xc : Tok} {rest r1 r2 : List (Addr × Obj)} {n : Nat} {t2 : Tok} {w0 w1 w2 m0 m1 m2 : Array UInt8} {r : Int} {u4 : Tok}
    (B : Below A₀ base [] g) (X : (Mine.hd.heap_39 w.params).In g) (T : Top p loose mean mg mb g) (hv0 : 7 ≤ n) (hv1 : n ≤ 31)
    (F : Fr g L h m) (N : News g L h (newsM L M WD W' V m0 m1 m2 xa xb xc w0 w1 w2 ua ub uc f0 f1 f2 ta tb tc ls o1 o2 o3 o4 o5 o6 o7 o8 (r1 ++ r2)))
    (ht1 : TabL 66 58 4 (Str.ofString "_int2digits.<locals>.inner") r1) (ht2 : TabL 73 73 4 (Str.ofString "_digits2int.<locals>.inner") r2) (hmr : m (Str.ofString "square") = some (.int r u4)) (d3 : o3.data = .cell (some (.int (n : Int) t2))) (d7 : o7.data = .cell none) (hsz : (seenOf n r).size = n) (hr64 : ((16 : Int) ^ n + r).natAbs < 16 ^ 64)
    (next : ∀ (o7' : Obj) (t : Tok) (h' : Heap) (tk' : Nat), Fr g L h' m → o7'.data = .cell (some (.bytes (swp (seenOf n r) n) t)) → News g L h' (newsM L M WD W' V m0 m1 m2 xa xb xc w0 w1 w2 ua ub uc f0 f1 f2 ta tb tc ls o1 o2 o3 o4 o5 o6 o7' o8 (r1 ++ r2)) → LawAt w prog L fa ccd Q 16 { s with heap := h', toks := tk' }) :
    LawAt w prog L fa ccd Q 15 { s with heap := h, toks := tk } := by
  unfold LawAt at next ⊢
  have es : lawScope w = lawScope w := rfl
  conv at es => rhs; whnf
  rw [es] at next ⊢
  clear es
  have F1 := pinF F hmr
  clear F
  have n7 : (L + 1 + 1 + 1 + 1 + 1 + 1 + 1, o7) ∈ newsM L M WD W' V m0 m1 m2 xa xb xc w0 w1 w2 ua ub uc f0 f1 f2 ta tb tc ls o1 o2 o3 o4 o5 o6 o7 o8 (r1 ++ r2) := .tail _ (.tail _ (.tail _ (.tail _ (.tail _ (.head _)))))
  have e1 : (@Ne Nat M (L + 1 + 1 + 1 + 1 + 1 + 1 + 1)) := apart_of N (.head _) n7 (by rw [d7]; exact fun e => nomatch e)
  have e2 : (@Ne Nat WD (L + 1 + 1 + 1 + 1 + 1 + 1 + 1)) := apart_of N (.tail _ (.head _)) n7 (by rw [d7]; exact fun e => nomatch e)
  have e3 : (@Ne Nat W' (L + 1 + 1 + 1 + 1 + 1 + 1 + 1)) := apart_of N (.tail _ (.tail _ (.head _))) n7 (by rw [d7]; exact fun e => nomatch e)
  have e4 : (@Ne Nat V (L + 1 + 1 + 1 + 1 + 1 + 1 + 1)) := apart_of N (.tail _ (.tail _ (.tail _ (.head _)))) n7 (by rw [d7]; exact fun e => nomatch e)
  have e5 := tabs_apart N ht1 ht2 (fun x hx => tab_tail hx) n7 (by rw [d7]; exact fun _ e => nomatch e)
  clear n7
  refine consN (assignN (callN_ ?_))
  dsimp only [newsM, newsW, lawNews] at N
  walk_at "god"
  refine withKN1 (K := Mine.hd.heap_39 w.params) (by k_is) ?_
  walk_at "goq"
  refine pow_int_small (by omega) (by omega) (by decide) ?_
  rw [Int.toNat_natCast]
  walk_at "goq"
  refine (int2ap_con w _ _ hr64).use B F1 X N T rfl (by decide) (by decide) True.intro ?_
  rintro v own h3 tk3 ⟨rfl, t3, rfl⟩ F6 N6 _
  simp only [List.nil_append] at N6
  dsimp only at *
  clear F1 N
  walk_at "goq"
  refine KBc.slice_K (s := ⟨_, _, _, _, _⟩) F6 N6 rfl (by constructor) (by constructor) ?hz ?_
  case hz => rw [KBw.ints_length, List.size_toArray]; exact Nat.le_trans (ap_len _) (by decide)
  intro h4 t4 k4 F4 N4 _
  dsimp only
  clear F6 N6
  walk_at "god"
  refine byteswap_con w (seenOf n r) n 1 _ _ (by omega) (by omega) (by omega) (by omega) _ _ _ _ _ _ _ _ _ _ _ _ _ _ _ _ _ _ _ _ _ _ _ B F4 X N4 T rfl (by decide) (by decide) ?_
  rintro v h5 tk5 ⟨t5, rfl⟩ F5 N5
  dsimp only
  clear F4 N4
  refine storeX_C F5 N5 rfl (.tail e1 (.tail e2 (.tail e3 (.tail e4 (.tail ?c1 (.head ?c4)))))) d7 ?_ rfl rfl
  case c1 => refine neN ?_; dsimp only; omega
  case c4 =>
    refine List.forall_mem_cons.mpr ⟨?_, List.forall_mem_cons.mpr ⟨?_, List.forall_mem_cons.mpr ⟨?_, List.forall_mem_cons.mpr ⟨?_, List.forall_mem_cons.mpr ⟨?_, List.forall_mem_cons.mpr ⟨?_, e5⟩⟩⟩⟩⟩⟩
    all_goals (refine neN ?_; dsimp only; omega)
  intro h9 o9 F9 N9 d9
  exact ⟨by trivial, next o9 _ _ _ (unpinF F9 (by exact hmr)) d9 N9⟩
end
local macro_rules | `(tactic| walk_at "goa") => `(tactic| repeat ((fail_if_success (with_reducible show wpAny _ _ (exec (Stmt.While _ _ _ _) _) _ _ _)); (fail_if_success (with_reducible show wpAny _ _ (exec (Stmt.For _ _ _ _ _) _) _ _ _)); (fail_if_success (with_reducible show wpAny _ _ (call (Value.ref _) _) _ _ _)); walk1; try dsimp only))
section -- ZL16
theorem offZL16 : True := by
  w_top off
  trivial
set_option maxRecDepth 100000
set_option maxHeartbeats 1000000
/-- the places of the letter B -/
def bplaces (d : Array UInt8) (n : Nat) : List Int := List.foldl
    (fun (l' : List Int) (k' : Int) =>
      if ((KBy.picked d (some k') (some (k' + 1))).toList == [66]) = true ∧ (KBy.picked d (some k') (some (k' + 1))).toList = [66] then l' ++ [k']
      else if ¬(KBy.picked d (some k') (some (k' + 1))).toList = [66] then l' else l')
    [] (rangeKs 0 ((n : Int) - 0).toNat)
theorem sorted_uniq {a b : List Int} (h : a.Perm b) (ha : a.Pairwise (· ≤ ·)) (hb : b.Pairwise (· ≤ ·)) : a = b := by
  exact h.eq_of_pairwise (fun _ _ _ _ h1 h2 => Int.le_antisymm h1 h2) ha hb
theorem law16 (w : World) {prog p : Program} {loose : List Str} {mean : ExcName → Option Value} {mg mb : Str → Option Value} {A₀ : Around} {base g : Heap} {L fa V W' WD M : Addr} {ccd : Value} {s : Shared} {Q : Flow → Shared → Prop} {o1 o2 o3 o4 o5 o6 o7 o8 : Obj} {h : Heap} {tk : Nat} {m : Str → Option Value}
    {ls : List Value} {f0 f1 f2 : Int} {ta tb tc ua ub uc xa xb xc : Tok} {rest r1 r2 : List (Addr × Obj)} {n : Nat} {t2 : Tok} {w0 w1 w2 m0 m1 m2 : Array UInt8} {d : Array UInt8} {ns : List Int} {t7 : Tok}
    (B : Below A₀ base [] g) (X : (Mine.hd.heap_39 w.params).In g) (T : Top p loose mean mg mb g) (hv0 : 7 ≤ n) (hv1 : n ≤ 31)
    (F : Fr g L h m) (N : News g L h (newsM L M WD W' V m0 m1 m2 xa xb xc w0 w1 w2 ua ub uc f0 f1 f2 ta tb tc ls o1 o2 o3 o4 o5 o6 o7 o8 (rest)))
     (hls : IntsAre ls ns) (hnl : ns.length ≤ 6) (hnb : ∀ x ∈ ns, 0 ≤ x ∧ x ≤ 31) (d3 : o3.data = .cell (some (.int (n : Int) t2))) (d5 : o5.data = .cell (some (.ref V))) (d7 : o7.data = .cell (some (.bytes d t7))) (hdz : d.size = n) (hbp : (bplaces d n).Perm (ns.map fun k => (2 * k).fmod n)) (hbs : (bplaces d n).Pairwise (· ≤ ·))
    (next : ∀ (h' : Heap) (tk' : Nat), Fr g L h' m → News g L h' (newsM L M WD W' V m0 m1 m2 xa xb xc w0 w1 w2 ua ub uc f0 f1 f2 ta tb tc ls o1 o2 o3 o4 o5 o6 o7 o8 rest) → LawAt w prog L fa ccd Q 17 { s with heap := h', toks := tk' }) :
    LawAt w prog L fa ccd Q 16 { s with heap := h, toks := tk } := by
  unfold LawAt at next ⊢
  have es : lawScope w = lawScope w := rfl
  conv at es => rhs; whnf
  rw [es] at next ⊢
  clear es
  refine consA ?_
  k_fold
  dsimp only [newsM, newsW, lawNews] at N
  walk_at "goa"
  · rename Fr _ _ _ _ => F1
    rename News _ _ _ _ => N1
    refine KBc.slice_K (s := ⟨_, _, _, _, _⟩) F1 N1 rfl (by constructor) (by constructor) ?hz ?_
    case hz => rw [KBw.ints_length]; omega
    intro h4 t4 k4 F4 N4 hx
    clear hx
    dsimp only
    clear F1 N1
    walk_at "goa"
  rotate_left
  · intro l k
    dsimp only
    split
    · simp
    · split
      · simp
      · exact Nat.le_succ _
  walk_at "goa"
  · rename Fr _ _ _ _ => F9
    rename News _ _ _ _ => N9
    exact next _ _ F9 (fun q hq => N9 q (.tail _ (.tail _ (.tail _ hq))))
  · rename List.Pairwise _ _ => ho
    rename List.Perm _ _ => hpm
    rename ¬ _ = _ => hne
    exact absurd (sorted_uniq (hbp.trans hpm.symm) hbs ho) hne
end
local macro_rules | `(tactic| walk_at "goc") => `(tactic| repeat ((fail_if_success (with_reducible show wpAny _ _ (getMethod (Value.bytes _ _) _ _) _ _ _)); (fail_if_success (with_reducible show wpAny _ _ (call (Value.builtin "bytes.count") _) _ _ _)); (fail_if_success (with_reducible show wpAny _ _ (binaryOp Operator.Mult _ _) _ _ _)); walk1; try dsimp only))
section -- ZL17
theorem offZL17 : True := by
  w_top off
  trivial
set_option maxRecDepth 100000
set_option maxHeartbeats 1000000
theorem law17 (w : World) {prog p : Program} {loose : List Str} {mean : ExcName → Option Value} {mg mb : Str → Option Value} {A₀ : Around} {base g : Heap} {L fa V W' WD M : Addr} {ccd : Value} {s : Shared} {Q : Flow → Shared → Prop} {o1 o2 o3 o4 o5 o6 o7 o8 : Obj} {h : Heap} {tk : Nat} {m : Str → Option Value}
    {ls : List Value} {f0 f1 f2 : Int} {ta tb tc ua ub uc xa xb xc : Tok} {rest r1 r2 : List (Addr × Obj)} {n : Nat} {t2 : Tok} {w0 w1 w2 m0 m1 m2 : Array UInt8} {d : Array UInt8} {ov : Int} {t7 u5 : Tok}
    (B : Below A₀ base [] g) (X : (Mine.hd.heap_39 w.params).In g) (T : Top p loose mean mg mb g) (hv0 : 7 ≤ n) (hv1 : n ≤ 31)
    (F : Fr g L h m) (N : News g L h (newsM L M WD W' V m0 m1 m2 xa xb xc w0 w1 w2 ua ub uc f0 f1 f2 ta tb tc ls o1 o2 o3 o4 o5 o6 o7 o8 (rest)))
    (hmo : m (Str.ofString "order") = some (.int ov u5)) (ho0 : 2 ≤ ov) (ho1 : ov ≤ 5) (d7 : o7.data = .cell (some (.bytes d t7))) (hdz : d.size = n) (hC : ((Builtin.Bytes.occurrences d #[67] 0 d.size).length : Int) = (ov * (ov + 1)).fdiv 2) (hA : ((Builtin.Bytes.occurrences d #[65] 0 d.size).length : Int) = (ov * (ov - 1)).fdiv 2)
    (next : ∀ (h' : Heap) (tk' : Nat), Fr g L h' m → News g L h' (newsM L M WD W' V m0 m1 m2 xa xb xc w0 w1 w2 ua ub uc f0 f1 f2 ta tb tc ls o1 o2 o3 o4 o5 o6 o7 o8 rest) → LawAt w prog L fa ccd Q 18 { s with heap := h', toks := tk' }) :
    LawAt w prog L fa ccd Q 17 { s with heap := h, toks := tk } := by
  unfold LawAt at next ⊢
  have es : lawScope w = lawScope w := rfl
  conv at es => rhs; whnf
  rw [es] at next ⊢
  clear es
  have F1 := pinF F hmo
  clear F
  refine consA ?_
  k_fold
  dsimp only [newsM, newsW, lawNews] at N
  walk_at "goc"
  refine method_count ?_
  walk_at "goc"
  refine bytesCount (by omega) ?_
  intro t8 k8
  dsimp only
  walk_at "goc"
  refine mul_int ?_ (IntMulOk.of_left (bits64 ⟨by omega, by omega⟩))
  walk_at "goc"
  · exact absurd hC (by assumption)
  · exact absurd hC (by assumption)
  walk_at "goc"
  refine method_count ?_
  walk_at "goc"
  refine bytesCount (by omega) ?_
  intro t9 k9
  dsimp only
  walk_at "goc"
  refine mul_int ?_ (IntMulOk.of_left (bits64 ⟨by omega, by omega⟩))
  walk_at "goc"
  · exact absurd hA (by assumption)
  · exact absurd hA (by assumption)
  walk_at "goc"
  rename Fr _ _ _ _ => F9
  rename News _ _ _ _ => N9
  exact next _ _ (unpinF F9 (by exact hmo)) N9
end
local macro_rules | `(tactic| walk_at "gos") => `(tactic| repeat ((fail_if_success (with_reducible show wpAny _ _ (storeName _ _ _) _ _ _)); walk1; try dsimp only))
section -- ZL18
theorem offZL18 : True := by
  w_top off
  trivial
set_option maxRecDepth 100000
set_option maxHeartbeats 1000000
theorem law18 (w : World) {prog p : Program} {loose : List Str} {mean : ExcName → Option Value} {mg mb : Str → Option Value} {A₀ : Around} {base g : Heap} {L fa V W' WD M : Addr} {ccd : Value} {s : Shared} {Q : Flow → Shared → Prop} {o1 o2 o3 o4 o5 o6 o7 o8 : Obj} {h : Heap} {tk : Nat} {m : Str → Option Value}
    {ls : List Value} {f0 f1 f2 : Int} {ta tb tc ua ub uc xa xb xc : Tok} {rest r1 r2 : List (Addr × Obj)} {n : Nat} {t2 : Tok} {w0 w1 w2 m0 m1 m2 : Array UInt8} {ov pv : Int} {u5 : Tok}
    (B : Below A₀ base [] g) (X : (Mine.hd.heap_39 w.params).In g) (T : Top p loose mean mg mb g) (hv0 : 7 ≤ n) (hv1 : n ≤ 31)
    (F : Fr g L h m) (N : News g L h (newsM L M WD W' V m0 m1 m2 xa xb xc w0 w1 w2 ua ub uc f0 f1 f2 ta tb tc ls o1 o2 o3 o4 o5 o6 o7 o8 (r1 ++ r2)))
    (ht1 : TabL 66 58 4 (Str.ofString "_int2digits.<locals>.inner") r1) (ht2 : TabL 73 73 4 (Str.ofString "_digits2int.<locals>.inner") r2) (hmo : m (Str.ofString "order") = some (.int ov u5)) (hpv : (if ov = 4 then 2 else ov) = pv) (d8 : o8.data = .cell none)
    (next : ∀ (o8' : Obj) (t : Tok) (h' : Heap) (tk' : Nat), Fr g L h' m → o8'.data = .cell (some (.int pv t)) → News g L h' (newsM L M WD W' V m0 m1 m2 xa xb xc w0 w1 w2 ua ub uc f0 f1 f2 ta tb tc ls o1 o2 o3 o4 o5 o6 o7 o8' (r1 ++ r2)) → LawAt w prog L fa ccd Q 19 { s with heap := h', toks := tk' }) :
    LawAt w prog L fa ccd Q 18 { s with heap := h, toks := tk } := by
  unfold LawAt at next ⊢
  have es : lawScope w = lawScope w := rfl
  conv at es => rhs; whnf
  rw [es] at next ⊢
  clear es
  have F1 := pinF F hmo
  clear F
  have n7 : (L + 1 + 1 + 1 + 1 + 1 + 1 + 1 + 1, o8) ∈ newsM L M WD W' V m0 m1 m2 xa xb xc w0 w1 w2 ua ub uc f0 f1 f2 ta tb tc ls o1 o2 o3 o4 o5 o6 o7 o8 (r1 ++ r2) := .tail _ (.tail _ (.tail _ (.tail _ (.head _))))
  have e1 : (@Ne Nat M (L + 1 + 1 + 1 + 1 + 1 + 1 + 1 + 1)) := apart_of N (.head _) n7 (by rw [d8]; exact fun e => nomatch e)
  have e2 : (@Ne Nat WD (L + 1 + 1 + 1 + 1 + 1 + 1 + 1 + 1)) := apart_of N (.tail _ (.head _)) n7 (by rw [d8]; exact fun e => nomatch e)
  have e3 : (@Ne Nat W' (L + 1 + 1 + 1 + 1 + 1 + 1 + 1 + 1)) := apart_of N (.tail _ (.tail _ (.head _))) n7 (by rw [d8]; exact fun e => nomatch e)
  have e4 : (@Ne Nat V (L + 1 + 1 + 1 + 1 + 1 + 1 + 1 + 1)) := apart_of N (.tail _ (.tail _ (.tail _ (.head _)))) n7 (by rw [d8]; exact fun e => nomatch e)
  have e5 := tabs_apart N ht1 ht2 (fun x hx => tab_tail hx) n7 (by rw [d8]; exact fun _ e => nomatch e)
  clear n7
  refine consA ?_
  k_fold
  dsimp only [newsM, newsW, lawNews] at N
  walk_at "gos"
  · rename ov = 4 => h4
    rename Fr _ _ _ _ => F5
    rename News _ _ _ _ => N5
    refine storeX_C F5 N5 rfl (.tail e1 (.tail e2 (.tail e3 (.tail e4 (.head ?c4))))) d8 ?_ rfl rfl
    case c4 =>
      refine List.forall_mem_cons.mpr ⟨?_, List.forall_mem_cons.mpr ⟨?_, List.forall_mem_cons.mpr ⟨?_, List.forall_mem_cons.mpr ⟨?_, List.forall_mem_cons.mpr ⟨?_, List.forall_mem_cons.mpr ⟨?_, List.forall_mem_cons.mpr ⟨?_, e5⟩⟩⟩⟩⟩⟩⟩
      all_goals (refine neN ?_; dsimp only; omega)
    intro h9 o9 F9 N9 d9
    k_unfold
    exact ⟨rfl, next o9 _ _ _ (unpinF F9 (by exact hmo)) (by rw [← hpv, if_pos h4]; exact d9) N9⟩
  walk_at "gos"
  · rename ¬ ov = 4 => h4
    rename Fr _ _ _ _ => F5
    rename News _ _ _ _ => N5
    refine storeX_C F5 N5 rfl (.tail e1 (.tail e2 (.tail e3 (.tail e4 (.head ?c4))))) d8 ?_ rfl rfl
    case c4 =>
      refine List.forall_mem_cons.mpr ⟨?_, List.forall_mem_cons.mpr ⟨?_, List.forall_mem_cons.mpr ⟨?_, List.forall_mem_cons.mpr ⟨?_, List.forall_mem_cons.mpr ⟨?_, List.forall_mem_cons.mpr ⟨?_, List.forall_mem_cons.mpr ⟨?_, e5⟩⟩⟩⟩⟩⟩⟩
      all_goals (refine neN ?_; dsimp only; omega)
    intro h9 o9 F9 N9 d9
    k_unfold
    exact ⟨rfl, next o9 _ _ _ (unpinF F9 (by exact hmo)) (by rw [← hpv, if_neg h4]; exact d9) N9⟩
end
section -- ZL19
theorem offZL19 : True := by
  w_top off
  trivial
set_option maxRecDepth 100000
set_option maxHeartbeats 1000000
/-- the powers of the prime -/
def powersOf (pv : Int) (n : Nat) : List Int := (List.range 6).map fun k => (pv ^ k).fmod n
theorem law19 (w : World) {prog p : Program} {loose : List Str} {mean : ExcName → Option Value} {mg mb : Str → Option Value} {A₀ : Around} {base g : Heap} {L fa V W' WD M : Addr} {ccd : Value} {s : Shared} {Q : Flow → Shared → Prop} {o1 o2 o3 o4 o5 o6 o7 o8 : Obj} {h : Heap} {tk : Nat} {m : Str → Option Value}
    {ls : List Value} {f0 f1 f2 : Int} {ta tb tc ua ub uc xa xb xc : Tok} {rest r1 r2 : List (Addr × Obj)} {n : Nat} {t2 : Tok} {w0 w1 w2 m0 m1 m2 : Array UInt8} {pv : Int} {t8 : Tok}
    (B : Below A₀ base [] g) (X : (Mine.hd.heap_39 w.params).In g) (T : Top p loose mean mg mb g) (hv0 : 7 ≤ n) (hv1 : n ≤ 31)
    (F : Fr g L h m) (N : News g L h (newsM L M WD W' V m0 m1 m2 xa xb xc w0 w1 w2 ua ub uc f0 f1 f2 ta tb tc ls o1 o2 o3 o4 o5 o6 o7 o8 (rest)))
    (d3 : o3.data = .cell (some (.int (n : Int) t2))) (hp0 : 2 ≤ pv) (hp1 : pv ≤ 5) (d8 : o8.data = .cell (some (.int pv t8)))
    (next : ∀ (P : Addr) (ys : List Value) (h' : Heap) (tk' : Nat), IntsAre ys (powersOf pv n) → Fr g L h' (fun y => if y = Str.ofString "powers" then some (.ref P) else m y) → News g L h' ((P, LCg.lst ys) :: newsM L M WD W' V m0 m1 m2 xa xb xc w0 w1 w2 ua ub uc f0 f1 f2 ta tb tc ls o1 o2 o3 o4 o5 o6 o7 o8 rest) → LawAt w prog L fa ccd Q 20 { s with heap := h', toks := tk' }) :
    LawAt w prog L fa ccd Q 19 { s with heap := h, toks := tk } := by
  unfold LawAt at next ⊢
  have es : lawScope w = lawScope w := rfl
  conv at es => rhs; whnf
  rw [es] at next ⊢
  clear es
  refine consA ?_
  k_fold
  dsimp only [newsM, newsW, lawNews] at N
  refine LCg.Assign_ListComp_U F (by rfl) (by with_unfolding_all rfl) (by rfl) (by decide) (by rfl) (by decide) (by rfl) (by rfl) (by rfl) ?_
  walk_at "god"
  rename Fr _ _ _ _ => F1
  rename News _ _ _ _ => N1
  rename IsRange _ _ _ _ _ _ _ _ => hr
  refine LCg.CompSrc.range (n := 6) (by rfl) F1 N1 hr (by decide +kernel) (by decide +kernel) (by decide +kernel) fun g' => compRest_of 6 (fun i y => ∃ t, y = Value.int ((pv ^ i).fmod n) t) True.intro ?helt ?fin 6 0 [] rfl rfl (by simp)
  case fin =>
    intro ys hl hg D h9 tk9 F9 N9 o9
    have hI : IntsAre ys (powersOf pv n) := ints_of (by rw [hl]; rfl) fun i y hy => by
      have hi : i < 6 := by
        have := (List.getElem?_eq_some_iff.mp hy).1
        rw [hl] at this; exact this
      obtain ⟨t, rfl⟩ := hg i y hy
      refine ⟨t, ?_⟩
      simp [List.getD, powersOf, hi]
    exact ⟨rfl, next D ys _ _ hI F9 N9⟩
  case helt =>
    clear F1 N1 hr
    rintro i v I oI C oC D ys m₂ h2 tk2 E' hi ⟨tv, rfl⟩ hC hx F2 N2 off ⟨nIC, nID, nCD⟩
    dsimp only at *
    walk_at "gop"
    refine pow_int_small (by omega) (by omega) (by omega) ?_
    rw [show (0 + (i : Int)).toNat = i by omega]
    walk_at "gop"
    all_goals first | assumption | exact ⟨by assumption, _, rfl⟩ | exact ⟨by assumption, by assumption, _, rfl⟩ | exact ⟨_, rfl⟩
end
local macro_rules | `(tactic| walk_at "gow") => `(tactic| repeat ((fail_if_success (with_reducible show wpAny _ _ (call (Value.ref _) _) _ _ _)); (fail_if_success (with_reducible show wpAny _ _ (binaryOp Operator.Add (Value.bytes _ _) (Value.bytes _ _)) _ _ _)); (fail_if_success (with_reducible show wpAny _ _ (binaryOp Operator.Add (Value.str _ _) (Value.str _ _)) _ _ _)); walk1; try dsimp only))
section -- ZL20
theorem offZL20 : True := by
  w_top off
  trivial
set_option maxRecDepth 100000
set_option maxHeartbeats 1000000
theorem dotted_len (l : List UInt8) : (dotted l).length = 2 * l.length := by
  show ((l.flatMap fun c => [46, c.toNat]).toArray).size = _
  induction l with
  | nil => rfl
  | cons c r ih => simp only [List.size_toArray, List.flatMap_cons, List.length_append, List.length_cons, List.length_nil] at ih ⊢; omega
theorem law20 (w : World) {prog p : Program} {loose : List Str} {mean : ExcName → Option Value} {mg mb : Str → Option Value} {A₀ : Around} {base g : Heap} {L fa V W' WD M : Addr} {ccd : Value} {s : Shared} {Q : Flow → Shared → Prop} {o1 o2 o3 o4 o5 o6 o7 o8 : Obj} {h : Heap} {tk : Nat} {m : Str → Option Value}
    {ls : List Value} {f0 f1 f2 : Int} {ta tb tc ua ub uc xa xb xc : Tok} {rest r1 r2 : List (Addr × Obj)} {n : Nat} {t2 : Tok} {w0 w1 w2 m0 m1 m2 : Array UInt8} {P : Addr} {ps : List Value} {c : UInt8} {cs : List UInt8}
    (B : Below A₀ base [] g) (X : (Mine.hd.heap_39 w.params).In g) (T : Top p loose mean mg mb g) (hv0 : 7 ≤ n) (hv1 : n ≤ 31)
    (F : Fr g L h m) (N : News g L h ((P, LCg.lst ps) :: newsM L M WD W' V m0 m1 m2 xa xb xc w0 w1 w2 ua ub uc f0 f1 f2 ta tb tc ls o1 o2 o3 o4 o5 o6 o7 o8 (rest)))
    (hm : m (Str.ofString "words") = some (.ref WD)) (hw : w0 ++ w0 = (c :: cs).toArray) (hlow : ∀ i, i < (c :: cs).toArray.size → ((c :: cs).toArray.getD i 0).toNat < 128) (hlen : (c :: cs).length ≤ 100)
    (next : ∀ (t : Tok) (h' : Heap) (tk' : Nat), Fr g L h' (fun y => if y = Str.ofString "host" then some (.str (Str.ofString "x" ++ dotted (c :: cs)) t) else m y) → News g L h' ((P, LCg.lst ps) :: newsM L M WD W' V m0 m1 m2 xa xb xc w0 w1 w2 ua ub uc f0 f1 f2 ta tb tc ls o1 o2 o3 o4 o5 o6 o7 o8 rest) → LawAt w prog L fa ccd Q 21 { s with heap := h', toks := tk' }) :
    LawAt w prog L fa ccd Q 20 { s with heap := h, toks := tk } := by
  unfold LawAt at next ⊢
  have es : lawScope w = lawScope w := rfl
  conv at es => rhs; whnf
  rw [es] at next ⊢
  clear es
  have F1 := pinF F hm
  clear F
  refine consA ?_
  k_fold
  dsimp only [newsM, newsW, lawNews] at N
  walk_at "gow"
  refine KBy.add_bytes ?hz ?_
  case hz =>
    have := congrArg Array.size hw
    simp only [Array.size_append, List.size_toArray] at this
    omega
  intro t4 k4
  dsimp only
  rw [hw]
  walk_at "gow"
  refine (dotted_con w c cs _ hlow hlen).use B F1 X N T rfl (by decide) (by decide) True.intro ?_
  rintro v own h3 tk3 ⟨rfl, t3, rfl⟩ F6 N6 _
  simp only [List.nil_append] at N6
  dsimp only at *
  clear F1 N
  walk_at "gow"
  refine KXadd.add (K := 1) (L := 300) (by decide +kernel) (by rw [dotted_len]; omega) (by decide) fun t5 k5 _ => ?_
  dsimp only
  walk_at "gow"
  rename Fr _ _ _ _ => F9
  rename News _ _ _ _ => N9
  exact next _ _ _ (unpin2 F9 hm) N9
end
local macro_rules | `(tactic| walk_at "gow") => `(tactic| repeat ((fail_if_success (with_reducible show wpAny _ _ (call (Value.ref _) _) _ _ _)); walk1; try dsimp only))
section -- ZL21
theorem offZL21 : True := by
  w_top off
  trivial
set_option maxRecDepth 100000
set_option maxHeartbeats 2000000
/-- a word as letters -/
structure Wd (a : Array UInt8) (l : List UInt8) : Prop where
  eq : a = l.toArray
  ne : l ≠ []
  low : ∀ i, i < l.toArray.size → (l.toArray.getD i 0).toNat < 128
  len : l.length ≤ 100
theorem Wd.dl {a : Array UInt8} {l : List UInt8} (h : Wd a l) : (dotted l).length ≤ 900 := by
  rw [dotted_len]
  have := h.len
  omega
/-- a range's iterator lies off the ledger -/
theorem it_off {g h : Heap} {L I P : Addr} {a b : Int} {news NMs r1 r2 : List (Addr × Obj)} {ps : List Value} (N : News g L h news) (hI : (I, itR a b) ∈ news) (hs : ∀ q ∈ (P, LCg.lst ps) :: (NMs ++ (r1 ++ r2)), q ∈ news)
    (ht1 : TabL 66 58 4 (Str.ofString "_int2digits.<locals>.inner") r1) (ht2 : TabL 73 73 4 (Str.ofString "_digits2int.<locals>.inner") r2) (notf : ∀ q ∈ NMs, ∀ vs, q.2.data ≠ .fields vs) :
    ∀ p ∈ (P, LCg.lst ps) :: (NMs ++ (r1 ++ r2)), p.1 ≠ I := by
  have tab : ∀ {P' l c : Nat} {q : Str} {tl : List (Addr × Obj)}, TabL P' l c q tl → ∀ p ∈ tl, p.2 ≠ itR a b := by
    intro P' l c q tl ht p hp e
    cases ht with
    | fresh =>
      rcases List.mem_singleton.mp hp with rfl
      exact absurd (congrArg Obj.cls e) (by intro h; cases h)
    | made hd hv hc =>
      rcases List.mem_cons.mp hp with rfl | hp
      · exact absurd (congrArg Obj.cls e) (by intro h; cases h)
      · rcases List.mem_singleton.mp hp with rfl
        have e' := congrArg Obj.data e
        rw [show (_, _).2 = _ from rfl, hd] at e'
        unfold itR at e'
        cases e'
        cases hv
  intro p hp e
  have h1 := (N _ (hs p hp)).1
  rw [show p.1 = I from e, (N _ hI).1] at h1
  have h2 : p.2 = itR a b := (Option.some.inj h1).symm
  rcases List.mem_cons.mp hp with hp | hp
  · rw [hp] at h2
    exact absurd (show Value.type "list" = Value.type "range_iterator" from congrArg Obj.cls h2) (by decide)
  · rcases List.mem_append.mp hp with hp | hp
    · exact notf p hp _ (by rw [h2]; rfl)
    · rcases List.mem_append.mp hp with hp | hp
      · exact tab ht1 p hp h2
      · exact tab ht2 p hp h2
theorem bn_not {a b : Bool} (h : a = b) : ¬ (a != b) = true := by subst h; simp
theorem Wd.con (w : World) {a : Array UInt8} {l : List UInt8} (h : Wd a l) (t : Tok) : Con w 1 120 [.bytes a t] (fun _ => True) (fun v own => own = [] ∧ ∃ t', v = .str (dotted l) t') := by
  obtain ⟨rfl, hne, hlow, hlen⟩ := h
  cases l with
  | nil => exact absurd rfl hne
  | cons c cs => exact dotted_con w c cs t hlow hlen
theorem law21 (w : World) {prog p : Program} {loose : List Str} {mean : ExcName → Option Value} {mg mb : Str → Option Value} {A₀ : Around} {base g : Heap} {L fa V W' WD M : Addr} {ccd : Value} {s : Shared} {Q : Flow → Shared → Prop} {o1 o2 o3 o4 o5 o6 o7 o8 : Obj} {h : Heap} {tk : Nat} {m : Str → Option Value}
    {ls : List Value} {f0 f1 f2 : Int} {ta tb tc ua ub uc xa xb xc : Tok} {rest r1 r2 : List (Addr × Obj)} {n : Nat} {t2 : Tok} {w0 w1 w2 m0 m1 m2 : Array UInt8} {P : Addr} {ps : List Value} {pw : List Int} {host : Str} {k0 k1 k2 l0 l1 l2 : List UInt8} {t9 : Tok}
    (B : Below A₀ base [] g) (X : (Mine.hd.heap_39 w.params).In g) (T : Top p loose mean mg mb g) (hv0 : 7 ≤ n) (hv1 : n ≤ 31)
    (F : Fr g L h m) (N : News g L h ((P, LCg.lst ps) :: newsM L M WD W' V m0 m1 m2 xa xb xc w0 w1 w2 ua ub uc f0 f1 f2 ta tb tc ls o1 o2 o3 o4 o5 o6 o7 o8 (r1 ++ r2)))
    (ht1 : TabL 66 58 4 (Str.ofString "_int2digits.<locals>.inner") r1) (ht2 : TabL 73 73 4 (Str.ofString "_digits2int.<locals>.inner") r2) (notf : ∀ q ∈ newsM L M WD W' V m0 m1 m2 xa xb xc w0 w1 w2 ua ub uc f0 f1 f2 ta tb tc ls o1 o2 o3 o4 o5 o6 o7 o8 [], ∀ vs, q.2.data ≠ .fields vs) (hmw : m (Str.ofString "words") = some (.ref WD)) (hmm : m (Str.ofString "mirrors") = some (.ref M)) (hmf : m (Str.ofString "factors") = some (.ref W')) (hmp : m (Str.ofString "powers") = some (.ref P)) (hmh : m (Str.ofString "host") = some (.str host t9))
    (d3 : o3.data = .cell (some (.int (n : Int) t2))) (hps : IntsAre ps pw) (hpw : pw.length = 6)
    (W0 : Wd w0 k0) (M0 : Wd m0 l0) (C0 : (∀ t u, Con w 2 50 [.str host t, .str (Txt.lower (dotted k0)) u] (fun _ => True) (fun v own => own = [] ∧ v = .bool (pw.any fun x => x == f0)))) (D0 : (∀ t u, Con w 2 50 [.str host t, .str (Txt.lower (dotted l0)) u] (fun _ => True) (fun v own => own = [] ∧ v = .bool (pw.any fun x => x == (n : Int) - f0)))) (W1 : Wd w1 k1) (M1 : Wd m1 l1) (C1 : (∀ t u, Con w 2 50 [.str host t, .str (Txt.lower (dotted k1)) u] (fun _ => True) (fun v own => own = [] ∧ v = .bool (pw.any fun x => x == f1)))) (D1 : (∀ t u, Con w 2 50 [.str host t, .str (Txt.lower (dotted l1)) u] (fun _ => True) (fun v own => own = [] ∧ v = .bool (pw.any fun x => x == (n : Int) - f1)))) (W2 : Wd w2 k2) (M2 : Wd m2 l2) (C2 : (∀ t u, Con w 2 50 [.str host t, .str (Txt.lower (dotted k2)) u] (fun _ => True) (fun v own => own = [] ∧ v = .bool (pw.any fun x => x == f2)))) (D2 : (∀ t u, Con w 2 50 [.str host t, .str (Txt.lower (dotted l2)) u] (fun _ => True) (fun v own => own = [] ∧ v = .bool (pw.any fun x => x == (n : Int) - f2))))
    (next : ∀ (m' : Str → Option Value) (h' : Heap) (tk' : Nat), Fr g L h' m' → News g L h' ((P, LCg.lst ps) :: newsM L M WD W' V m0 m1 m2 xa xb xc w0 w1 w2 ua ub uc f0 f1 f2 ta tb tc ls o1 o2 o3 o4 o5 o6 o7 o8 (r1 ++ r2)) → LawAt w prog L fa ccd Q 22 { s with heap := h', toks := tk' }) :
    LawAt w prog L fa ccd Q 21 { s with heap := h, toks := tk } := by
  unfold LawAt at next ⊢
  have es : lawScope w = lawScope w := rfl
  conv at es => rhs; whnf
  rw [es] at next ⊢
  clear es
  have F1 := pinF F hmw
  have F2 := pinF F1 (x := Str.ofString "mirrors") hmm
  have F3 := pinF F2 (x := Str.ofString "factors") hmf
  have F4 := pinF F3 (x := Str.ofString "powers") hmp
  have F5 := pinF F4 (x := Str.ofString "host") hmh
  clear F F1 F2 F3 F4
  refine consA ?_
  k_fold
  dsimp only [newsM, newsW, lawNews] at N
  have hz0 : (dotted k0).length ≤ 900 := W0.dl
  have hz1 : (dotted k1).length ≤ 900 := W1.dl
  have hz2 : (dotted k2).length ≤ 900 := W2.dl
  have hy0 : (dotted l0).length ≤ 900 := M0.dl
  have hy1 : (dotted l1).length ≤ 900 := M1.dl
  have hy2 : (dotted l2).length ≤ 900 := M2.dl
  walk_at "gow"
  rename Fr _ _ _ _ => FA
  rename News _ _ _ _ => NA
  refine (W0.con w _).use B FA X NA T rfl (by decide) (by decide) True.intro ?_
  rintro v own hh tkk ⟨rfl, tt, rfl⟩ FB NB hdr
  simp only [List.nil_append] at NB
  clear FA NA hdr
  dsimp only at *
  walk_at "gow"
  rename Fr _ _ _ _ => FA
  rename News _ _ _ _ => NA
  refine (C0 _ _).use B FA X NA T rfl (by decide) (by decide) True.intro ?_
  rintro v own hh2 tkk2 ⟨rfl, rfl⟩ FB NB hdr
  simp only [List.nil_append] at NB
  clear FA NA hdr
  dsimp only at *
  walk_at "gow"
  · exact absurd (by assumption) (bn_not rfl)
  · exact absurd (by assumption) (bn_not rfl)
  walk_at "gow"
  rename Fr _ _ _ _ => FA
  rename News _ _ _ _ => NA
  refine (M0.con w _).use B FA X NA T rfl (by decide) (by decide) True.intro ?_
  rintro v own hh tkk ⟨rfl, tt, rfl⟩ FB NB hdr
  simp only [List.nil_append] at NB
  clear FA NA hdr
  dsimp only at *
  walk_at "gow"
  rename Fr _ _ _ _ => FA
  rename News _ _ _ _ => NA
  refine (D0 _ _).use B FA X NA T rfl (by decide) (by decide) True.intro ?_
  rintro v own hh2 tkk2 ⟨rfl, rfl⟩ FB NB hdr
  simp only [List.nil_append] at NB
  clear FA NA hdr
  dsimp only at *
  walk_at "gow"
  · exact absurd (by assumption) (bn_not rfl)
  · exact absurd (by assumption) (bn_not rfl)
  walk_at "gow"
  rename Fr _ _ _ _ => FA
  rename News _ _ _ _ => NA
  refine UnrEnd.intro FA NA ((P, LCg.lst ps) :: newsM L M WD W' V m0 m1 m2 xa xb xc w0 w1 w2 ua ub uc f0 f1 f2 ta tb tc ls o1 o2 o3 o4 o5 o6 o7 o8 (r1 ++ r2)) (fun p hp => hp) (it_off NA (.head _) (fun p hp => .tail _ hp) ht1 ht2 notf) ?_
  clear FA NA
  dsimp only [newsM, newsW, lawNews]
  walk_at "gow"
  rename Fr _ _ _ _ => FA
  rename News _ _ _ _ => NA
  refine (W1.con w _).use B FA X NA T rfl (by decide) (by decide) True.intro ?_
  rintro v own hh tkk ⟨rfl, tt, rfl⟩ FB NB hdr
  simp only [List.nil_append] at NB
  clear FA NA hdr
  dsimp only at *
  walk_at "gow"
  rename Fr _ _ _ _ => FA
  rename News _ _ _ _ => NA
  refine (C1 _ _).use B FA X NA T rfl (by decide) (by decide) True.intro ?_
  rintro v own hh2 tkk2 ⟨rfl, rfl⟩ FB NB hdr
  simp only [List.nil_append] at NB
  clear FA NA hdr
  dsimp only at *
  walk_at "gow"
  · exact absurd (by assumption) (bn_not rfl)
  · exact absurd (by assumption) (bn_not rfl)
  walk_at "gow"
  rename Fr _ _ _ _ => FA
  rename News _ _ _ _ => NA
  refine (M1.con w _).use B FA X NA T rfl (by decide) (by decide) True.intro ?_
  rintro v own hh tkk ⟨rfl, tt, rfl⟩ FB NB hdr
  simp only [List.nil_append] at NB
  clear FA NA hdr
  dsimp only at *
  walk_at "gow"
  rename Fr _ _ _ _ => FA
  rename News _ _ _ _ => NA
  refine (D1 _ _).use B FA X NA T rfl (by decide) (by decide) True.intro ?_
  rintro v own hh2 tkk2 ⟨rfl, rfl⟩ FB NB hdr
  simp only [List.nil_append] at NB
  clear FA NA hdr
  dsimp only at *
  walk_at "gow"
  · exact absurd (by assumption) (bn_not rfl)
  · exact absurd (by assumption) (bn_not rfl)
  walk_at "gow"
  rename Fr _ _ _ _ => FA
  rename News _ _ _ _ => NA
  refine UnrEnd.intro FA NA ((P, LCg.lst ps) :: newsM L M WD W' V m0 m1 m2 xa xb xc w0 w1 w2 ua ub uc f0 f1 f2 ta tb tc ls o1 o2 o3 o4 o5 o6 o7 o8 (r1 ++ r2)) (fun p hp => hp) (it_off NA (.head _) (fun p hp => .tail _ hp) ht1 ht2 notf) ?_
  clear FA NA
  dsimp only [newsM, newsW, lawNews]
  walk_at "gow"
  rename Fr _ _ _ _ => FA
  rename News _ _ _ _ => NA
  refine (W2.con w _).use B FA X NA T rfl (by decide) (by decide) True.intro ?_
  rintro v own hh tkk ⟨rfl, tt, rfl⟩ FB NB hdr
  simp only [List.nil_append] at NB
  clear FA NA hdr
  dsimp only at *
  walk_at "gow"
  rename Fr _ _ _ _ => FA
  rename News _ _ _ _ => NA
  refine (C2 _ _).use B FA X NA T rfl (by decide) (by decide) True.intro ?_
  rintro v own hh2 tkk2 ⟨rfl, rfl⟩ FB NB hdr
  simp only [List.nil_append] at NB
  clear FA NA hdr
  dsimp only at *
  walk_at "gow"
  · exact absurd (by assumption) (bn_not rfl)
  · exact absurd (by assumption) (bn_not rfl)
  walk_at "gow"
  rename Fr _ _ _ _ => FA
  rename News _ _ _ _ => NA
  refine (M2.con w _).use B FA X NA T rfl (by decide) (by decide) True.intro ?_
  rintro v own hh tkk ⟨rfl, tt, rfl⟩ FB NB hdr
  simp only [List.nil_append] at NB
  clear FA NA hdr
  dsimp only at *
  walk_at "gow"
  rename Fr _ _ _ _ => FA
  rename News _ _ _ _ => NA
  refine (D2 _ _).use B FA X NA T rfl (by decide) (by decide) True.intro ?_
  rintro v own hh2 tkk2 ⟨rfl, rfl⟩ FB NB hdr
  simp only [List.nil_append] at NB
  clear FA NA hdr
  dsimp only at *
  walk_at "gow"
  · exact absurd (by assumption) (bn_not rfl)
  · exact absurd (by assumption) (bn_not rfl)
  walk_at "gow"
  rename Fr _ _ _ _ => FA
  rename News _ _ _ _ => NA
  refine UnrEnd.intro FA NA ((P, LCg.lst ps) :: newsM L M WD W' V m0 m1 m2 xa xb xc w0 w1 w2 ua ub uc f0 f1 f2 ta tb tc ls o1 o2 o3 o4 o5 o6 o7 o8 (r1 ++ r2)) (fun p hp => hp) (it_off NA (.head _) (fun p hp => .tail _ hp) ht1 ht2 notf) ?_
  clear FA NA
  dsimp only [newsM, newsW, lawNews]
  walk_at "gow"
  rename Fr _ _ _ _ => FA
  rename News _ _ _ _ => NA
  exact next _ _ _ FA NA
end
section -- ZL22
theorem offZL22 : True := by
  w_top off
  trivial
set_option maxRecDepth 100000
set_option maxHeartbeats 2000000
theorem law22 (w : World) {prog p : Program} {loose : List Str} {mean : ExcName → Option Value} {mg mb : Str → Option Value} {A₀ : Around} {base g : Heap} {L fa : Addr} {ccd : Value} {s : Shared} {Q : Flow → Shared → Prop} {h : Heap} {tk : Nat} {m : Str → Option Value} {news : List (Addr × Obj)}
    (B : Below A₀ base [] g) (X : (Mine.hd.heap_39 w.params).In g) (T : Top p loose mean mg mb g) (F : Fr g L h m) (N : News g L h news)
    (hq : Q (.ret (.bool true)) { s with heap := h, toks := tk }) :
    LawAt w prog L fa ccd Q 22 { s with heap := h, toks := tk } := by
  unfold LawAt
  have es : lawScope w = lawScope w := rfl
  conv at es => rhs; whnf
  rw [es]
  clear es
  refine wpN_of ?_
  walk_at "gol"
  exact hq
end
section -- PA
theorem offPA : True := by
  w_top off
  trivial
set_option maxRecDepth 100000
theorem snoc_ind {α : Type} {P : List α → Prop} (h0 : P []) (h1 : ∀ l a, P l → P (l ++ [a])) (l : List α) : P l := by
  have h : ∀ l : List α, P l.reverse := by
    intro l
    induction l with
    | nil => exact h0
    | cons a r ih => rw [List.reverse_cons]; exact h1 _ _ ih
  have := h l.reverse
  rwa [List.reverse_reverse] at this
/-- the n digits by 16, the highest first -/
def digs : Nat → Nat → List Nat
  | 0, _ => []
  | n + 1, r => digs n (r / 16) ++ [r % 16]
def ltr (d : Nat) : UInt8 := (65 + d).toUInt8
def ofD (l : List Nat) : Nat := l.foldl (fun a d => 16 * a + d) 0
theorem digs_len : ∀ (n r : Nat), (digs n r).length = n
  | 0, _ => rfl
  | n + 1, r => by simp [digs, digs_len n]
theorem digs_lt : ∀ (n r : Nat), ∀ d ∈ digs n r, d < 16
  | 0, _, d, h => nomatch h
  | n + 1, r, d, h => by
    rcases List.mem_append.mp h with h | h
    · exact digs_lt n _ d h
    · rw [List.mem_singleton.mp h]; exact Nat.mod_lt _ (by decide)
theorem ofD_snoc (l : List Nat) (d : Nat) : ofD (l ++ [d]) = 16 * ofD l + d := by simp [ofD]
theorem ofD_digs : ∀ (n r : Nat), r < 16 ^ n → ofD (digs n r) = r
  | 0, r, h => by simp at h; subst h; rfl
  | n + 1, r, h => by
    rw [digs, ofD_snoc, ofD_digs n (r / 16) (by rw [Nat.pow_succ] at h; omega)]
    omega
theorem digs_ofD : ∀ (l : List Nat) (n : Nat), l.length = n → (∀ d ∈ l, d < 16) → digs n (ofD l) = l := by
  refine snoc_ind (fun n h _ => by subst h; rfl) ?_
  · intro l d ih n h hd
    have hd' : d < 16 := hd d (by simp)
    obtain ⟨k, rfl⟩ : ∃ k, n = k + 1 := ⟨n - 1, by simp at h; omega⟩
    rw [digs, ofD_snoc, show (16 * ofD l + d) / 16 = ofD l by omega, show (16 * ofD l + d) % 16 = d by omega, ih k (by simpa using h) fun x hx => hd x (by simp [hx])]
theorem apF_digs : ∀ (n f r : Nat) (acc : List UInt8), n + 2 ≤ f → r < 16 ^ n → apF f (16 ^ n + r) acc = 66 :: ((digs n r).map ltr ++ acc)
  | 0, f, r, acc, hf, hr => by
    obtain ⟨g, rfl⟩ : ∃ g, f = g + 2 := ⟨f - 2, by omega⟩
    simp at hr
    subst hr
    rfl
  | n + 1, f, r, acc, hf, hr => by
    obtain ⟨g, rfl⟩ : ∃ g, f = g + 1 := ⟨f - 1, by omega⟩
    have hp : 0 < 16 ^ n := Nat.pow_pos (by decide)
    have e1 : (16 ^ (n + 1) + r) / 16 = 16 ^ n + r / 16 := by rw [Nat.pow_succ]; omega
    have e2 : (16 ^ (n + 1) + r) % 16 = r % 16 := by rw [Nat.pow_succ]; omega
    rw [apF, if_neg (by rw [Nat.pow_succ]; omega), e1, e2, apF_digs n g (r / 16) _ (by omega) (by rw [Nat.pow_succ] at hr; omega), digs]
    simp [ltr]
theorem ap_digs {n r : Nat} (hn : n ≤ 62) (hr : r < 16 ^ n) : ap (16 ^ n + r) = 66 :: (digs n r).map ltr := by
  unfold ap
  rw [apF_digs n 64 r [] (by omega) hr, List.append_nil]
theorem tail_picked (c : UInt8) (l : List UInt8) : KBy.picked (c :: l).toArray (some 1) none = l.toArray := by
  rw [KBc.picked_eq]
  show (((c :: l).drop (clipAt (l.length + 1) 1)).take ((l.length + 1) - clipAt (l.length + 1) 1)).toArray = _
  have e : clipAt (l.length + 1) 1 = 1 := by rw [KBc.clip_lit (l.length + 1) 1]; omega
  rw [e]
  simp
theorem word_digs {n r : Nat} (hn : n ≤ 62) (hr : r < 16 ^ n) : KBy.picked (ap (16 ^ n + r)).toArray (some 1) none = ((digs n r).map ltr).toArray := by
  rw [ap_digs hn hr, tail_picked]
theorem ltr_toNat {d : Nat} (h : d < 16) : (ltr d).toNat = 65 + d := by
  unfold ltr
  simp [Nat.toUInt8]
  omega
theorem worth_digs : ∀ (l : List Nat), (∀ d ∈ l, d < 16) → worth (l.map ltr) = (ofD l : Int) := by
  refine snoc_ind (fun _ => rfl) ?_
  · intro l d ih h
    have ih' := ih fun x hx => h x (by simp [hx])
    rw [ofD_snoc]
    unfold worth at ih' ⊢
    rw [List.map_append, List.foldl_append, ih']
    simp only [List.map_cons, List.map_nil, List.foldl_cons, List.foldl_nil]
    rw [ltr_toNat (h d (by simp))]
    omega
end
section -- PB
theorem offPB : True := by
  w_top off
  trivial
set_option maxRecDepth 100000
theorem picked_nat (b : Array UInt8) (i k : Nat) (h : i + k ≤ b.size) : KBy.picked b (some ((i : Nat) : Int)) (some ((i + k : Nat) : Int)) = ((b.toList.drop i).take k).toArray := by
  rw [KBc.picked_eq]
  simp only [Option.elim]
  rw [clipAt_nat, clipAt_nat, Nat.min_eq_left (by omega), Nat.min_eq_left (by omega), show i + k - i = k by omega]
theorem swp_size (d : Array UInt8) (n : Nat) : (swp d n).size = d.size := by simp [swp, swPart]
theorem swp_getElem {d : Array UInt8} {n x : Nat} (h : x < (swp d n).size) : (swp d n)[x] = if swPos n x < d.size then d.getD (swPos n x) 0 else 0 := by
  simp [swp, swPart]
theorem mir_rev {d : Array UInt8} {n k c : Nat} (hn : 0 < n) (hd : d.size = n * c) (hk : k < c) : KBy.picked (swp d n) (some ((n * k : Nat) : Int)) (some ((n * k + n : Nat) : Int)) = ((d.toList.drop (n * k)).take n).reverse.toArray := by
  have hle : n * k + n ≤ d.size := by
    rw [hd, ← Nat.mul_succ]
    exact Nat.mul_le_mul_left n hk
  rw [picked_nat _ _ _ (by rw [swp_size]; exact hle)]
  congr 1
  apply List.ext_getElem
  · simp [swp_size]
  · intro i h1 h2
    have hi : i < n := by
      rw [List.length_take, List.length_drop, Array.length_toList, swp_size] at h1
      omega
    rw [List.getElem_take, List.getElem_drop, List.getElem_reverse, List.getElem_take, List.getElem_drop]
    have e1 : (swp d n).toList[n * k + i]'(by rw [Array.length_toList, swp_size]; omega) = (swp d n)[n * k + i]'(by rw [swp_size]; omega) := by simp
    rw [e1, swp_getElem, swPos_eq hi, if_pos (by omega)]
    have hlt : n * k + (n - 1 - i) < d.size := by omega
    simp only [Array.getD, hlt, dif_pos]
    have e2 : ((d.toList.drop (n * k)).take n).length = n := by
      rw [List.length_take, List.length_drop, Array.length_toList]; omega
    simp [e2]
theorem mirOf_eq (d : Array UInt8) (n k : Nat) : mirOf d n (k : Int) = KBy.picked d (some ((n * k : Nat) : Int)) (some ((n * k + n : Nat) : Int)) := by
  unfold mirOf
  simp
theorem mir3 {a b c : List UInt8} {n : Nat} (hn : 0 < n) (ha : a.length = n) (hb : b.length = n) (hc : c.length = n) :
    mirOf (swp (a.toArray ++ b.toArray ++ c.toArray) n) n 0 = a.reverse.toArray ∧ mirOf (swp (a.toArray ++ b.toArray ++ c.toArray) n) n 1 = b.reverse.toArray ∧ mirOf (swp (a.toArray ++ b.toArray ++ c.toArray) n) n 2 = c.reverse.toArray := by
  have hd : (a.toArray ++ b.toArray ++ c.toArray).size = n * 3 := by simp; omega
  have e : (a.toArray ++ b.toArray ++ c.toArray).toList = a ++ (b ++ c) := by simp
  refine ⟨?_, ?_, ?_⟩
  · have h := (mirOf_eq (swp (a.toArray ++ b.toArray ++ c.toArray) n) n 0).trans (mir_rev hn hd (by decide))
    rw [e] at h
    refine h.trans ?_
    rw [Nat.mul_zero, List.drop_zero, ← ha, List.take_left]
  · have h := (mirOf_eq (swp (a.toArray ++ b.toArray ++ c.toArray) n) n 1).trans (mir_rev hn hd (by decide))
    rw [e] at h
    refine h.trans ?_
    rw [Nat.mul_one, ← ha, List.drop_left, ha, ← hb, List.take_left]
  · have h := (mirOf_eq (swp (a.toArray ++ b.toArray ++ c.toArray) n) n 2).trans (mir_rev hn hd (by decide))
    rw [e] at h
    refine h.trans ?_
    rw [← List.append_assoc, show n * 2 = (a ++ b).length by simp; omega, List.drop_left, ← hc, List.take_length]
theorem swp_one {a : List UInt8} {n : Nat} (hn : 0 < n) (ha : a.length = n) : swp a.toArray n = a.reverse.toArray := by
  have h := mir_rev (d := a.toArray) (n := n) (k := 0) (c := 1) hn (by simp [ha]) (by decide)
  rw [picked_nat _ _ _ (by rw [swp_size]; simp [ha])] at h
  have e : (swp a.toArray n).toList.length = n := by simp [swp_size, ha]
  simp only [Nat.mul_zero, List.drop_zero] at h
  rw [List.take_of_length_le (Nat.le_of_eq e), List.take_of_length_le (Nat.le_of_eq ha)] at h
  simpa using h
end
section -- PC
theorem offPC : True := by
  w_top off
  trivial
open PySem.Builtin
set_option maxRecDepth 100000
theorem picked_one {l : List UInt8} {k : Nat} (h : k < l.length) : (KBy.picked l.toArray (some (k : Int)) (some ((k : Int) + 1))).toList = [l[k]] := by
  have e := picked_nat l.toArray k 1 (by simp; omega)
  rw [show ((k + 1 : Nat) : Int) = (k : Int) + 1 by omega] at e
  rw [e]
  simp only [List.drop_eq_getElem_cons h, List.take_succ_cons, List.take_zero]
/-- one step of the count -/
theorem occ_fold (b : Array UInt8) (c : UInt8) (f : List Nat × Nat → Nat → List Nat × Nat)
    (hf : ∀ a i, f a i = if (decide (i ≥ a.2) && b.extract i (i + 1) == #[c]) = true then (i :: a.1, i + 1) else a) :
    ∀ k, k ≤ b.size → ((List.range k).foldl f ([], 0)).1.length = (b.toList.take k).count c ∧ ((List.range k).foldl f ([], 0)).2 ≤ k
  | 0, _ => by simp
  | k + 1, h => by
    have ih := occ_fold b c f hf k (by omega)
    rw [List.range_succ, List.foldl_append]
    simp only [List.foldl_cons, List.foldl_nil]
    rw [hf]
    have hk : k < b.toList.length := by simp; omega
    rw [List.take_succ_eq_append_getElem hk, List.count_append, List.count_singleton]
    have e : (b.extract k (k + 1) == #[c]) = (b.toList[k] == c) := by
      have e1 : b.extract k (k + 1) = #[b.toList[k]] := by
        apply Array.ext
        · simp; omega
        · intro i h1 h2
          have : i = 0 := by simpa using h2
          subst this
          simp
      rw [e1]
      simp
    rw [e, show decide (k ≥ ((List.range k).foldl f ([], 0)).2) = true from by simpa using ih.2, Bool.true_and]
    by_cases hc : (b.toList[k] == c) = true
    · rw [if_pos hc, if_pos hc]
      exact ⟨by simp [ih.1], Nat.le_refl _⟩
    · rw [if_neg hc, if_neg hc]
      exact ⟨by simp [ih.1], Nat.le_succ_of_le ih.2⟩
theorem occ_count (b : Array UInt8) (c : UInt8) : (Bytes.occurrences b #[c] 0 b.size).length = b.toList.count c := by
  unfold Bytes.occurrences
  simp only [List.length_reverse]
  have e : ((List.range (b.size + 1 - (0 + (#[c] : Array UInt8).size))).map (· + 0)) = List.range b.size := by simp
  rw [e]
  have h := (occ_fold b c (fun (acc : List Nat × Nat) (i : Nat) => if (decide (i ≥ acc.2) && b.extract i (i + (#[c] : Array UInt8).size) == #[c]) = true then (i :: acc.1, i + (#[c] : Array UInt8).size) else acc) (fun _ _ => rfl) b.size (Nat.le_refl _)).1
  rw [List.take_of_length_le (by simp)] at h
  exact h
theorem bpl_fold (l : List UInt8) (f : List Int → Int → List Int) (hf : ∀ a (k : Nat) (h : k < l.length), f a (k : Int) = if l[k] = 66 then a ++ [(k : Int)] else a) :
    ∀ k, k ≤ l.length → (rangeKs 0 k).foldl f [] = ((List.range k).filter fun i => l.getD i 0 == 66).map fun (i : Nat) => (i : Int)
  | 0, _ => rfl
  | k + 1, h => by
    have ih := bpl_fold l f hf k (by omega)
    have e : rangeKs 0 (k + 1) = rangeKs 0 k ++ [(k : Int)] := by simp [rangeKs, List.range_succ]
    have hk : k < l.length := by omega
    rw [e, List.foldl_append, ih]
    simp only [List.foldl_cons, List.foldl_nil]
    rw [hf _ k hk, List.range_succ, List.filter_append, List.map_append]
    have e2 : l.getD k 0 = l[k] := by simp [List.getD, hk]
    by_cases hc : l[k] = 66
    · rw [if_pos hc, List.filter_cons, e2, hc]
      rfl
    · rw [if_neg hc, List.filter_cons, e2, if_neg (by simpa using hc)]
      simp
theorem bplaces_eq {l : List UInt8} {n : Nat} (hl : l.length = n) : bplaces l.toArray n = ((List.range n).filter fun i => l.getD i 0 == 66).map fun (i : Nat) => (i : Int) := by
  unfold bplaces
  rw [show ((n : Int) - 0).toNat = n by omega]
  refine bpl_fold l _ (fun a k h => ?_) n (by omega)
  rw [picked_one h]
  by_cases hc : l[k] = 66
  · rw [if_pos hc, if_pos]
    rw [hc]
    exact ⟨rfl, rfl⟩
  · rw [if_neg hc, if_neg, if_pos]
    · simp [hc]
    · simp [hc]
/-- the digits, lowest first -/
theorem digs_rev : ∀ (n r : Nat), (digs n r).reverse = (List.range n).map fun k => r / 16 ^ k % 16
  | 0, _ => rfl
  | n + 1, r => by
    rw [digs, List.reverse_append, digs_rev n, List.range_succ_eq_map]
    simp only [List.reverse_singleton, List.singleton_append, List.map_cons, List.map_map, Nat.pow_zero, Nat.div_one]
    congr 1
    apply List.map_congr_left
    intro k _
    simp only [Function.comp, Nat.pow_succ']
    rw [Nat.div_div_eq_div_mul]
/-- the places of digit 1 -/
def ones (n r : Nat) : List Nat := (List.range n).filter fun k => r / 16 ^ k % 16 == 1
theorem ltr_inj {a b : Nat} (ha : a < 16) (hb : b < 16) : ltr a = ltr b ↔ a = b := by
  constructor
  · intro h
    have := congrArg UInt8.toNat h
    rw [ltr_toNat ha, ltr_toNat hb] at this
    omega
  · rintro rfl; rfl
theorem bplaces_digs (n r : Nat) : bplaces (((digs n r).map ltr).reverse).toArray n = (ones n r).map fun (i : Nat) => (i : Int) := by
  rw [bplaces_eq (by simp [digs_len])]
  congr 1
  unfold ones
  apply List.filter_congr
  intro k hk
  have hk' := List.mem_range.mp hk
  rw [← List.map_reverse, digs_rev]
  have e : (((List.range n).map fun k => r / 16 ^ k % 16).map ltr).getD k 0 = ltr (r / 16 ^ k % 16) := by simp [List.getD, hk']
  rw [e, show (66 : UInt8) = ltr 1 from rfl]
  have := ltr_inj (a := r / 16 ^ k % 16) (b := 1) (Nat.mod_lt _ (by decide)) (by decide)
  by_cases hc : r / 16 ^ k % 16 = 1
  · rw [hc]; rfl
  · have h2 : ¬ ltr (r / 16 ^ k % 16) = ltr 1 := fun h => hc (this.mp h)
    rw [beq_eq_false_iff_ne.mpr h2, beq_eq_false_iff_ne.mpr hc]
theorem bplaces_sorted (n r : Nat) : ((ones n r).map fun (i : Nat) => (i : Int)).Pairwise (· ≤ ·) := by
  rw [List.pairwise_map]
  refine List.Pairwise.filter _ ?_
  refine (List.pairwise_lt_range (n := n)).imp ?_
  intro a b h
  omega
theorem count_digs (n r d : Nat) (hd : d < 16) : ((digs n r).map ltr).reverse.count (ltr d) = (List.range n).countP fun k => r / 16 ^ k % 16 == d := by
  rw [← List.map_reverse, digs_rev, List.map_map, List.count_eq_countP, List.countP_map]
  apply List.countP_congr
  intro k _
  show (ltr (r / 16 ^ k % 16) == ltr d) = true ↔ (r / 16 ^ k % 16 == d) = true
  rw [beq_iff_eq, beq_iff_eq]
  exact ltr_inj (Nat.mod_lt _ (by decide)) hd
end
section -- PD
theorem offPD : True := by
  w_top off
  trivial
open PySem.Builtin PySem.Builtin.Str
set_option maxRecDepth 100000
def dl (ds : List Nat) : List Nat := ds.flatMap fun d => [46, 97 + d]
abbrev tx (l : List Nat) : PySem.Str := ⟨l.toArray⟩
theorem dl_cons (d : Nat) (r : List Nat) : dl (d :: r) = 46 :: (97 + d) :: dl r := rfl
theorem dl_len : ∀ ds : List Nat, (dl ds).length = 2 * ds.length
  | [] => rfl
  | d :: r => by rw [dl_cons]; simp only [List.length_cons, dl_len r]; omega
theorem dl_mem {ds : List Nat} (h : ∀ d ∈ ds, d < 16) : ∀ c ∈ dl ds, c = 46 ∨ (97 ≤ c ∧ c ≤ 112) := by
  intro c hc
  obtain ⟨d, hd, hc⟩ := List.mem_flatMap.mp hc
  have := h d hd
  simp at hc
  omega
theorem dotted_low : ∀ ds : List Nat, (∀ d ∈ ds, d < 16) → (dotted (ds.map ltr)).cps.toList.map lo1 = dl ds ∧ ∀ c ∈ (dotted (ds.map ltr)).cps.toList, c < 128
  | [], _ => ⟨rfl, fun _ h => nomatch h⟩
  | d :: r, h => by
    have hd := h d (.head _)
    have ih := dotted_low r fun x hx => h x (.tail _ hx)
    have e : (dotted ((d :: r).map ltr)).cps.toList = 46 :: (ltr d).toNat :: (dotted (r.map ltr)).cps.toList := rfl
    rw [e, ltr_toNat hd]
    refine ⟨?_, ?_⟩
    · rw [List.map_cons, List.map_cons, ih.1, dl_cons]
      have e1 : lo1 46 = 46 := by decide
      have e2 : lo1 (65 + d) = 97 + d := by unfold lo1; rw [if_pos (by omega)]; omega
      rw [e1, e2]
    · intro c hc
      rcases List.mem_cons.mp hc with rfl | hc
      · decide
      · rcases List.mem_cons.mp hc with rfl | hc
        · omega
        · exact ih.2 c hc
theorem str_of_list {x : PySem.Str} {l : List Nat} (h : x.cps.toList = l) : x = tx l := by
  apply PySem.Str.ext'
  subst h
  simp
theorem low_dotted {ds : List Nat} (h : ∀ d ∈ ds, d < 16) : Txt.lower (dotted (ds.map ltr)) = tx (dl ds) := by
  have := dotted_low ds h
  rw [lower_ascii this.2]
  refine str_of_list ?_
  rw [Array.toList_map, this.1]
theorem low_dl {ds : List Nat} (h : ∀ d ∈ ds, d < 16) : Txt.lower (tx (dl ds)) = tx (dl ds) := by
  have hm := dl_mem h
  rw [lower_ascii (x := tx (dl ds)) fun c hc => by have := hm c hc; omega]
  refine str_of_list ?_
  rw [Array.toList_map]
  have : ∀ l : List Nat, (∀ c ∈ l, c = 46 ∨ (97 ≤ c ∧ c ≤ 112)) → l.map lo1 = l := by
    intro l hl
    conv => rhs; rw [← List.map_id l]
    apply List.map_congr_left
    intro c hc
    have := hl c hc
    unfold lo1
    rw [if_neg (by omega)]
    rfl
  exact this _ hm
theorem x_str : Str.ofString "x" = tx [120] := by decide +kernel
theorem dot_str : Str.ofString "." = tx [46] := by decide +kernel
theorem low_host {ds : List Nat} (h : ∀ d ∈ ds, d < 16) : Txt.lower (Str.ofString "x" ++ dotted (ds.map ltr)) = tx (120 :: dl ds) := by
  have hd := dotted_low ds h
  have e : (Str.ofString "x" ++ dotted (ds.map ltr)).cps.toList = 120 :: (dotted (ds.map ltr)).cps.toList := by
    rw [x_str, PySem.Str.cps_append]; simp
  rw [lower_ascii fun c hc => by
    rw [e] at hc
    rcases List.mem_cons.mp hc with rfl | hc
    · decide
    · exact hd.2 c hc]
  refine str_of_list ?_
  rw [Array.toList_map, e, List.map_cons, hd.1]
  rfl
theorem nodig_of {l : List Nat} (h : ∀ c ∈ l, c = 120 ∨ c = 46 ∨ (97 ≤ c ∧ c ≤ 112)) (i : Nat) : Sre.isDigit ((tx l).cps.getD i 0) = false := by
  have e : (tx l).cps.getD i 0 = l.getD i 0 := by
    simp only [Array.getD, List.getD]
    by_cases hi : i < l.length
    · simp [hi]
    · simp [hi]
  rw [e]
  by_cases hi : i < l.length
  · have e2 : l.getD i 0 = l[i] := by simp [List.getD, hi]
    rw [e2]
    have := h l[i] (List.getElem_mem hi)
    unfold Sre.isDigit
    simp
    omega
  · have e2 : l.getD i 0 = 0 := by simp [List.getD, Nat.not_lt.mp hi]
    rw [e2]
    decide
theorem item0 (c : Nat) (l : List Nat) : Txt.item (tx (c :: l)) 0 = tx [c] := by
  have := item_zero_left c l ⟨#[]⟩
  have e : (⟨(c :: l).toArray⟩ ++ (⟨#[]⟩ : PySem.Str)) = tx (c :: l) := str_of_list (by rw [PySem.Str.cps_append]; simp)
  rwa [e] at this
theorem itemL (c : Nat) (l : List Nat) : Txt.item (tx (l ++ [c])) (-1) = tx [c] := by
  have := item_last_right ⟨#[]⟩ l c
  have e : ((⟨#[]⟩ : PySem.Str) ++ ⟨(l ++ [c]).toArray⟩) = tx (l ++ [c]) := str_of_list (by rw [PySem.Str.cps_append]; simp)
  rwa [e] at this
theorem tx_ne {c d : Nat} (h : c ≠ d) : (tx [c] == tx [d]) = false := by
  rw [beq_eq_false_iff_ne]
  intro e
  have := congrArg (fun x => x.cps.toList) e
  simp at this
  exact h this
theorem dl_snoc (ds : List Nat) (d : Nat) : dl (ds ++ [d]) = (dl ds ++ [46]) ++ [97 + d] := by simp [dl]
theorem hdn_host {ds : List Nat} (h : ∀ d ∈ ds, d < 16) (hne : ds ≠ []) (hl : ds.length ≤ 400) : Hdn (tx (120 :: dl ds)) where
  nodig := nodig_of fun c hc => by
    rcases List.mem_cons.mp hc with rfl | hc
    · exact .inl rfl
    · exact .inr (dl_mem h c hc)
  le := by simp [dl_len]; omega
  pos := by simp
  first := by rw [item0, dot_str]; exact tx_ne (by decide)
  last := by
    obtain ⟨r, d, rfl⟩ : ∃ r d, ds = r ++ [d] := ⟨ds.dropLast, ds.getLast hne, (List.dropLast_concat_getLast hne).symm⟩
    have e : 120 :: dl (r ++ [d]) = (120 :: (dl r ++ [46])) ++ [97 + d] := by rw [dl_snoc]; rfl
    rw [e, itemL, dot_str]
    exact tx_ne (by omega)
end
section -- PE
theorem offPE : True := by
  w_top off
  trivial
open PySem.Builtin PySem.Builtin.Str
set_option maxRecDepth 100000
theorem slice1 (c : Nat) (l : List Nat) : Txt.slice (tx (c :: l)) (some 1) none = tx l := by
  have hl : (tx (c :: l)).length = l.length + 1 := by simp [PySem.Str.length]
  rw [slice_from_eq (b := ((l.length + 1 : Nat) : Int)) (by decide) (by rw [hl]; omega) (by rw [hl])]
  refine str_of_list ?_
  have e : (((l.length + 1 : Nat) : Int) - 1).toNat = l.length := by omega
  rw [e]
  simp
theorem hdn_tail {ds : List Nat} (h : ∀ d ∈ ds, d < 16) (hne : ds ≠ []) (hl : ds.length ≤ 400) : Hdn (Txt.slice (tx (dl ds)) (some 1) none) := by
  obtain ⟨d, r, rfl⟩ : ∃ d r, ds = d :: r := by
    cases ds with
    | nil => exact absurd rfl hne
    | cons d r => exact ⟨d, r, rfl⟩
  rw [dl_cons, slice1]
  refine ⟨nodig_of fun c hc => ?_, ?_, ?_, ?_, ?_⟩
  · have := dl_mem h c (by rw [dl_cons]; exact .tail _ hc)
    exact .inr this
  · simp only [List.length_cons] at hl
    simp [dl_len]
    omega
  · simp
  · rw [item0, dot_str]; exact tx_ne (by omega)
  · have hn : d :: r ≠ [] := by simp
    have e : (97 + d) :: dl r = ((46 :: (97 + d) :: dl r).drop 1) := rfl
    obtain ⟨q, z, hq⟩ : ∃ q z, d :: r = q ++ [z] := ⟨(d :: r).dropLast, (d :: r).getLast hn, (List.dropLast_concat_getLast hn).symm⟩
    rw [e, ← dl_cons, hq, dl_snoc]
    have e3 : ((dl q ++ [46]) ++ [97 + z]).drop 1 = ((dl q ++ [46]).drop 1) ++ [97 + z] := by
      rw [List.drop_append_of_le_length (by simp)]
    rw [e3, itemL, dot_str]
    exact tx_ne (by omega)
theorem starts_dot {ds : List Nat} (hne : ds ≠ []) : Txt.startswith (tx (dl ds)) (Str.ofString ".") = true := by
  cases ds with
  | nil => exact absurd rfl hne
  | cons d r =>
    rw [dot_str, dl_cons]
    unfold Txt.startswith
    rw [StrLaws.subAt_eq]
    simp [PySem.Str.length]
theorem at_iff (x y : List Nat) (i : Nat) : StrLaws.At (tx x) (tx y) (tx x).length i ↔ (i + y.length ≤ x.length ∧ (x.drop i).take y.length = y) := by
  unfold StrLaws.At
  rw [StrLaws.subAt_eq]
  simp [PySem.Str.length]
theorem dl_drop : ∀ (j : Nat) (es : List Nat), (dl es).drop (2 * j) = dl (es.drop j)
  | 0, es => by simp
  | j + 1, [] => by simp [dl]
  | j + 1, e :: r => by
    rw [dl_cons, show 2 * (j + 1) = 2 * j + 1 + 1 by omega, List.drop_succ_cons, List.drop_succ_cons, dl_drop j r]
    rfl
theorem dl_take : ∀ (k : Nat) (es : List Nat), (dl es).take (2 * k) = dl (es.take k)
  | 0, es => by simp [dl]
  | k + 1, [] => by simp [dl]
  | k + 1, e :: r => by
    rw [dl_cons, show 2 * (k + 1) = 2 * k + 1 + 1 by omega, List.take_succ_cons, List.take_succ_cons, dl_take k r]
    rfl
theorem dl_inj : ∀ {a b : List Nat}, dl a = dl b → a = b
  | [], [], _ => rfl
  | [], b :: r, h => by rw [dl_cons] at h; exact absurd h (by simp [dl])
  | a :: r, [], h => by rw [dl_cons] at h; exact absurd h (by simp [dl])
  | a :: r, b :: q, h => by
    rw [dl_cons, dl_cons] at h
    injection h with _ h
    injection h with h1 h2
    rw [dl_inj h2, show a = b by omega]
/-- where a word stands in the host -/
theorem at_host {es ds : List Nat} (hne : ds ≠ []) (i : Nat) : ((120 :: dl es).drop i).take (dl ds).length = dl ds ↔ ∃ j, i = 2 * j + 1 ∧ (es.drop j).take ds.length = ds := by
  obtain ⟨d, r, rfl⟩ : ∃ d r, ds = d :: r := by
    cases ds with
    | nil => exact absurd rfl hne
    | cons d r => exact ⟨d, r, rfl⟩
  rw [dl_len]
  constructor
  · intro h
    cases i with
    | zero =>
      rw [List.drop_zero, dl_cons, show 2 * (d :: r).length = 2 * r.length + 1 + 1 by simp only [List.length_cons]; omega, List.take_succ_cons] at h
      injection h with h1 _
      cases h1
    | succ i =>
      rw [List.drop_succ_cons] at h
      obtain ⟨j, hj⟩ : ∃ j, i = 2 * j ∨ i = 2 * j + 1 := ⟨i / 2, by omega⟩
      rcases hj with rfl | rfl
      · refine ⟨j, rfl, ?_⟩
        rw [dl_drop, dl_take] at h
        exact dl_inj h
      · exfalso
        rw [← List.drop_drop, dl_drop] at h
        cases he : es.drop j with
        | nil =>
          rw [he, dl_cons] at h
          simp [dl] at h
        | cons e q =>
          rw [he, dl_cons, dl_cons, List.drop_succ_cons, List.drop_zero, show 2 * (d :: r).length = 2 * r.length + 1 + 1 by simp only [List.length_cons]; omega, List.take_succ_cons] at h
          injection h with h1 _
          omega
  · rintro ⟨j, rfl, h⟩
    rw [List.drop_succ_cons, dl_drop, dl_take, h]
theorem rfind_host {es ds : List Nat} (hne : ds ≠ []) : Txt.rfind (tx (120 :: dl es)) (tx (dl ds)) ≠ 0 ∧ (Txt.rfind (tx (120 :: dl es)) (tx (dl ds)) ≠ -1 ↔ ∃ j, j + ds.length ≤ es.length ∧ (es.drop j).take ds.length = ds) := by
  have key : ∀ i, StrLaws.At (tx (120 :: dl es)) (tx (dl ds)) (tx (120 :: dl es)).length i ↔ ∃ j, i = 2 * j + 1 ∧ j + ds.length ≤ es.length ∧ (es.drop j).take ds.length = ds := by
    intro i
    rw [at_iff, at_host hne, dl_len, List.length_cons, dl_len]
    constructor
    · rintro ⟨h1, j, rfl, h2⟩
      exact ⟨j, rfl, by omega, h2⟩
    · rintro ⟨j, rfl, h1, h2⟩
      exact ⟨by omega, j, rfl, h2⟩
  rcases rfind_whole (tx (120 :: dl es)) (tx (dl ds)) with ⟨h0, hn⟩ | ⟨i, h0, hi, _⟩
  · rw [h0]
    refine ⟨by decide, fun h => absurd rfl h, ?_⟩
    rintro ⟨j, h1, h2⟩
    exact absurd ((key (2 * j + 1)).mpr ⟨j, rfl, h1, h2⟩) (hn _)
  · obtain ⟨j, rfl, h1, h2⟩ := (key i).mp hi
    rw [h0]
    exact ⟨by omega, fun _ => ⟨j, h1, h2⟩, fun _ => by omega⟩
theorem host_ne {es ds : List Nat} : (tx (120 :: dl es) == tx (dl ds)) = false := by
  rw [beq_eq_false_iff_ne]
  intro e
  have h := congrArg (fun x => x.cps.toList) e
  simp only [List.toList_toArray] at h
  cases ds with
  | nil => cases h
  | cons d r => rw [dl_cons] at h; injection h with h _; cases h
/-- what domain_match says of a host and a word -/
theorem dm_word (w : World) {es ds : List Nat} (he : ∀ d ∈ es, d < 16) (hd : ∀ d ∈ ds, d < 16) (hne : ds ≠ []) (hen : es ≠ []) (hel : es.length ≤ 100) (hdl : ds.length ≤ 100) (b : Bool)
    (hb : b = true ↔ ∃ j, j + ds.length ≤ es.length ∧ (es.drop j).take ds.length = ds) (t u : Tok) :
    Con w 2 50 [.str (Str.ofString "x" ++ dotted (es.map ltr)) t, .str (Txt.lower (dotted (ds.map ltr))) u] (fun _ => True) (fun v own => own = [] ∧ v = .bool b) := by
  have hr := rfind_host (es := es) hne
  have c := dm_con w (Str.ofString "x" ++ dotted (es.map ltr)) (Txt.lower (dotted (ds.map ltr))) (tx (120 :: dl es)) (tx (dl ds)) t u
    (by rw [PySem.Str.length_append, x_str, dotted_len, List.length_map]; show 1 + _ ≤ _; omega) (by rw [low_dotted hd]; show (dl ds).toArray.size ≤ 900; rw [List.size_toArray, dl_len]; omega)
    (low_host he) (by rw [low_dotted hd, low_dl hd]) host_ne (hdn_host he hen (by omega)) (hdn_tail hd hne (by omega)) (starts_dot hne) hr.1
  have e : decide (Txt.rfind (tx (120 :: dl es)) (tx (dl ds)) ≠ -1) = b := by
    cases b with
    | true => exact decide_eq_true (hr.2.mpr (hb.mp rfl))
    | false => exact decide_eq_false fun h => absurd (hb.mpr (hr.2.mp h)) (by decide)
  rwa [e] at c
end
section -- PF
theorem offPF : True := by
  w_top off
  trivial
set_option maxRecDepth 100000
theorem ofD_append (a b : List Nat) : ofD (a ++ b) = ofD a * 16 ^ b.length + ofD b := by
  refine snoc_ind (P := fun b => ofD (a ++ b) = ofD a * 16 ^ b.length + ofD b) (by simp [ofD]) (fun l d ih => ?_) b
  rw [← List.append_assoc, ofD_snoc, ofD_snoc, ih, List.length_append, List.length_singleton, Nat.pow_succ, Nat.mul_add]
  have e : 16 * (ofD a * 16 ^ l.length) = ofD a * (16 ^ l.length * 16) := by rw [Nat.mul_comm 16, Nat.mul_assoc]
  rw [e]
  omega
theorem ofD_lt : ∀ (l : List Nat), (∀ d ∈ l, d < 16) → ofD l < 16 ^ l.length := by
  refine snoc_ind (fun _ => by decide) ?_
  intro l d ih h
  have h1 := ih fun x hx => h x (by simp [hx])
  have h2 := h d (by simp)
  rw [ofD_snoc, List.length_append, List.length_singleton, Nat.pow_succ]
  omega
/-- the digits turned by j places -/
theorem rot_val {n r j : Nat} (hr : r < 16 ^ n) (hj : j ≤ n) : ofD ((digs n r).drop j ++ (digs n r).take j) % (16 ^ n - 1) = r * 16 ^ j % (16 ^ n - 1) ∧ ofD ((digs n r).drop j ++ (digs n r).take j) < 16 ^ n := by
  have hp : 0 < 16 ^ n := Nat.pow_pos (by decide)
  have e1 : ofD ((digs n r).take j) * 16 ^ (n - j) + ofD ((digs n r).drop j) = r := by
    have h := ofD_append ((digs n r).take j) ((digs n r).drop j)
    rw [List.take_append_drop, ofD_digs n r hr, List.length_drop, digs_len] at h
    exact h.symm
  have e2 : ofD ((digs n r).drop j ++ (digs n r).take j) = ofD ((digs n r).drop j) * 16 ^ j + ofD ((digs n r).take j) := by
    rw [ofD_append, List.length_take, digs_len, Nat.min_eq_left hj]
  refine ⟨?_, ?_⟩
  · generalize ofD ((digs n r).take j) = h at e1 e2
    generalize ofD ((digs n r).drop j) = t at e1 e2
    rw [e2, ← e1, Nat.add_mul, Nat.mul_assoc, ← Nat.pow_add, show n - j + j = n by omega]
    have e3 : h * 16 ^ n = h * (16 ^ n - 1) + h := by
      rw [Nat.mul_sub, Nat.mul_one]
      have : h * 1 ≤ h * 16 ^ n := Nat.mul_le_mul_left h hp
      omega
    rw [e3, show h * (16 ^ n - 1) + h + t * 16 ^ j = t * 16 ^ j + h + h * (16 ^ n - 1) by omega, Nat.add_mul_mod_self_right]
  · have h := ofD_lt ((digs n r).drop j ++ (digs n r).take j) fun d hd => by
      rcases List.mem_append.mp hd with hd | hd
      · exact digs_lt n r d (List.mem_of_mem_drop hd)
      · exact digs_lt n r d (List.mem_of_mem_take hd)
    have e : ((digs n r).drop j ++ (digs n r).take j).length = n := by simp [digs_len]; omega
    rwa [e] at h
def Rot (n r s : Nat) : Prop := ∃ j, s = r * 16 ^ j % (16 ^ n - 1)
theorem pow_one_mod {n : Nat} (hn : 0 < n) (q : Nat) : (16 ^ n) ^ q % (16 ^ n - 1) = 1 % (16 ^ n - 1) := by
  have hp : 16 ^ 1 ≤ 16 ^ n := Nat.pow_le_pow_right (by decide) hn
  have e : 16 ^ n % (16 ^ n - 1) = 1 % (16 ^ n - 1) := by
    conv => lhs; rw [show 16 ^ n = 1 + (16 ^ n - 1) by omega]
    rw [show 1 + (16 ^ n - 1) - 1 = 16 ^ n - 1 by omega, Nat.add_mod_right]
  rw [Nat.pow_mod, e, ← Nat.pow_mod, Nat.one_pow]
theorem mul_pow_turn {n : Nat} (hn : 0 < n) (r q j : Nat) : r * 16 ^ (n * q + j) % (16 ^ n - 1) = r * 16 ^ j % (16 ^ n - 1) := by
  rw [Nat.pow_add, Nat.pow_mul, show r * ((16 ^ n) ^ q * 16 ^ j) = (16 ^ n) ^ q * (r * 16 ^ j) by rw [← Nat.mul_assoc, Nat.mul_comm r, Nat.mul_assoc], Nat.mul_mod, pow_one_mod hn, ← Nat.mul_mod, Nat.one_mul]
theorem Rot.small {n r s : Nat} (hn : 0 < n) (h : Rot n r s) : ∃ j, j < n ∧ s = r * 16 ^ j % (16 ^ n - 1) := by
  obtain ⟨j, rfl⟩ := h
  refine ⟨j % n, Nat.mod_lt _ hn, ?_⟩
  conv => lhs; rw [← Nat.div_add_mod j n]
  exact mul_pow_turn hn r _ _
theorem Rot.trans {n a b c : Nat} (h1 : Rot n a b) (h2 : Rot n b c) : Rot n a c := by
  obtain ⟨i, rfl⟩ := h1
  obtain ⟨j, rfl⟩ := h2
  refine ⟨i + j, ?_⟩
  rw [Nat.pow_add, ← Nat.mul_assoc, Nat.mod_mul_mod]
theorem Rot.symm {n a b : Nat} (hn : 0 < n) (ha : a < 16 ^ n - 1) (h : Rot n a b) : Rot n b a := by
  obtain ⟨j, rfl⟩ := h
  refine ⟨n * j - j, ?_⟩
  have hle : j ≤ n * j := by
    have := Nat.mul_le_mul_right j hn
    omega
  rw [Nat.mod_mul_mod, Nat.mul_assoc, ← Nat.pow_add, show j + (n * j - j) = n * j + 0 by omega, mul_pow_turn hn, Nat.pow_zero, Nat.mul_one, Nat.mod_eq_of_lt ha]
/-- a word stands in the doubled line if and only if it is the line turned -/
theorem occ_iff {n a b : Nat} (hn : 0 < n) (ha : a < 16 ^ n) (hb0 : 0 < b) (hb : b < 16 ^ n - 1) :
    (∃ j, j + (digs n b).length ≤ (digs n a ++ digs n a).length ∧ ((digs n a ++ digs n a).drop j).take (digs n b).length = digs n b) ↔ Rot n a b := by
  have hD := digs_len n a
  have turn : ∀ j, j ≤ n → ((digs n a ++ digs n a).drop j).take n = (digs n a).drop j ++ (digs n a).take j := by
    intro j hj
    rw [List.drop_append_of_le_length (by omega), List.take_append, List.take_of_length_le (by rw [List.length_drop]; omega), List.length_drop, hD, show n - (n - j) = j by omega]
  rw [digs_len, List.length_append, hD]
  constructor
  · rintro ⟨j, h1, h2⟩
    rw [turn j (by omega)] at h2
    have hv := rot_val ha (j := j) (by omega)
    rw [h2, ofD_digs n b (by omega)] at hv
    refine ⟨j, ?_⟩
    rw [← hv.1, Nat.mod_eq_of_lt hb]
  · intro h
    obtain ⟨j, hj, e⟩ := h.small hn
    have hv := rot_val ha (j := j) (by omega)
    refine ⟨j, by omega, ?_⟩
    rw [turn j (by omega)]
    have hl : ((digs n a).drop j ++ (digs n a).take j).length = n := by simp [digs_len]; omega
    have hd : ∀ d ∈ (digs n a).drop j ++ (digs n a).take j, d < 16 := fun d hd => by
      rcases List.mem_append.mp hd with hd | hd
      · exact digs_lt n a d (List.mem_of_mem_drop hd)
      · exact digs_lt n a d (List.mem_of_mem_take hd)
    have hb2 : ofD ((digs n a).drop j ++ (digs n a).take j) = b := by
      generalize ofD ((digs n a).drop j ++ (digs n a).take j) = V at hv
      rw [e, ← hv.1] at hb0 ⊢
      by_cases hV : V = 16 ^ n - 1
      · rw [hV, Nat.mod_self] at hb0; omega
      · rw [Nat.mod_eq_of_lt (by omega)]
    rw [← hb2, digs_ofD _ n hl hd]
end
section -- PG
theorem offPG : True := by
  w_top off
  trivial
set_option maxRecDepth 100000
/-- the digits, lowest first -/
def ld : Nat → Nat → List Nat
  | 0, _ => []
  | n + 1, r => r % 16 :: ld n (r / 16)
theorem digs_ld : ∀ (n r : Nat), (digs n r).reverse = ld n r
  | 0, _ => rfl
  | n + 1, r => by rw [digs, List.reverse_append, digs_ld n]; rfl
/-- the places of digit 1 -/
def onesL : Nat → List Nat → List Nat
  | _, [] => []
  | k, d :: r => bif Nat.beq d 1 then k :: onesL (k + 1) r else onesL (k + 1) r
def cntL (x : Nat) : List Nat → Nat
  | [] => 0
  | d :: r => bif Nat.beq d x then cntL x r + 1 else cntL x r
def hasL (x : Nat) : List Nat → Bool
  | [] => false
  | d :: r => bif Nat.beq d x then true else hasL x r
theorem onesL_eq : ∀ (l : List Nat) (k : Nat), onesL k l = ((List.range l.length).filter fun i => l.getD i 0 == 1).map fun i => k + i
  | [], _ => rfl
  | d :: r, k => by
    have ih := onesL_eq r (k + 1)
    have e : ((List.range (d :: r).length).filter fun i => (d :: r).getD i 0 == 1) = (if d = 1 then [0] else []) ++ ((List.range r.length).filter fun i => r.getD i 0 == 1).map Nat.succ := by
      rw [List.length_cons, List.range_succ_eq_map, List.filter_cons, List.filter_map]
      have e1 : ((d :: r).getD 0 0 == 1) = decide (d = 1) := by
        by_cases h : d = 1 <;> simp [h]
      rw [e1]
      have e2 : ((fun i => (d :: r).getD i 0 == 1) ∘ Nat.succ) = fun i => r.getD i 0 == 1 := by
        funext i
        simp [List.getD]
      rw [e2]
      by_cases h : d = 1 <;> simp [h]
    rw [e, List.map_append, List.map_map, onesL, ih]
    have e3 : (((List.range r.length).filter fun i => r.getD i 0 == 1).map ((fun i => k + i) ∘ Nat.succ)) = ((List.range r.length).filter fun i => r.getD i 0 == 1).map fun i => k + 1 + i := by
      apply List.map_congr_left
      intro i _
      show k + (i + 1) = k + 1 + i
      omega
    rw [e3]
    by_cases h : d = 1
    · subst h; rfl
    · have : Nat.beq d 1 = false := by rw [← Bool.not_eq_true, Nat.beq_eq]; exact h
      rw [this, if_neg h]
      rfl
theorem cntL_eq (x : Nat) : ∀ l : List Nat, cntL x l = l.countP (· == x)
  | [] => rfl
  | d :: r => by
    rw [cntL, cntL_eq x r, List.countP_cons]
    by_cases h : d = x
    · subst h
      simp
    · have : Nat.beq d x = false := by rw [← Bool.not_eq_true, Nat.beq_eq]; exact h
      rw [this]
      simp [h]
theorem hasL_eq (x : Nat) : ∀ l : List Nat, hasL x l = true ↔ x ∈ l
  | [] => by simp [hasL]
  | d :: r => by
    rw [hasL, List.mem_cons]
    by_cases h : d = x
    · subst h
      simp
    · have : Nat.beq d x = false := by rw [← Bool.not_eq_true, Nat.beq_eq]; exact h
      rw [this]
      simp only [cond_false, hasL_eq x r]
      constructor
      · exact .inr
      · rintro (h2 | h2)
        · exact absurd h2.symm h
        · exact h2
theorem ones_ld (n r : Nat) : ones n r = onesL 0 (ld n r) := by
  rw [onesL_eq, ← digs_ld, List.length_reverse, digs_len]
  have e : ∀ l : List Nat, (l.map fun i => 0 + i) = l := by intro l; simp
  rw [e]
  unfold ones
  apply List.filter_congr
  intro k hk
  have hk' := List.mem_range.mp hk
  rw [digs_rev]
  simp [List.getD, hk']
theorem cnt_ld (n r x : Nat) : ((List.range n).countP fun k => r / 16 ^ k % 16 == x) = cntL x (ld n r) := by
  rw [cntL_eq, ← digs_ld, digs_rev, List.countP_map]
  rfl
def lineN (n : Nat) (ps : List Nat) (u c : Nat) : List Nat := ps.map fun x => (u * x + c) % n
def rN (n : Nat) (ps : List Nat) (u c : Nat) : Nat := ((lineN n ps u c).map fun x => 16 ^ x).sum
def chkA (n m K o : Nat) (ps : List Nat) (u c a b : Nat) (l : List Nat) : Bool :=
  Nat.ble 1 a && Nat.ble (a + 1) m && Nat.beq (ofD (ld n a)) b && Nat.beq (a * b % m) K && Nat.beq a (rN n ps u 0 * 16 ^ c % m) &&
    ((onesL 0 l).isPerm ((lineN n ps u c).map fun x => 2 * x % n)) && Nat.beq (cntL 2 l) (o * (o + 1) / 2) && Nat.beq (cntL 0 l) (o * (o - 1) / 2)
def chk1 (n m K o : Nat) (ps : List Nat) (u : Nat) : Bool := (List.range n).all fun c => chkA n m K o ps u c (rN n ps u c) (rN n ps (n - u) (n - 1 - c)) (ld n (rN n ps u c * rN n ps u c % m))
def chk2 (n m : Nat) (ps us pw : List Nat) (u : Nat) : Bool := hasL (n - u) us && Nat.ble 1 u && Nat.ble (u + 1) n && us.all fun f => hasL (f * u % n) us && ((List.range n).any (fun j => Nat.beq (rN n ps (f * u % n) 0) (rN n ps u 0 * 16 ^ j % m)) == hasL f pw)
def us13 : List Nat := [1, 2, 3, 4, 5, 6, 7, 8, 9, 10, 11, 12]
def pw13 : List Nat := [1, 3, 9, 1, 3, 9]
theorem ck13_1 : chk1 13 4503599627370495 1144664905290001 3 [0, 1, 3, 9] 1 = true := by decide +kernel
theorem ck13_2 : chk1 13 4503599627370495 1144664905290001 3 [0, 1, 3, 9] 2 = true := by decide +kernel
theorem ck13_3 : chk1 13 4503599627370495 1144664905290001 3 [0, 1, 3, 9] 3 = true := by decide +kernel
theorem ck13_4 : chk1 13 4503599627370495 1144664905290001 3 [0, 1, 3, 9] 4 = true := by decide +kernel
theorem ck13_5 : chk1 13 4503599627370495 1144664905290001 3 [0, 1, 3, 9] 5 = true := by decide +kernel
theorem ck13_6 : chk1 13 4503599627370495 1144664905290001 3 [0, 1, 3, 9] 6 = true := by decide +kernel
theorem ck13_7 : chk1 13 4503599627370495 1144664905290001 3 [0, 1, 3, 9] 7 = true := by decide +kernel
theorem ck13_8 : chk1 13 4503599627370495 1144664905290001 3 [0, 1, 3, 9] 8 = true := by decide +kernel
theorem ck13_9 : chk1 13 4503599627370495 1144664905290001 3 [0, 1, 3, 9] 9 = true := by decide +kernel
theorem ck13_10 : chk1 13 4503599627370495 1144664905290001 3 [0, 1, 3, 9] 10 = true := by decide +kernel
theorem ck13_11 : chk1 13 4503599627370495 1144664905290001 3 [0, 1, 3, 9] 11 = true := by decide +kernel
theorem ck13_12 : chk1 13 4503599627370495 1144664905290001 3 [0, 1, 3, 9] 12 = true := by decide +kernel
theorem ck13 : ∀ u ∈ us13, chk1 13 4503599627370495 1144664905290001 3 [0, 1, 3, 9] u = true := by
  intro u h
  unfold us13 at h
  rcases List.mem_cons.mp h with rfl | h
  · exact ck13_1
  rcases List.mem_cons.mp h with rfl | h
  · exact ck13_2
  rcases List.mem_cons.mp h with rfl | h
  · exact ck13_3
  rcases List.mem_cons.mp h with rfl | h
  · exact ck13_4
  rcases List.mem_cons.mp h with rfl | h
  · exact ck13_5
  rcases List.mem_cons.mp h with rfl | h
  · exact ck13_6
  rcases List.mem_cons.mp h with rfl | h
  · exact ck13_7
  rcases List.mem_cons.mp h with rfl | h
  · exact ck13_8
  rcases List.mem_cons.mp h with rfl | h
  · exact ck13_9
  rcases List.mem_cons.mp h with rfl | h
  · exact ck13_10
  rcases List.mem_cons.mp h with rfl | h
  · exact ck13_11
  rcases List.mem_cons.mp h with rfl | h
  · exact ck13_12
  cases h
theorem cr13 : (us13.all fun u => chk2 13 4503599627370495 [0, 1, 3, 9] us13 pw13 u) = true := by decide +kernel
def us7 : List Nat := [1, 2, 3, 4, 5, 6]
def pw7 : List Nat := [1, 2, 4, 1, 2, 4]
theorem ck7_1 : chk1 7 268435455 51450129 2 [1, 2, 4] 1 = true := by decide +kernel
theorem ck7_2 : chk1 7 268435455 51450129 2 [1, 2, 4] 2 = true := by decide +kernel
theorem ck7_3 : chk1 7 268435455 51450129 2 [1, 2, 4] 3 = true := by decide +kernel
theorem ck7_4 : chk1 7 268435455 51450129 2 [1, 2, 4] 4 = true := by decide +kernel
theorem ck7_5 : chk1 7 268435455 51450129 2 [1, 2, 4] 5 = true := by decide +kernel
theorem ck7_6 : chk1 7 268435455 51450129 2 [1, 2, 4] 6 = true := by decide +kernel
theorem ck7 : ∀ u ∈ us7, chk1 7 268435455 51450129 2 [1, 2, 4] u = true := by
  intro u h
  unfold us7 at h
  rcases List.mem_cons.mp h with rfl | h
  · exact ck7_1
  rcases List.mem_cons.mp h with rfl | h
  · exact ck7_2
  rcases List.mem_cons.mp h with rfl | h
  · exact ck7_3
  rcases List.mem_cons.mp h with rfl | h
  · exact ck7_4
  rcases List.mem_cons.mp h with rfl | h
  · exact ck7_5
  rcases List.mem_cons.mp h with rfl | h
  · exact ck7_6
  cases h
theorem cr7 : (us7.all fun u => chk2 7 268435455 [1, 2, 4] us7 pw7 u) = true := by decide +kernel
def us31 : List Nat := [1, 2, 3, 4, 5, 6, 7, 8, 9, 10, 11, 12, 13, 14, 15, 16, 17, 18, 19, 20, 21, 22, 23, 24, 25, 26, 27, 28, 29, 30]
def pw31 : List Nat := [1, 5, 25, 1, 5, 25]
theorem ck31_1 : chk1 31 21267647932558653966460912964485513215 8063983174428489628949762832367423761 5 [1, 5, 11, 24, 25, 27] 1 = true := by decide +kernel
theorem ck31_2 : chk1 31 21267647932558653966460912964485513215 8063983174428489628949762832367423761 5 [1, 5, 11, 24, 25, 27] 2 = true := by decide +kernel
theorem ck31_3 : chk1 31 21267647932558653966460912964485513215 8063983174428489628949762832367423761 5 [1, 5, 11, 24, 25, 27] 3 = true := by decide +kernel
theorem ck31_4 : chk1 31 21267647932558653966460912964485513215 8063983174428489628949762832367423761 5 [1, 5, 11, 24, 25, 27] 4 = true := by decide +kernel
theorem ck31_5 : chk1 31 21267647932558653966460912964485513215 8063983174428489628949762832367423761 5 [1, 5, 11, 24, 25, 27] 5 = true := by decide +kernel
theorem ck31_6 : chk1 31 21267647932558653966460912964485513215 8063983174428489628949762832367423761 5 [1, 5, 11, 24, 25, 27] 6 = true := by decide +kernel
theorem ck31_7 : chk1 31 21267647932558653966460912964485513215 8063983174428489628949762832367423761 5 [1, 5, 11, 24, 25, 27] 7 = true := by decide +kernel
theorem ck31_8 : chk1 31 21267647932558653966460912964485513215 8063983174428489628949762832367423761 5 [1, 5, 11, 24, 25, 27] 8 = true := by decide +kernel
theorem ck31_9 : chk1 31 21267647932558653966460912964485513215 8063983174428489628949762832367423761 5 [1, 5, 11, 24, 25, 27] 9 = true := by decide +kernel
theorem ck31_10 : chk1 31 21267647932558653966460912964485513215 8063983174428489628949762832367423761 5 [1, 5, 11, 24, 25, 27] 10 = true := by decide +kernel
theorem ck31_11 : chk1 31 21267647932558653966460912964485513215 8063983174428489628949762832367423761 5 [1, 5, 11, 24, 25, 27] 11 = true := by decide +kernel
theorem ck31_12 : chk1 31 21267647932558653966460912964485513215 8063983174428489628949762832367423761 5 [1, 5, 11, 24, 25, 27] 12 = true := by decide +kernel
theorem ck31_13 : chk1 31 21267647932558653966460912964485513215 8063983174428489628949762832367423761 5 [1, 5, 11, 24, 25, 27] 13 = true := by decide +kernel
theorem ck31_14 : chk1 31 21267647932558653966460912964485513215 8063983174428489628949762832367423761 5 [1, 5, 11, 24, 25, 27] 14 = true := by decide +kernel
theorem ck31_15 : chk1 31 21267647932558653966460912964485513215 8063983174428489628949762832367423761 5 [1, 5, 11, 24, 25, 27] 15 = true := by decide +kernel
theorem ck31_16 : chk1 31 21267647932558653966460912964485513215 8063983174428489628949762832367423761 5 [1, 5, 11, 24, 25, 27] 16 = true := by decide +kernel
theorem ck31_17 : chk1 31 21267647932558653966460912964485513215 8063983174428489628949762832367423761 5 [1, 5, 11, 24, 25, 27] 17 = true := by decide +kernel
theorem ck31_18 : chk1 31 21267647932558653966460912964485513215 8063983174428489628949762832367423761 5 [1, 5, 11, 24, 25, 27] 18 = true := by decide +kernel
theorem ck31_19 : chk1 31 21267647932558653966460912964485513215 8063983174428489628949762832367423761 5 [1, 5, 11, 24, 25, 27] 19 = true := by decide +kernel
theorem ck31_20 : chk1 31 21267647932558653966460912964485513215 8063983174428489628949762832367423761 5 [1, 5, 11, 24, 25, 27] 20 = true := by decide +kernel
theorem ck31_21 : chk1 31 21267647932558653966460912964485513215 8063983174428489628949762832367423761 5 [1, 5, 11, 24, 25, 27] 21 = true := by decide +kernel
theorem ck31_22 : chk1 31 21267647932558653966460912964485513215 8063983174428489628949762832367423761 5 [1, 5, 11, 24, 25, 27] 22 = true := by decide +kernel
theorem ck31_23 : chk1 31 21267647932558653966460912964485513215 8063983174428489628949762832367423761 5 [1, 5, 11, 24, 25, 27] 23 = true := by decide +kernel
theorem ck31_24 : chk1 31 21267647932558653966460912964485513215 8063983174428489628949762832367423761 5 [1, 5, 11, 24, 25, 27] 24 = true := by decide +kernel
theorem ck31_25 : chk1 31 21267647932558653966460912964485513215 8063983174428489628949762832367423761 5 [1, 5, 11, 24, 25, 27] 25 = true := by decide +kernel
theorem ck31_26 : chk1 31 21267647932558653966460912964485513215 8063983174428489628949762832367423761 5 [1, 5, 11, 24, 25, 27] 26 = true := by decide +kernel
theorem ck31_27 : chk1 31 21267647932558653966460912964485513215 8063983174428489628949762832367423761 5 [1, 5, 11, 24, 25, 27] 27 = true := by decide +kernel
theorem ck31_28 : chk1 31 21267647932558653966460912964485513215 8063983174428489628949762832367423761 5 [1, 5, 11, 24, 25, 27] 28 = true := by decide +kernel
theorem ck31_29 : chk1 31 21267647932558653966460912964485513215 8063983174428489628949762832367423761 5 [1, 5, 11, 24, 25, 27] 29 = true := by decide +kernel
theorem ck31_30 : chk1 31 21267647932558653966460912964485513215 8063983174428489628949762832367423761 5 [1, 5, 11, 24, 25, 27] 30 = true := by decide +kernel
theorem ck31 : ∀ u ∈ us31, chk1 31 21267647932558653966460912964485513215 8063983174428489628949762832367423761 5 [1, 5, 11, 24, 25, 27] u = true := by
  intro u h
  unfold us31 at h
  rcases List.mem_cons.mp h with rfl | h
  · exact ck31_1
  rcases List.mem_cons.mp h with rfl | h
  · exact ck31_2
  rcases List.mem_cons.mp h with rfl | h
  · exact ck31_3
  rcases List.mem_cons.mp h with rfl | h
  · exact ck31_4
  rcases List.mem_cons.mp h with rfl | h
  · exact ck31_5
  rcases List.mem_cons.mp h with rfl | h
  · exact ck31_6
  rcases List.mem_cons.mp h with rfl | h
  · exact ck31_7
  rcases List.mem_cons.mp h with rfl | h
  · exact ck31_8
  rcases List.mem_cons.mp h with rfl | h
  · exact ck31_9
  rcases List.mem_cons.mp h with rfl | h
  · exact ck31_10
  rcases List.mem_cons.mp h with rfl | h
  · exact ck31_11
  rcases List.mem_cons.mp h with rfl | h
  · exact ck31_12
  rcases List.mem_cons.mp h with rfl | h
  · exact ck31_13
  rcases List.mem_cons.mp h with rfl | h
  · exact ck31_14
  rcases List.mem_cons.mp h with rfl | h
  · exact ck31_15
  rcases List.mem_cons.mp h with rfl | h
  · exact ck31_16
  rcases List.mem_cons.mp h with rfl | h
  · exact ck31_17
  rcases List.mem_cons.mp h with rfl | h
  · exact ck31_18
  rcases List.mem_cons.mp h with rfl | h
  · exact ck31_19
  rcases List.mem_cons.mp h with rfl | h
  · exact ck31_20
  rcases List.mem_cons.mp h with rfl | h
  · exact ck31_21
  rcases List.mem_cons.mp h with rfl | h
  · exact ck31_22
  rcases List.mem_cons.mp h with rfl | h
  · exact ck31_23
  rcases List.mem_cons.mp h with rfl | h
  · exact ck31_24
  rcases List.mem_cons.mp h with rfl | h
  · exact ck31_25
  rcases List.mem_cons.mp h with rfl | h
  · exact ck31_26
  rcases List.mem_cons.mp h with rfl | h
  · exact ck31_27
  rcases List.mem_cons.mp h with rfl | h
  · exact ck31_28
  rcases List.mem_cons.mp h with rfl | h
  · exact ck31_29
  rcases List.mem_cons.mp h with rfl | h
  · exact ck31_30
  cases h
theorem cr31 : (us31.all fun u => chk2 31 21267647932558653966460912964485513215 [1, 5, 11, 24, 25, 27] us31 pw31 u) = true := by decide +kernel
def us21 : List Nat := [1, 2, 4, 5, 8, 10, 11, 13, 16, 17, 19, 20]
def pw21 : List Nat := [1, 2, 4, 8, 16, 11]
theorem ck21_1 : chk1 21 19342813113834066795298815 6125224152714121151844625 4 [3, 6, 7, 12, 14] 1 = true := by decide +kernel
theorem ck21_2 : chk1 21 19342813113834066795298815 6125224152714121151844625 4 [3, 6, 7, 12, 14] 2 = true := by decide +kernel
theorem ck21_4 : chk1 21 19342813113834066795298815 6125224152714121151844625 4 [3, 6, 7, 12, 14] 4 = true := by decide +kernel
theorem ck21_5 : chk1 21 19342813113834066795298815 6125224152714121151844625 4 [3, 6, 7, 12, 14] 5 = true := by decide +kernel
theorem ck21_8 : chk1 21 19342813113834066795298815 6125224152714121151844625 4 [3, 6, 7, 12, 14] 8 = true := by decide +kernel
theorem ck21_10 : chk1 21 19342813113834066795298815 6125224152714121151844625 4 [3, 6, 7, 12, 14] 10 = true := by decide +kernel
theorem ck21_11 : chk1 21 19342813113834066795298815 6125224152714121151844625 4 [3, 6, 7, 12, 14] 11 = true := by decide +kernel
theorem ck21_13 : chk1 21 19342813113834066795298815 6125224152714121151844625 4 [3, 6, 7, 12, 14] 13 = true := by decide +kernel
theorem ck21_16 : chk1 21 19342813113834066795298815 6125224152714121151844625 4 [3, 6, 7, 12, 14] 16 = true := by decide +kernel
theorem ck21_17 : chk1 21 19342813113834066795298815 6125224152714121151844625 4 [3, 6, 7, 12, 14] 17 = true := by decide +kernel
theorem ck21_19 : chk1 21 19342813113834066795298815 6125224152714121151844625 4 [3, 6, 7, 12, 14] 19 = true := by decide +kernel
theorem ck21_20 : chk1 21 19342813113834066795298815 6125224152714121151844625 4 [3, 6, 7, 12, 14] 20 = true := by decide +kernel
theorem ck21 : ∀ u ∈ us21, chk1 21 19342813113834066795298815 6125224152714121151844625 4 [3, 6, 7, 12, 14] u = true := by
  intro u h
  unfold us21 at h
  rcases List.mem_cons.mp h with rfl | h
  · exact ck21_1
  rcases List.mem_cons.mp h with rfl | h
  · exact ck21_2
  rcases List.mem_cons.mp h with rfl | h
  · exact ck21_4
  rcases List.mem_cons.mp h with rfl | h
  · exact ck21_5
  rcases List.mem_cons.mp h with rfl | h
  · exact ck21_8
  rcases List.mem_cons.mp h with rfl | h
  · exact ck21_10
  rcases List.mem_cons.mp h with rfl | h
  · exact ck21_11
  rcases List.mem_cons.mp h with rfl | h
  · exact ck21_13
  rcases List.mem_cons.mp h with rfl | h
  · exact ck21_16
  rcases List.mem_cons.mp h with rfl | h
  · exact ck21_17
  rcases List.mem_cons.mp h with rfl | h
  · exact ck21_19
  rcases List.mem_cons.mp h with rfl | h
  · exact ck21_20
  cases h
theorem cr21 : (us21.all fun u => chk2 21 19342813113834066795298815 [3, 6, 7, 12, 14] us21 pw21 u) = true := by decide +kernel
end
section -- PH
theorem offPH : True := by
  w_top off
  trivial
set_option maxRecDepth 100000
open Builtin.Int (intBits)
/-- all that the checks say of a plane -/
structure PlaneOk (n K o : Nat) (ps us pw : List Nat) : Prop where
  hn0 : 7 ≤ n
  hn1 : n ≤ 31
  len : ps.length ≤ 6
  line : ∀ u ∈ us, ∀ c, c < n → chkA n (16 ^ n - 1) K o ps u c (rN n ps u c) (rN n ps (n - u) (n - 1 - c)) (ld n (rN n ps u c * rN n ps u c % (16 ^ n - 1))) = true
  turn : ∀ u ∈ us, chk2 n (16 ^ n - 1) ps us pw u = true
  apK : ap K = (66 + o).toUInt8 :: List.replicate (n - 1) 66
  bits : intBits ((16 : Int) ^ n - 1) = 4 * n
theorem ok13 : PlaneOk 13 1144664905290001 3 [0, 1, 3, 9] us13 pw13 where
  hn0 := by decide
  hn1 := by decide
  len := by decide
  line := fun u hu c hc => List.all_eq_true.mp (ck13 u hu) c (List.mem_range.mpr hc)
  turn := fun u hu => List.all_eq_true.mp cr13 u hu
  apK := by decide +kernel
  bits := by decide +kernel
theorem ok7 : PlaneOk 7 51450129 2 [1, 2, 4] us7 pw7 where
  hn0 := by decide
  hn1 := by decide
  len := by decide
  line := fun u hu c hc => List.all_eq_true.mp (ck7 u hu) c (List.mem_range.mpr hc)
  turn := fun u hu => List.all_eq_true.mp cr7 u hu
  apK := by decide +kernel
  bits := by decide +kernel
theorem ok31 : PlaneOk 31 8063983174428489628949762832367423761 5 [1, 5, 11, 24, 25, 27] us31 pw31 where
  hn0 := by decide
  hn1 := by decide
  len := by decide
  line := fun u hu c hc => List.all_eq_true.mp (ck31 u hu) c (List.mem_range.mpr hc)
  turn := fun u hu => List.all_eq_true.mp cr31 u hu
  apK := by decide +kernel
  bits := by decide +kernel
theorem ok21 : PlaneOk 21 6125224152714121151844625 4 [3, 6, 7, 12, 14] us21 pw21 where
  hn0 := by decide
  hn1 := by decide
  len := by decide
  line := fun u hu c hc => List.all_eq_true.mp (ck21 u hu) c (List.mem_range.mpr hc)
  turn := fun u hu => List.all_eq_true.mp cr21 u hu
  apK := by decide +kernel
  bits := by decide +kernel
/-- one line's facts -/
structure LineOk (n K o : Nat) (ps : List Nat) (u c a b s : Nat) : Prop where
  a0 : 0 < a
  am : a < 16 ^ n - 1
  rev : (digs n a).reverse = digs n b
  prod : a * b % (16 ^ n - 1) = K
  sh : a = rN n ps u 0 * 16 ^ c % (16 ^ n - 1)
  dbl : (ones n s).Perm ((lineN n ps u c).map fun x => 2 * x % n)
  twos : ((List.range n).countP fun k => s / 16 ^ k % 16 == 2) = o * (o + 1) / 2
  nils : ((List.range n).countP fun k => s / 16 ^ k % 16 == 0) = o * (o - 1) / 2
theorem digs_rev_of {n a b : Nat} (h : ofD (ld n a) = b) : (digs n a).reverse = digs n b := by
  rw [← h, ← digs_ld, digs_ofD _ n (by rw [List.length_reverse, digs_len]) fun d hd => digs_lt n a d (List.mem_reverse.mp hd)]
section
variable {n K o : Nat} {ps us pw : List Nat} (P : PlaneOk n K o ps us pw)
include P
theorem PlaneOk.at {u c : Nat} (hu : u ∈ us) (hc : c < n) : LineOk n K o ps u c (rN n ps u c) (rN n ps (n - u) (n - 1 - c)) (rN n ps u c * rN n ps u c % (16 ^ n - 1)) := by
  have h := P.line u hu c hc
  unfold chkA at h
  simp only [Bool.and_eq_true, Nat.ble_eq, Nat.beq_eq] at h
  obtain ⟨⟨⟨⟨⟨⟨⟨h1, h2⟩, h3⟩, h4⟩, h5⟩, h6⟩, h7⟩, h8⟩ := h
  exact ⟨h1, h2, digs_rev_of h3, h4, h5, by rw [ones_ld]; exact List.isPerm_iff.mp h6, by rw [cnt_ld]; exact h7, by rw [cnt_ld]; exact h8⟩
theorem PlaneOk.neg {u : Nat} (hu : u ∈ us) : n - u ∈ us ∧ 1 ≤ u ∧ u < n := by
  have h := P.turn u hu
  unfold chk2 at h
  simp only [Bool.and_eq_true, Nat.ble_eq, hasL_eq] at h
  exact ⟨h.1.1.1, h.1.1.2, h.1.2⟩
theorem PlaneOk.mul {u f : Nat} (hu : u ∈ us) (hf : f ∈ us) : f * u % n ∈ us ∧ (Rot n (rN n ps u 0) (rN n ps (f * u % n) 0) ↔ f ∈ pw) := by
  have h := P.turn u hu
  unfold chk2 at h
  simp only [Bool.and_eq_true] at h
  have h2 := List.all_eq_true.mp h.2 f hf
  simp only [Bool.and_eq_true, hasL_eq, beq_iff_eq] at h2
  refine ⟨h2.1, ?_⟩
  have hn : 0 < n := by have := P.hn0; omega
  rw [← hasL_eq, ← h2.2, List.any_eq_true]
  constructor
  · intro hr
    obtain ⟨j, hj, e⟩ := hr.small hn
    exact ⟨j, List.mem_range.mpr hj, by rw [Nat.beq_eq]; exact e⟩
  · rintro ⟨j, _, e⟩
    exact ⟨j, by rw [Nat.beq_eq] at e; exact e⟩
/-- a multiple's word is the line turned if and only if the multiplier is a power -/
theorem PlaneOk.rot {u f c c' : Nat} (hu : u ∈ us) (hf : f ∈ us) (hc : c < n) (hc' : c' < n) : Rot n (rN n ps u c) (rN n ps (f * u % n) c') ↔ f ∈ pw := by
  have hn : 0 < n := by have := P.hn0; omega
  obtain ⟨hm, hr⟩ := P.mul hu hf
  have x1 : Rot n (rN n ps u 0) (rN n ps u c) := ⟨c, (P.at hu hc).sh⟩
  have x2 : Rot n (rN n ps (f * u % n) 0) (rN n ps (f * u % n) c') := ⟨c', (P.at hm hc').sh⟩
  have l1 := (P.at hu hn).am
  have l2 := (P.at hm hn).am
  rw [← hr]
  constructor
  · intro h
    exact (x1.trans h).trans (x2.symm hn l2)
  · intro h
    exact ((x1.symm hn l1).trans h).trans x2
end
end
section -- PI
theorem offPI : True := by
  w_top off
  trivial
set_option maxRecDepth 100000
open Builtin.Int (intBits)
def lnI (n : Nat) (ps : List Nat) (u c : Nat) : List Int := (lineN n ps u c).map fun (x : Nat) => (x : Int)
theorem fmod_nat (a n : Nat) : ((a : Int)).fmod (n : Int) = ((a % n : Nat) : Int) := by
  rw [Int.fmod_eq_emod_of_nonneg _ (by omega)]; rfl
theorem lineOf_eq {n u : Nat} {ps : List Nat} {us hs : List Int} (hn : 0 < n) (hu : us.getD ((hs.getD (Int.toNat 1) 0).fmod us.length).toNat 0 = (u : Int)) :
    lineOf us hs (ps.map fun (x : Nat) => (x : Int)) n = lnI n ps u ((hs.getD (Int.toNat 2) 0) % (n : Int)).toNat := by
  unfold lineOf lnI lineN
  rw [hu]
  generalize hs.getD (Int.toNat 2) 0 = C
  rw [List.map_map, List.map_map]
  apply List.map_congr_left
  intro x _
  simp only [Function.comp]
  have h0 : 0 ≤ C % (n : Int) := Int.emod_nonneg _ (by omega)
  rw [Int.fmod_eq_emod_of_nonneg _ (by omega), Int.natCast_emod, Int.natCast_add, Int.natCast_mul, Int.toNat_of_nonneg h0, Int.add_emod_emod]
theorem sum_nat : ∀ (l : List Nat), ((l.map fun x => ((x : Nat) : Int)).sum) = ((l.sum : Nat) : Int)
  | [] => rfl
  | x :: r => by rw [List.map_cons, List.sum_cons, List.sum_cons, sum_nat r]; omega
theorem numberOf_eq (n : Nat) (ps : List Nat) (u c : Nat) : numberOf (lnI n ps u c) = (rN n ps u c : Int) := by
  unfold numberOf lnI rN
  rw [List.map_map, ← sum_nat, List.map_map]
  congr 1
theorem turn_mod (n f u c x : Nat) : f * ((u * x + c) % n) % n = ((f * u % n) * x + f * c % n) % n := by
  rw [Nat.mul_mod_mod, Nat.mul_add, ← Nat.mul_assoc, Nat.add_mod, Nat.mul_mod (f * u) x, Nat.add_mod ((f * u % n) * x), Nat.mul_mod (f * u % n) x, Nat.mod_mod, Nat.mod_mod]
theorem wordN_eq (n : Nat) (ps : List Nat) (u c f : Nat) : (wordN n (lnI n ps u c) f).natAbs = 16 ^ n + rN n ps (f * u % n) (f * c % n) := by
  have e : ((lnI n ps u c).map fun x => (16 : Int) ^ (((f : Int) * x).fmod n).toNat).sum = (rN n ps (f * u % n) (f * c % n) : Int) := by
    unfold lnI rN lineN
    rw [List.map_map, List.map_map, List.map_map, ← sum_nat, List.map_map]
    congr 1
    apply List.map_congr_left
    intro x _
    simp only [Function.comp]
    rw [← Int.natCast_mul, fmod_nat, Int.toNat_natCast, turn_mod]
    exact_mod_cast rfl
  unfold wordN
  rw [e, Int.toNat_natCast]
  have e2 : ((16 : Int) ^ n) = ((16 ^ n : Nat) : Int) := by exact_mod_cast rfl
  rw [e2]
  generalize 16 ^ n = A
  generalize rN n ps (f * u % n) (f * c % n) = S
  omega
theorem wordOf_eq {n : Nat} {ps : List Nat} {u c f : Nat} (hn : n ≤ 31) (hr : rN n ps (f * u % n) (f * c % n) < 16 ^ n) : wordOf n (lnI n ps u c) f = ((digs n (rN n ps (f * u % n) (f * c % n))).map ltr).toArray := by
  unfold wordOf
  rw [wordN_eq, word_digs (by omega) hr]
theorem dbl_eq (n : Nat) (ps : List Nat) (u c : Nat) : ((lnI n ps u c).map fun k => (2 * k).fmod n) = (((lineN n ps u c).map fun x => 2 * x % n).map fun (x : Nat) => (x : Int)) := by
  unfold lnI
  rw [List.map_map, List.map_map]
  apply List.map_congr_left
  intro x _
  simp only [Function.comp]
  rw [show (2 : Int) * (x : Int) = ((2 * x : Nat) : Int) by omega, fmod_nat]
theorem bits_nat {x k : Nat} (h : x < 2 ^ k) : intBits (x : Int) ≤ k := bits_of_lt (by omega) (by exact_mod_cast h)
theorem pow_sub (n : Nat) : ((16 : Int) ^ n - 1) = ((16 ^ n - 1 : Nat) : Int) := by
  have h : 0 < 16 ^ n := Nat.pow_pos (by decide)
  have e2 : ((16 : Int) ^ n) = ((16 ^ n : Nat) : Int) := by exact_mod_cast rfl
  rw [e2]
  omega
theorem pow16 (n : Nat) : 16 ^ n = 2 ^ (4 * n) := by rw [Nat.pow_mul]
theorem fdiv_nat (a b : Nat) : ((a : Int)).fdiv (b : Int) = ((a / b : Nat) : Int) := by
  rw [Int.fdiv_eq_ediv_of_nonneg _ (by omega)]; rfl
theorem mem_lnI {n : Nat} {ps : List Nat} {u c : Nat} (hn0 : 0 < n) (hn : n ≤ 31) : ∀ x ∈ lnI n ps u c, 0 ≤ x ∧ x ≤ 31 := by
  intro x hx
  obtain ⟨y, hy, rfl⟩ := List.mem_map.mp hx
  obtain ⟨z, _, rfl⟩ := List.mem_map.mp hy
  have := Nat.mod_lt (u * z + c) hn0
  omega
theorem len_lnI (n : Nat) (ps : List Nat) (u c : Nat) : (lnI n ps u c).length = ps.length := by simp [lnI, lineN]
/-- the tail of a word's letters -/
theorem wd_of {n r : Nat} (hn0 : 0 < n) (hn : n ≤ 31) : Wd ((digs n r).map ltr).toArray ((digs n r).map ltr) where
  eq := rfl
  ne := by
    intro h
    have := congrArg List.length h
    simp [digs_len] at this
    omega
  low := fun i hi => by
    have hl : i < ((digs n r).map ltr).length := by simpa using hi
    have e : ((digs n r).map ltr).toArray.getD i 0 = ((digs n r).map ltr)[i] := by
      simp only [Array.getD]
      rw [dif_pos hi]
      simp
    rw [e, List.getElem_map]
    have := digs_lt n r _ (List.getElem_mem (by simpa using hl))
    rw [ltr_toNat this]
    omega
  len := by rw [List.length_map, digs_len]; omega
end
section -- PJ
theorem offPJ : True := by
  w_top off
  trivial
set_option maxRecDepth 100000
set_option maxHeartbeats 2000000
open Builtin.Int (intBits)
/-- a word's letters -/
def Lt (n a : Nat) : List UInt8 := (digs n a).map ltr
theorem Lt_len (n a : Nat) : (Lt n a).length = n := by simp [Lt, digs_len]
theorem worth_Lt {n b : Nat} (hb : b < 16 ^ n) : worth (Lt n b) = (b : Int) := by
  unfold Lt
  rw [worth_digs _ (digs_lt n b), ofD_digs n b hb]
/-- what the walk asks of the numbers of one line and three multiples -/
structure Nums (n K o : Nat) (ns : List Int) (a0 b0 a1 b1 a2 b2 : Nat) (f1 f2 : Int) : Prop where
  w0 : wordOf n ns 1 = (Lt n a0).toArray
  w1 : wordOf n ns f1 = (Lt n a1).toArray
  w2 : wordOf n ns f2 = (Lt n a2).toArray
  r0 : (Lt n a0).reverse = Lt n b0
  r1 : (Lt n a1).reverse = Lt n b1
  r2 : (Lt n a2).reverse = Lt n b2
  num : numberOf ns = (a0 : Int)
  a0p : 0 < a0
  b0p : 0 < b0
  a0l : a0 < 16 ^ n - 1
  b0l : b0 < 16 ^ n - 1
  prod : a0 * b0 % (16 ^ n - 1) = K
  dbl : (ones n (a0 * a0 % (16 ^ n - 1))).map (fun (i : Nat) => (i : Int)) |>.Perm (ns.map fun k => (2 * k).fmod n)
  twos : ((List.range n).countP fun k => a0 * a0 % (16 ^ n - 1) / 16 ^ k % 16 == 2) = o * (o + 1) / 2
  nils : ((List.range n).countP fun k => a0 * a0 % (16 ^ n - 1) / 16 ^ k % 16 == 0) = o * (o - 1) / 2
section
variable {n K o : Nat} {ps us pw : List Nat} (P : PlaneOk n K o ps us pw)
include P
theorem PlaneOk.nums {u c f1 f2 : Nat} (hu : u ∈ us) (hc : c < n) (h1 : f1 ∈ us) (h2 : f2 ∈ us) :
    Nums n K o (lnI n ps u c) (rN n ps u c) (rN n ps (n - u) (n - 1 - c)) (rN n ps (f1 * u % n) (f1 * c % n)) (rN n ps (n - f1 * u % n) (n - 1 - f1 * c % n)) (rN n ps (f2 * u % n) (f2 * c % n)) (rN n ps (n - f2 * u % n) (n - 1 - f2 * c % n)) f1 f2 := by
  have hn : 0 < n := by have := P.hn0; omega
  have hn1 := P.hn1
  have hul := (P.neg hu).2.2
  have m1 := (P.mul hu h1).1
  have m2 := (P.mul hu h2).1
  have l0 := P.at hu hc
  have l1 := P.at m1 (Nat.mod_lt (f1 * c) hn)
  have l2 := P.at m2 (Nat.mod_lt (f2 * c) hn)
  have lb := P.at (P.neg hu).1 (c := n - 1 - c) (by omega)
  have e0 : wordOf n (lnI n ps u c) 1 = (Lt n (rN n ps u c)).toArray := by
    have h := wordOf_eq (n := n) (ps := ps) (u := u) (c := c) (f := 1) hn1 (by rw [Nat.one_mul, Nat.one_mul, Nat.mod_eq_of_lt hul, Nat.mod_eq_of_lt hc]; have := l0.am; omega)
    rw [Nat.one_mul, Nat.one_mul, Nat.mod_eq_of_lt hul, Nat.mod_eq_of_lt hc] at h
    exact h
  have rv : ∀ {a b : Nat}, (digs n a).reverse = digs n b → (Lt n a).reverse = Lt n b := fun h => by
    unfold Lt
    rw [← List.map_reverse, h]
  refine ⟨e0, wordOf_eq hn1 (by have := l1.am; omega), wordOf_eq hn1 (by have := l2.am; omega), rv l0.rev, rv l1.rev, rv l2.rev, numberOf_eq n ps u c, l0.a0, lb.a0, l0.am, lb.am, l0.prod, ?_, l0.twos, l0.nils⟩
  rw [dbl_eq]
  exact l0.dbl.map _
end
end
section -- PK
theorem offPK : True := by
  w_top off
  trivial
set_option maxRecDepth 100000
set_option maxHeartbeats 2000000
open Builtin.Int (intBits)
theorem bits_mul {a b n : Nat} (ha : a < 16 ^ n - 1) (hb : b < 16 ^ n - 1) : intBits ((a * b : Nat) : Int) ≤ 2 * (4 * n) := by
  refine bits_nat ?_
  have h : a * b < 16 ^ n * 16 ^ n := Nat.mul_lt_mul'' (by omega) (by omega)
  rw [← Nat.pow_add] at h
  rw [pow16 (n + n)] at h
  rwa [show 4 * (n + n) = 2 * (4 * n) by omega] at h
theorem pow_le31 {n : Nat} (hn : n ≤ 31) : 16 ^ n ≤ 16 ^ 31 := Nat.pow_le_pow_right (by decide) hn
theorem seen_eq {n s : Nat} (hn : n ≤ 31) (hs : s < 16 ^ n) : seenOf n (s : Int) = (Lt n s).toArray := by
  unfold seenOf Lt
  have e : (((16 : Int) ^ n + (s : Int))).natAbs = 16 ^ n + s := by
    have e2 : ((16 : Int) ^ n) = ((16 ^ n : Nat) : Int) := by exact_mod_cast rfl
    rw [e2]
    generalize 16 ^ n = A
    omega
  rw [e, word_digs (by omega) hs]
theorem any_mem (l : List Nat) (f : Nat) : ((l.map fun (x : Nat) => (x : Int)).any fun x => x == (f : Int)) = true ↔ f ∈ l := by
  rw [List.any_eq_true]
  constructor
  · rintro ⟨x, hx, e⟩
    obtain ⟨y, hy, rfl⟩ := List.mem_map.mp hx
    have : y = f := by have := beq_iff_eq.mp e; omega
    exact this ▸ hy
  · intro h
    exact ⟨(f : Int), List.mem_map.mpr ⟨f, h, rfl⟩, by simp⟩
theorem cnt_int {ov : Nat} {x : Nat} (h : x = ov * (ov + 1) / 2) : (x : Int) = ((ov : Int) * ((ov : Int) + 1)).fdiv 2 := by
  rw [show ((ov : Int) * ((ov : Int) + 1)) = ((ov * (ov + 1) : Nat) : Int) by rw [Int.natCast_mul]; rfl, show (2 : Int) = ((2 : Nat) : Int) from rfl, fdiv_nat, h]
theorem cnt_int' {ov : Nat} {x : Nat} (ho : 1 ≤ ov) (h : x = ov * (ov - 1) / 2) : (x : Int) = ((ov : Int) * ((ov : Int) - 1)).fdiv 2 := by
  rw [show ((ov : Int) * ((ov : Int) - 1)) = ((ov * (ov - 1) : Nat) : Int) by rw [Int.natCast_mul, Int.natCast_sub ho]; rfl, show (2 : Int) = ((2 : Nat) : Int) from rfl, fdiv_nat, h]
theorem notf_of {L M WD W' V : Addr} {m0 m1 m2 w0 w1 w2 : Array UInt8} {xa xb xc ua ub uc ta tb tc : Tok} {f0 f1 f2 : Int} {ls : List Value} {o1 o2 o3 o4 o5 o6 o7 o8 : Obj}
    (d1 : ∃ v, o1.data = .cell v) (d2 : ∃ v, o2.data = .cell v) (d3 : ∃ v, o3.data = .cell v) (d4 : ∃ v, o4.data = .cell v) (d5 : ∃ v, o5.data = .cell v) (d6 : ∃ v, o6.data = .cell v) (d7 : ∃ v, o7.data = .cell v) (d8 : ∃ v, o8.data = .cell v) :
    ∀ q ∈ newsM L M WD W' V m0 m1 m2 xa xb xc w0 w1 w2 ua ub uc f0 f1 f2 ta tb tc ls o1 o2 o3 o4 o5 o6 o7 o8 [], ∀ vs, q.2.data ≠ .fields vs := by
  have c : ∀ {o : Obj}, (∃ v, o.data = .cell v) → ∀ vs, o.data ≠ .fields vs := fun ⟨v, e⟩ vs h => by rw [e] at h; cases h
  intro q hq vs
  simp only [newsM, newsW, lawNews, List.mem_cons, List.not_mem_nil, or_false] at hq
  rcases hq with rfl | rfl | rfl | rfl | rfl | rfl | rfl | rfl | rfl | rfl | rfl | rfl
  · intro h; cases h
  · intro h; cases h
  · intro h; cases h
  · intro h; cases h
  · exact c d8 vs
  · exact c d7 vs
  · exact c d6 vs
  · exact c d5 vs
  · exact c d4 vs
  · exact c d3 vs
  · exact c d2 vs
  · exact c d1 vs
end
section -- PL
theorem offPL : True := by
  w_top off
  trivial
set_option maxRecDepth 100000
set_option maxHeartbeats 2000000
open Builtin.Int (intBits)
theorem low_all {l : List UInt8} (h : ∀ x ∈ l, x.toNat < 128) (i : Nat) (hi : i < l.toArray.size) : (l.toArray.getD i 0).toNat < 128 := by
  have hl : i < l.length := by simpa using hi
  have e : l.toArray.getD i 0 = l[i] := by
    simp only [Array.getD]
    rw [dif_pos hi]
    simp
  rw [e]
  exact h _ (List.getElem_mem hl)
theorem law_tail2 (w : World) {prog p : Program} {loose : List Str} {mean : ExcName → Option Value} {mg mb : Str → Option Value} {A₀ : Around} {base g : Heap} {L fa V W' WD M : Addr} {ccd : Value} {s : Shared} {Q : Flow → Shared → Prop} {o1 o2 o3 o4 o5 o6 o7 o8 : Obj} {h : Heap} {tk : Nat} {m : Str → Option Value}
    {ls : List Value} {ns : List Int} {g1 g2 : Int} {ta tb tc ua ub uc xa xb xc : Tok} {r1 r2 : List (Addr × Obj)} {n K o : Nat} {t1 t2 y1 y2 y3 : Tok} {a0 b0 a1 b1 a2 b2 : Nat} {pw : List Int} {pv : Int}
    (B : Below A₀ base [] g) (X : (Mine.hd.heap_39 w.params).In g) (T : Top p loose mean mg mb g) (hv0 : 7 ≤ n) (hv1 : n ≤ 31) (hL : 100 < L) (c1 : CodeHd base 70 66) (c2 : CodeHd base 77 73)
    (Z : Nums n K o ns a0 b0 a1 b1 a2 b2 g1 g2) (hKp : ap K = (66 + o).toUInt8 :: List.replicate (n - 1) 66) (hbits : intBits ((16 : Int) ^ n - 1) = 4 * n)
    (hls : IntsAre ls ns) (hnl : ns.length ≤ 6) (hnb : ∀ x ∈ ns, 0 ≤ x ∧ x ≤ 31) (ho0 : 2 ≤ o) (ho1 : o ≤ 5) (hpv : (if (o : Int) = 4 then 2 else (o : Int)) = pv) (hp0 : 2 ≤ pv) (hp1 : pv ≤ 5) (hpw : powersOf pv n = pw)
    (C0 : (∀ t u, Con w 2 50 [.str (Str.ofString "x" ++ dotted (Lt n a0 ++ Lt n a0)) t, .str (Txt.lower (dotted (Lt n a0))) u] (fun _ => True) (fun v own => own = [] ∧ v = .bool (pw.any fun x => x == 1))))
    (D0 : (∀ t u, Con w 2 50 [.str (Str.ofString "x" ++ dotted (Lt n a0 ++ Lt n a0)) t, .str (Txt.lower (dotted (Lt n b0))) u] (fun _ => True) (fun v own => own = [] ∧ v = .bool (pw.any fun x => x == (n : Int) - 1))))
    (C1 : (∀ t u, Con w 2 50 [.str (Str.ofString "x" ++ dotted (Lt n a0 ++ Lt n a0)) t, .str (Txt.lower (dotted (Lt n a1))) u] (fun _ => True) (fun v own => own = [] ∧ v = .bool (pw.any fun x => x == g1))))
    (D1 : (∀ t u, Con w 2 50 [.str (Str.ofString "x" ++ dotted (Lt n a0 ++ Lt n a0)) t, .str (Txt.lower (dotted (Lt n b1))) u] (fun _ => True) (fun v own => own = [] ∧ v = .bool (pw.any fun x => x == (n : Int) - g1))))
    (C2 : (∀ t u, Con w 2 50 [.str (Str.ofString "x" ++ dotted (Lt n a0 ++ Lt n a0)) t, .str (Txt.lower (dotted (Lt n a2))) u] (fun _ => True) (fun v own => own = [] ∧ v = .bool (pw.any fun x => x == g2))))
    (D2 : (∀ t u, Con w 2 50 [.str (Str.ofString "x" ++ dotted (Lt n a0 ++ Lt n a0)) t, .str (Txt.lower (dotted (Lt n b2))) u] (fun _ => True) (fun v own => own = [] ∧ v = .bool (pw.any fun x => x == (n : Int) - g2))))
    (F : Fr g L h m) (N : News g L h (newsM L M WD W' V (Lt n b0).toArray (Lt n b1).toArray (Lt n b2).toArray xa xb xc (Lt n a0).toArray (Lt n a1).toArray (Lt n a2).toArray ua ub uc 1 g1 g2 ta tb tc ls o1 o2 o3 o4 o5 o6 o7 o8 (r1 ++ r2)))
    (hma : m (Str.ofString "product") = some (.int (((a0 * b0 : Nat) : Int)) y3)) (hmn : m (Str.ofString "number") = some (.int (a0 : Int) y2)) (hmb : m (Str.ofString "ring") = some (.int ((16 : Int) ^ n - 1) y1)) (hmo : m (Str.ofString "order") = some (.int (o : Int) t1))
    (hmw : m (Str.ofString "words") = some (.ref WD)) (hmm : m (Str.ofString "mirrors") = some (.ref M)) (hmf : m (Str.ofString "factors") = some (.ref W'))
    (ht1 : TabL 66 58 4 (Str.ofString "_int2digits.<locals>.inner") r1) (ht2 : TabL 73 73 4 (Str.ofString "_digits2int.<locals>.inner") r2)
    (d1 : ∃ v, o1.data = .cell v) (d2 : ∃ v, o2.data = .cell v) (d3 : o3.data = .cell (some (.int (n : Int) t2))) (d4 : ∃ v, o4.data = .cell v) (d5 : o5.data = .cell (some (.ref V))) (d6 : ∃ v, o6.data = .cell v) (d7 : o7.data = .cell none) (d8 : o8.data = .cell none)
    (hend : ∀ m' h' tk', Fr g L h' m' → GrownAt 66 h' → GrownAt 73 h' → Q (.ret (.bool true)) { s with heap := h', toks := tk' }) :
    LawAt w prog L fa ccd Q 11 { s with heap := h, toks := tk } := by
  have hp31 := pow_le31 hv1
  have hK : K < 16 ^ n - 1 := by rw [← Z.prod]; exact Nat.mod_lt _ (by have := Z.a0l; omega)
  have hm0 : 0 < 16 ^ n - 1 := by have := Z.a0l; omega
  have hbb : intBits ((16 : Int) ^ n - 1) ≤ 1000 := by rw [hbits]; omega
  have hbp : (0 : Int) < (16 : Int) ^ n - 1 := by rw [pow_sub]; omega
  have hA := Nat.mul_pos Z.a0p Z.b0p
  have hA2 := Nat.mul_pos Z.a0p Z.a0p
  have hc1000 : intBits (a0 : Int) ≤ 1000 := Nat.le_trans (bits_nat (k := 4 * n) (by rw [← pow16]; have := Z.a0l; omega)) (by omega)
  -- statement 11
  refine law11 (rest := []) (t2 := t2) w B X T hv0 hv1 F N hL c1 c2 ht1 ht2 (notf_of d1 d2 ⟨_, d3⟩ d4 ⟨_, d5⟩ d6 ⟨_, d7⟩ ⟨_, d8⟩) hma hmb (by omega) hbp hbb (by rw [hbits]; exact bits_mul Z.a0l Z.b0l) (fun z1 z2 r1' r2' h' tk' ht1' ht2' F1 N1 => ?_)
  clear ht1 ht2 N F
  have eq1 : (((a0 * b0 : Nat) : Int)).fdiv ((16 : Int) ^ n - 1) = ((a0 * b0 / (16 ^ n - 1) : Nat) : Int) := by rw [pow_sub, fdiv_nat]
  have er1 : (((a0 * b0 : Nat) : Int)).fmod ((16 : Int) ^ n - 1) = (K : Int) := by rw [pow_sub, fmod_nat, Z.prod]
  rw [eq1, er1] at F1
  -- statement 12
  refine law12 (r1 := []) (r2 := []) (t2 := t2) w B X T hv0 hv1 F1 N1 (by exact hma) (by exact hmb) (by rfl) (by rfl) (by exact hmo) d3 ?q1 ?q2 hbb (by omega) (by omega) ?q3 ?q4 (fun h2 tk2 F2 N2 => ?_)
  case q1 =>
    rw [pow_sub, ← Int.natCast_mul, ← Z.prod, ← Int.natCast_add]
    congr 1
    rw [Nat.mul_comm]
    exact Nat.div_add_mod _ _
  case q2 =>
    refine Nat.le_trans (bits_nat (k := 2 * (4 * n)) (Nat.lt_of_le_of_lt (Nat.div_le_self _ _) ?_)) (by omega)
    have h := Nat.mul_lt_mul'' (show a0 < 16 ^ n by have := Z.a0l; omega) (show b0 < 16 ^ n by have := Z.b0l; omega)
    rw [← Nat.pow_add, pow16 (n + n)] at h
    rwa [show 4 * (n + n) = 2 * (4 * n) by omega] at h
  case q3 =>
    rw [Int.natAbs_natCast]
    exact Nat.lt_of_lt_of_le (show K < 16 ^ 31 by omega) (Nat.pow_le_pow_right (by decide) (by decide))
  case q4 =>
    rw [Int.natAbs_natCast, hKp]
    rw [show (66 + (o : Int)).toNat = 66 + o by omega]
  clear F1 N1
  -- statement 13
  refine law13 (rest := []) (t2 := t2) w B X T hv0 hv1 F2 N2 hL c1 c2 ht1' ht2' (notf_of d1 d2 ⟨_, d3⟩ d4 ⟨_, d5⟩ d6 ⟨_, d7⟩ ⟨_, d8⟩) (by exact hmn) (by exact hmb) (a := ((a0 * a0 : Nat) : Int)) (Int.natCast_mul _ _).symm hc1000 (by omega) hbp hbb (by rw [hbits]; exact bits_mul Z.a0l Z.a0l) (fun z3 z4 q1 q2 h3 tk3 hq1 hq2 F3 N3 => ?_)
  clear ht1' ht2' N2 F2
  have eq2 : (((a0 * a0 : Nat) : Int)).fdiv ((16 : Int) ^ n - 1) = ((a0 * a0 / (16 ^ n - 1) : Nat) : Int) := by rw [pow_sub, fdiv_nat]
  have er2 : (((a0 * a0 : Nat) : Int)).fmod ((16 : Int) ^ n - 1) = ((a0 * a0 % (16 ^ n - 1) : Nat) : Int) := by rw [pow_sub, fmod_nat]
  rw [eq2, er2] at F3
  have hs : a0 * a0 % (16 ^ n - 1) < 16 ^ n := by have := Nat.mod_lt (a0 * a0) hm0; omega
  -- statement 14
  refine law14 (r1 := []) (r2 := []) (t2 := t2) w B X T hv0 hv1 F3 N3 (by exact hmn) (by exact hmb) (by rfl) (by rfl) ?q1 ?q2 hbb hc1000 (fun h4 tk4 F4 N4 => ?_)
  case q1 =>
    rw [pow_sub, ← Int.natCast_mul, ← Int.natCast_mul, ← Int.natCast_add]
    congr 1
    rw [Nat.mul_comm]
    exact Nat.div_add_mod _ _
  case q2 =>
    refine Nat.le_trans (bits_nat (k := 2 * (4 * n)) (Nat.lt_of_le_of_lt (Nat.div_le_self _ _) ?_)) (by omega)
    have h := Nat.mul_lt_mul'' (show a0 < 16 ^ n by have := Z.a0l; omega) (show a0 < 16 ^ n by have := Z.a0l; omega)
    rw [← Nat.pow_add, pow16 (n + n)] at h
    rwa [show 4 * (n + n) = 2 * (4 * n) by omega] at h
  clear F3 N3
  -- statement 15
  refine law15 (rest := []) (t2 := t2) w B X T hv0 hv1 F4 N4 hq1 hq2 (by rfl) d3 d7 ?q1 ?q2 (fun o7' t7 h5 tk5 F5 d7' N5 => ?_)
  case q1 => rw [seen_eq hv1 hs]; simp [Lt_len]
  case q2 =>
    have e2 : ((16 : Int) ^ n) = ((16 ^ n : Nat) : Int) := by exact_mod_cast rfl
    have h3 : 2 * 16 ^ 31 < 16 ^ 64 := by decide
    rw [e2]
    generalize 16 ^ n = A at *
    generalize a0 * a0 % (A - 1) = B at *
    generalize 16 ^ 31 = C at *
    generalize 16 ^ 64 = E at *
    omega
  clear F4 N4
  rw [seen_eq hv1 hs, swp_one (by omega) (Lt_len _ _)] at d7'
  -- statement 16
  refine law16 (r1 := []) (r2 := []) (t2 := t2) w B X T hv0 hv1 F5 N5 hls hnl hnb d3 d5 d7' (by simp [Lt_len]) ?q1 ?q2 (fun h6 tk6 F6 N6 => ?_)
  case q1 =>
    have e := bplaces_digs n (a0 * a0 % (16 ^ n - 1))
    unfold Lt
    rw [e]
    exact Z.dbl
  case q2 =>
    unfold Lt
    rw [bplaces_digs]
    exact bplaces_sorted _ _
  clear F5 N5
  -- statement 17
  refine law17 (r1 := []) (r2 := []) (t2 := t2) w B X T hv0 hv1 F6 N6 (by exact hmo) (by omega) (by omega) d7' (by simp [Lt_len]) ?q1 ?q2 (fun h7 tk7 F7 N7 => ?_)
  case q1 =>
    rw [occ_count]
    refine cnt_int ?_
    rw [← Z.twos]
    exact count_digs n _ 2 (by decide)
  case q2 =>
    rw [occ_count]
    refine cnt_int' (by omega) ?_
    rw [← Z.nils]
    exact count_digs n _ 0 (by decide)
  clear F6 N6
  -- statement 18
  refine law18 (rest := []) (t2 := t2) w B X T hv0 hv1 F7 N7 hq1 hq2 (by exact hmo) hpv d8 (fun o8' t8 h8 tk8 F8 d8' N8 => ?_)
  clear F7 N7
  -- statement 19
  refine law19 (r1 := []) (r2 := []) (t2 := t2) w B X T hv0 hv1 F8 N8 d3 hp0 hp1 d8' (fun PW ys h9 tk9 hI9 F9 N9 => ?_)
  clear F8 N8
  -- statement 20
  obtain ⟨c, cs, hcs⟩ : ∃ c cs, Lt n a0 ++ Lt n a0 = c :: cs := by
    cases e : Lt n a0 ++ Lt n a0 with
    | nil => have := congrArg List.length e; simp [Lt_len] at this; omega
    | cons c cs => exact ⟨c, cs, rfl⟩
  have hWD : ∀ i, i < (c :: cs).toArray.size → ((c :: cs).toArray.getD i 0).toNat < 128 := by
    rw [← hcs]
    refine low_all fun x hx => ?_
    have : x ∈ Lt n a0 := by
      rcases List.mem_append.mp hx with h | h <;> exact h
    obtain ⟨d, hd, rfl⟩ := List.mem_map.mp this
    have := digs_lt n a0 d hd
    rw [ltr_toNat this]
    omega
  refine law20 (r1 := []) (r2 := []) (t2 := t2) w B X T hv0 hv1 F9 N9 (by exact hmw) (c := c) (cs := cs) (by rw [← hcs]; simp) hWD (by rw [← hcs, List.length_append, Lt_len]; omega) (fun t20 h10 tk10 F10 N10 => ?_)
  clear F9 N9
  rw [← hcs] at F10
  -- statement 21
  have wd : ∀ a, Wd (Lt n a).toArray (Lt n a) := fun a => wd_of (by omega) hv1
  subst hpw
  refine law21 (rest := []) (t2 := t2) w B X T hv0 hv1 F10 N10 hq1 hq2 (notf_of d1 d2 ⟨_, d3⟩ d4 ⟨_, d5⟩ d6 ⟨_, d7'⟩ ⟨_, d8'⟩) (by exact hmw) (by exact hmm) (by exact hmf) (by rfl) (by rfl) d3 hI9 (by rfl) (wd _) (wd _) C0 D0 (wd _) (wd _) C1 D1 (wd _) (wd _) C2 D2 (fun m' h11 tk11 F11 N11 => ?_)
  clear F10 N10
  refine law22 w B X T F11 N11 ?_
  obtain ⟨p1, e1⟩ := hq1.hd
  obtain ⟨p2, e2⟩ := hq2.hd
  exact hend m' h11 tk11 F11 (GrownAt.of N11 (.tail _ (tab_tail (List.mem_append_left _ e1)))) (GrownAt.of N11 (.tail _ (tab_tail (List.mem_append_right _ e2))))
end
section -- PM
theorem offPM : True := by
  w_top off
  trivial
set_option maxRecDepth 100000
set_option maxHeartbeats 2000000
open Builtin.Int (intBits)
theorem neg_mod {n f u : Nat} (hf : f < n) (h : 0 < f * u % n) : (n - f) * u % n = n - f * u % n := by
  have hn : 0 < n := by omega
  have hl := Nat.mod_lt (f * u) hn
  have e : (n - f) * u + f * u = n * u := by rw [← Nat.add_mul]; congr 1; omega
  have e2 : (n - f) * u % n = (n - f * u % n) % n := by
    have h1 : ((n - f) * u + f * u) % n = 0 := by rw [e]; exact Nat.mul_mod_right n u
    have h2 := Nat.mod_lt ((n - f) * u) hn
    rw [Nat.add_mod] at h1
    generalize (n - f) * u % n = A at *
    generalize f * u % n = B at *
    have h3 : A + B = n := by
      have h4 : n ∣ (A + B) := Nat.dvd_of_mod_eq_zero h1
      obtain ⟨k, hk⟩ := h4
      have : k = 1 := by
        rcases k with _ | _ | k
        · omega
        · rfl
        · have : n * 2 ≤ n * (k + 1 + 1) := Nat.mul_le_mul_left n (by omega)
          omega
      subst this
      omega
    rw [Nat.mod_eq_of_lt (by omega)]
    omega
  rw [e2, Nat.mod_eq_of_lt (by omega)]
section
variable {n K o : Nat} {ps us pw : List Nat} (P : PlaneOk n K o ps us pw)
include P
/-- what domain_match says of a line and a multiple's word -/
theorem PlaneOk.dm (w : World) {u c f c' : Nat} (hu : u ∈ us) (hc : c < n) (hf : f ∈ us) (hc' : c' < n) (t v : Tok) :
    Con w 2 50 [.str (Str.ofString "x" ++ dotted (Lt n (rN n ps u c) ++ Lt n (rN n ps u c))) t, .str (Txt.lower (dotted (Lt n (rN n ps (f * u % n) c')))) v] (fun _ => True) (fun r own => own = [] ∧ r = .bool ((pw.map fun (x : Nat) => (x : Int)).any fun x => x == (f : Int))) := by
  have hn : 0 < n := by have := P.hn0; omega
  have hn1 := P.hn1
  have l0 := P.at hu hc
  have l1 := P.at (P.mul hu hf).1 hc'
  have e : Lt n (rN n ps u c) ++ Lt n (rN n ps u c) = (digs n (rN n ps u c) ++ digs n (rN n ps u c)).map ltr := by unfold Lt; rw [List.map_append]
  rw [e]
  have ne : ∀ r, digs n r ≠ [] := fun r h => by have := congrArg List.length h; rw [digs_len] at this; simp at this; omega
  refine dm_word w (fun d hd => ?_) (digs_lt n _) (ne _) (by simp [ne]) (by rw [List.length_append, digs_len]; omega) (by rw [digs_len]; omega) _ ?_ t v
  · rcases List.mem_append.mp hd with h | h <;> exact digs_lt n _ d h
  · rw [any_mem, occ_iff hn (by have := l0.am; omega) l1.a0 l1.am, P.rot hu hf hc hc']
theorem PlaneOk.dmN (w : World) {u c f c' : Nat} (hu : u ∈ us) (hc : c < n) (hf : f ∈ us) (hc' : c' < n) (t v : Tok) :
    Con w 2 50 [.str (Str.ofString "x" ++ dotted (Lt n (rN n ps u c) ++ Lt n (rN n ps u c))) t, .str (Txt.lower (dotted (Lt n (rN n ps (n - f * u % n) c')))) v] (fun _ => True) (fun r own => own = [] ∧ r = .bool ((pw.map fun (x : Nat) => (x : Int)).any fun x => x == (n : Int) - (f : Int))) := by
  have hfl := (P.neg hf).2.2
  have h := P.dm w hu hc (P.neg hf).1 hc' t v
  rw [neg_mod hfl (by have := (P.neg (P.mul hu hf).1).2.1; omega), Int.natCast_sub (by omega)] at h
  exact h
end
end
section -- PN
theorem offPN : True := by
  w_top off
  trivial
set_option maxRecDepth 100000
set_option maxHeartbeats 2000000
open Builtin.Int (intBits)
theorem law_tail1 (w : World) {n K o : Nat} {ps us pw : List Nat} (PO : PlaneOk n K o ps us pw) {prog p : Program} {loose : List Str} {mean : ExcName → Option Value} {mg mb : Str → Option Value} {A₀ : Around} {base g : Heap} {L fa V W' : Addr} {ccd : Value} {s : Shared} {Q : Flow → Shared → Prop} {o1 o2 o3 o4 o5 o6 o7 o8 : Obj} {h : Heap} {tk : Nat} {m : Str → Option Value}
    {ls : List Value} {ta tb tc : Tok} {r1 r2 : List (Addr × Obj)} {t1 t2 : Tok} {pv : Int} {u c f1 f2 : Nat}
    (B : Below A₀ base [] g) (X : (Mine.hd.heap_39 w.params).In g) (T : Top p loose mean mg mb g) (hL : 100 < L) (c1 : CodeHd base 70 66) (c2 : CodeHd base 77 73)
    (hu : u ∈ us) (hc : c < n) (h1 : 1 ∈ us) (hf1 : f1 ∈ us) (hf2 : f2 ∈ us) (hls : IntsAre ls (lnI n ps u c)) (ho0 : 2 ≤ o) (ho1 : o ≤ 5) (hpv : (if (o : Int) = 4 then 2 else (o : Int)) = pv) (hp0 : 2 ≤ pv) (hp1 : pv ≤ 5) (hpw : powersOf pv n = pw.map fun (x : Nat) => (x : Int))
    (F : Fr g L h m) (hmf : m (Str.ofString "factors") = some (.ref W')) (hmo : m (Str.ofString "order") = some (.int (o : Int) t1))
    (N : News g L h ((W', W.listOf #[.int 1 ta, .int (f1 : Int) tb, .int (f2 : Int) tc] 0) :: (V, LCg.lst ls) :: lawNews L o1 o2 o3 o4 o5 o6 o7 o8 (r1 ++ r2)))
    (hr : ∀ q ∈ r1 ++ r2, q.1 < L) (ht1 : TabL 66 58 4 (Str.ofString "_int2digits.<locals>.inner") r1) (ht2 : TabL 73 73 4 (Str.ofString "_digits2int.<locals>.inner") r2)
    (d1 : ∃ v, o1.data = .cell v) (d2 : ∃ v, o2.data = .cell v) (d3 : o3.data = .cell (some (.int (n : Int) t2))) (d4 : ∃ v, o4.data = .cell v) (d5 : o5.data = .cell (some (.ref V))) (d6 : o6.data = .cell none) (d7 : o7.data = .cell none) (d8 : o8.data = .cell none)
    (hend : ∀ m' h' tk', Fr g L h' m' → GrownAt 66 h' → GrownAt 73 h' → Q (.ret (.bool true)) { s with heap := h', toks := tk' }) :
    LawAt w prog L fa ccd Q 5 { s with heap := h, toks := tk } := by
  have hn0 := PO.hn0
  have hn1 := PO.hn1
  have hn : 0 < n := by omega
  have Z := PO.nums hu hc hf1 hf2
  have hnl : (lnI n ps u c).length ≤ 6 := by rw [len_lnI]; exact PO.len
  have hnb := mem_lnI (ps := ps) (u := u) (c := c) hn hn1
  have b1 := (PO.neg hf1).2.2
  have b2 := (PO.neg hf2).2.2
  -- statement 5
  refine law5 w B X T hls hnl hnb (by
    intro k hk
    simp only [List.mem_cons, List.not_mem_nil, or_false] at hk
    rcases hk with rfl | rfl | rfl <;> omega) (by omega) (by omega) F hmf N d3 d5 (fun WD ua ub uc h5 tk5 F5 N5 o9 => ?_)
  clear N F o9
  rw [Z.w0, Z.w1, Z.w2] at N5
  have n6 : (L + 1 + 1 + 1 + 1 + 1 + 1, o6) ∈ newsW L WD W' V (Lt n (rN n ps u c)).toArray (Lt n (rN n ps (f1 * u % n) (f1 * c % n))).toArray (Lt n (rN n ps (f2 * u % n) (f2 * c % n))).toArray ua ub uc 1 f1 f2 ta tb tc ls o1 o2 o3 o4 o5 o6 o7 o8 (r1 ++ r2) := .tail _ (.tail _ (.tail _ (.tail _ (.tail _ (.head _)))))
  -- statement 6
  refine law6 w B X T hn0 hn1 (by simp [Lt_len]) (by simp [Lt_len]) (by simp [Lt_len]) F5 (by rfl) N5 (apart_of N5 (.head _) n6 (by rw [d6]; exact fun e => nomatch e)) (apart_of N5 (.tail _ (.head _)) n6 (by rw [d6]; exact fun e => nomatch e)) (apart_of N5 (.tail _ (.tail _ (.head _))) n6 (by rw [d6]; exact fun e => nomatch e)) hr d3 d6 (fun o6' t6 h6 tk6 F6 d6' N6 => ?_)
  clear N5 F5 n6
  -- statement 7
  refine law7 w B X T hn0 hn1 (by rw [swp_size]; simp [Lt_len]; omega) F6 N6 d3 d6' (fun M xa xb xc h7 tk7 F7 N7 o9 => ?_)
  clear N6 F6 o9
  have M3 := mir3 hn (Lt_len n (rN n ps u c)) (Lt_len n (rN n ps (f1 * u % n) (f1 * c % n))) (Lt_len n (rN n ps (f2 * u % n) (f2 * c % n)))
  rw [M3.1, M3.2.1, M3.2.2, Z.r0, Z.r1, Z.r2] at N7
  clear M3
  have hw : worth (Lt n (rN n ps (n - u) (n - 1 - c))).toArray.toList = (rN n ps (n - u) (n - 1 - c) : Int) := worth_Lt (by have := Z.b0l; omega)
  -- statements 8 to 10
  refine law8 w B X T hn0 hn1 F7 N7 hls hnl hnb (by rfl) d3 d5 (by
    rw [Z.num]
    exact Nat.le_trans (bits_nat (k := 4 * n) (by rw [← pow16]; have := Z.a0l; omega)) (by omega)) (by
    rw [hw]
    exact Nat.le_trans (bits_nat (k := 4 * n) (by rw [← pow16]; have := Z.b0l; omega)) (by omega)) (fun y1 y2 y3 h8 tk8 F8 N8 => ?_)
  clear N7 F7
  rw [hw, Z.num, ← Int.natCast_mul] at F8
  have q1 := Nat.mod_lt (f1 * c) hn
  have q2 := Nat.mod_lt (f2 * c) hn
  have x0 := fun t v => PO.dm w hu hc h1 hc t v
  have y0 := fun t v => PO.dmN w hu hc h1 (c' := n - 1 - c) (by omega) t v
  rw [Nat.one_mul, Nat.mod_eq_of_lt (PO.neg hu).2.2] at x0 y0
  exact law_tail2 w B X T hn0 hn1 hL c1 c2 Z PO.apK PO.bits hls hnl hnb ho0 ho1 hpv hp0 hp1 hpw x0 y0 (fun t v => PO.dm w hu hc hf1 q1 t v) (fun t v => PO.dmN w hu hc hf1 (by omega) t v) (fun t v => PO.dm w hu hc hf2 q2 t v) (fun t v => PO.dmN w hu hc hf2 (by omega) t v)
    F8 N8 (by rfl) (by rfl) (by rfl) (by exact hmo) (by rfl) (by rfl) (by exact hmf) ht1 ht2 d1 d2 d3 d4 d5 ⟨_, d6'⟩ d7 d8 hend
end
section -- PO
theorem offPO : True := by
  w_top off
  trivial
set_option maxRecDepth 100000
set_option maxHeartbeats 2000000
open Builtin.Int (intBits)
theorem pick_unit (us : List Nat) (h : Int) (hl : 0 < us.length) : ∃ u ∈ us, (us.map fun (x : Nat) => (x : Int)).getD ((h.fmod ((us.map fun (x : Nat) => (x : Int)).length : Nat)).toNat) 0 = (u : Int) := by
  have hlen : (us.map fun (x : Nat) => (x : Int)).length = us.length := by simp
  rw [hlen]
  have h0 : 0 ≤ h.fmod (us.length : Int) := by rw [Int.fmod_eq_emod_of_nonneg _ (by omega)]; exact Int.emod_nonneg _ (by omega)
  have h1 : h.fmod (us.length : Int) < us.length := by rw [Int.fmod_eq_emod_of_nonneg _ (by omega)]; exact Int.emod_lt_of_pos _ (by omega)
  generalize h.fmod (us.length : Int) = k at *
  have hk : k.toNat < us.length := by omega
  refine ⟨us[k.toNat], List.getElem_mem hk, ?_⟩
  simp [List.getD, hk]
theorem law_plane (w : World) {n K o : Nat} {ps us pw : List Nat} (PO : PlaneOk n K o ps us pw) {prog p : Program} {loose : List Str} {mean : ExcName → Option Value} {mg mb : Str → Option Value} {A₀ : Around} {base g : Heap} {L fa D P : Addr} {ccd : Value} {s : Shared} {Q : Flow → Shared → Prop} {o1 o2 o3 o4 o5 o6 o7 o8 : Obj} {h : Heap} {tk : Nat} {m : Str → Option Value}
    {ys vs : List Value} {hs : List Int} {k : Nat} {r1 r2 : List (Addr × Obj)} {t1 t2 : Tok} {pv : Int}
    (B : Below A₀ base [] g) (X : (Mine.hd.heap_39 w.params).In g) (T : Top p loose mean mg mb g) (hL : 100 < L) (c1 : CodeHd base 70 66) (c2 : CodeHd base 77 73)
    (hus : unitsOf (n : Int) = us.map fun (x : Nat) => (x : Int)) (hul0 : 0 < us.length) (hul1 : us.length ≤ 30) (h1 : 1 ∈ us) (ho0 : 2 ≤ o) (ho1 : o ≤ 5) (hpv : (if (o : Int) = 4 then 2 else (o : Int)) = pv) (hp0 : 2 ≤ pv) (hp1 : pv ≤ 5) (hpw : powersOf pv n = pw.map fun (x : Nat) => (x : Int))
    (hI : IntsAre ys hs) (hh : hs.length = 5) (hps : IntsAre vs (ps.map fun (x : Nat) => (x : Int))) (off : Off8 L D (r1 ++ r2)) (offP : Off8 L P (r1 ++ r2)) (hDP : D ≠ P)
    (F : Fr g L h m) (hmp : m (Str.ofString "points") = some (.ref P)) (hmo : m (Str.ofString "order") = some (.int (o : Int) t1))
    (N : News g L h ((P, W.listOf vs.toArray k) :: (D, LCg.lst ys) :: lawNews L o1 o2 o3 o4 o5 o6 o7 o8 (r1 ++ r2)))
    (hr : ∀ q ∈ r1 ++ r2, q.1 < L) (ht1 : TabL 66 58 4 (Str.ofString "_int2digits.<locals>.inner") r1) (ht2 : TabL 73 73 4 (Str.ofString "_digits2int.<locals>.inner") r2)
    (d1 : ∃ v, o1.data = .cell v) (d2 : o2.data = .cell (some (.ref D))) (d3 : o3.data = .cell (some (.int (n : Int) t2))) (d4 : o4.data = .cell none) (d5 : o5.data = .cell none) (d6 : o6.data = .cell none) (d7 : o7.data = .cell none) (d8 : o8.data = .cell none)
    (hend : ∀ m' h' tk', Fr g L h' m' → GrownAt 66 h' → GrownAt 73 h' → Q (.ret (.bool true)) { s with heap := h', toks := tk' }) :
    LawAt w prog L fa ccd Q 2 { s with heap := h, toks := tk } := by
  have hn0 := PO.hn0
  have hn1 := PO.hn1
  have hn : 0 < n := by omega
  -- statement 2
  refine law2 w B X T hI hh hps (by omega) (by omega) off offP hDP F N hr d2 d3 d4 (fun U us' o4' h2 tk2 hIU offU hPU hDU d4' F2 N2 => ?_)
  clear F N
  rw [hus] at hIU
  have hlen : (us.map fun (x : Nat) => (x : Int)).length = us.length := by simp
  have hub : ∀ i, intBits ((us.map fun (x : Nat) => (x : Int)).getD i 0) ≤ 64 := by
    intro i
    refine bits64 ?_
    by_cases hi : i < us.length
    · have e : (us.map fun (x : Nat) => (x : Int)).getD i 0 = (us[i] : Int) := by simp [List.getD, hi]
      have := (PO.neg (List.getElem_mem hi)).2.2
      rw [e]
      omega
    · have e : (us.map fun (x : Nat) => (x : Int)).getD i 0 = 0 := by simp [List.getD, Nat.not_lt.mp hi]
      rw [e]
      omega
  -- statement 3
  refine law3 w B X T hI hh hps (by simpa using PO.len) (by omega) (by omega) hIU (by omega) (by omega) hub off offP offU hDP hPU hDU F2 hmp N2 hr d2 d3 d4' d5 (fun V ls o5' h3 tk3 hIV offV hUV hPV hDV d5' F3 N3 => ?_)
  clear F2 N2
  obtain ⟨u, hu, eu⟩ := pick_unit us (hs.getD (Int.toNat 1) 0) hul0
  rw [lineOf_eq hn eu] at hIV
  have hc : ((hs.getD (Int.toNat 2) 0) % (n : Int)).toNat < n := by
    have h0 : 0 ≤ (hs.getD (Int.toNat 2) 0) % (n : Int) := Int.emod_nonneg _ (by omega)
    have h1 : (hs.getD (Int.toNat 2) 0) % (n : Int) < n := Int.emod_lt_of_pos _ (by omega)
    omega
  have N3' : News g L h3 ((V, LCg.lst ls) :: (U, LCg.lst us') :: (D, LCg.lst ys) :: lawNews L o1 o2 o3 o4' o5' o6 o7 o8 (r1 ++ r2)) := fun q hq => N3 q (by
    rcases List.mem_cons.mp hq with rfl | hq
    · exact .head _
    · rcases List.mem_cons.mp hq with rfl | hq
      · exact .tail _ (.head _)
      · exact .tail _ (.tail _ (.tail _ hq)))
  clear N3
  -- statement 4
  refine law4 w B X T hI hh hIU (by omega) (by omega) F3 N3' d2 d4' (fun W' fs h4 tk4 hIW l4 l5 F4 N4 => ?_)
  clear F3 N3'
  obtain ⟨f1, hf1, e1⟩ := pick_unit us (hs.getD (Int.toNat 3) 0 + 2) hul0
  obtain ⟨f2, hf2, e2⟩ := pick_unit us (hs.getD (Int.toNat 4) 0 + 1) hul0
  unfold factorsOf at hIW
  rw [e1, e2] at hIW
  rcases hIW with _ | ⟨_, ta, _ | ⟨_, tb, _ | ⟨_, tc, _ | _⟩⟩⟩
  have N4' : News g L h4 ((W', W.listOf #[.int 1 ta, .int (f1 : Int) tb, .int (f2 : Int) tc] 0) :: (V, LCg.lst ls) :: lawNews L o1 o2 o3 o4' o5' o6 o7 o8 (r1 ++ r2)) := fun q hq => N4 q (by
    rcases List.mem_cons.mp hq with rfl | hq
    · exact .head _
    · rcases List.mem_cons.mp hq with rfl | hq
      · exact .tail _ (.head _)
      · exact .tail _ (.tail _ (.tail _ (.tail _ hq))))
  exact law_tail1 w PO B X T hL c1 c2 hu hc h1 hf1 hf2 hIV ho0 ho1 hpv hp0 hp1 hpw F4 (by rfl) (by exact hmo) N4' hr ht1 ht2 d1 ⟨_, d2⟩ d3 ⟨_, d4'⟩ d5' d6 d7 d8 hend
end
section -- PP
theorem offPP : True := by
  w_top off
  trivial
set_option maxRecDepth 100000
set_option maxHeartbeats 2000000
theorem law_all (w : World) {prog p : Program} {loose : List Str} {mean : ExcName → Option Value} {mg mb : Str → Option Value} {A₀ : Around} {base g : Heap} {L fa la : Addr} {ccd : Value} {s : Shared} {Q : Flow → Shared → Prop} {o1 o2 o3 o4 o5 o6 o7 o8 : Obj} {h : Heap} {tk : Nat} {m : Str → Option Value}
    {vs : List Value} {ns : List Int}
    (B : Below A₀ base [] g) (X : (Mine.hd.heap_39 w.params).In g) (T : Top p loose mean mg mb g) (hL : 100 < L) (c1 : CodeHd base 70 66) (c2 : CodeHd base 77 73) (hI : IntsAre vs ns) (hG : g.IsList la vs.toArray) (hn : ns.length ≤ 63)
    (F : Fr g L h m) (N : News g L h (lawNews L o1 o2 o3 o4 o5 o6 o7 o8 [(73, tabObj #[]), (66, tabObj #[])]))
    (d1 : o1.data = .cell (some (.ref la))) (d2 : o2.data = .cell none) (d3 : o3.data = .cell none) (d4 : o4.data = .cell none) (d5 : o5.data = .cell none) (d6 : o6.data = .cell none) (d7 : o7.data = .cell none) (d8 : o8.data = .cell none)
    (hend : ∀ m' h' tk', Fr g L h' m' → GrownAt 66 h' → GrownAt 73 h' → Q (.ret (.bool true)) { s with heap := h', toks := tk' }) :
    LawAt w prog L fa ccd Q 0 { s with heap := h, toks := tk } := by
  have N' : News g L h (lawNews L o1 o2 o3 o4 o5 o6 o7 o8 ([(66, tabObj #[])] ++ [(73, tabObj #[])])) := fun q hq => N q (by
    simp only [lawNews, List.mem_cons, List.mem_append, List.not_mem_nil, or_false] at hq ⊢
    rcases hq with h | h | h | h | h | h | h | h | h | h <;> simp [h])
  clear N
  have hr : ∀ q ∈ [((66 : Addr), tabObj #[])] ++ [((73 : Addr), tabObj #[])], q.1 < L := by
    intro q hq
    simp only [List.mem_cons, List.mem_append, List.not_mem_nil, or_false] at hq
    have hL' := ltN hL
    rcases hq with rfl | rfl
    · exact ltN (by dsimp only; omega)
    · exact ltN (by dsimp only; omega)
  have t1 : TabL 66 58 4 (Str.ofString "_int2digits.<locals>.inner") [((66 : Addr), tabObj #[])] := .fresh
  have t2 : TabL 73 73 4 (Str.ofString "_digits2int.<locals>.inner") [((73 : Addr), tabObj #[])] := .fresh
  refine law0 w B X T hL hI hG hn F N' hr d1 d2 d3 d4 d5 d6 d7 d8 (fun D ys hs o2' h1 tk1 hIy hlen off d2' F1 N1 => ?_)
  clear F N'
  obtain ⟨o, v, ps, hP, hC⟩ := plane_any w (hs.getD 0 0)
  refine law1a w B X T hIy hlen off hC F1 N1 hr d2' d3 (fun P vs' k o3' ta tb h2 tk2 hps offP hDP d3' F2 N2 => ?_)
  clear F1 N1
  cases hP with
  | p0 => exact law_plane w ok13 (pv := 3) B X T hL c1 c2 (by decide +kernel) (by decide) (by decide) (by decide) (by decide) (by decide) (by decide) (by decide) (by decide) (by decide +kernel) hIy hlen hps off offP hDP F2 (by rfl) (by rfl) N2 hr t1 t2 ⟨_, d1⟩ d2' d3' d4 d5 d6 d7 d8 hend
  | p1 => exact law_plane w ok7 (pv := 2) B X T hL c1 c2 (by decide +kernel) (by decide) (by decide) (by decide) (by decide) (by decide) (by decide) (by decide) (by decide) (by decide +kernel) hIy hlen hps off offP hDP F2 (by rfl) (by rfl) N2 hr t1 t2 ⟨_, d1⟩ d2' d3' d4 d5 d6 d7 d8 hend
  | p2 => exact law_plane w ok31 (pv := 5) B X T hL c1 c2 (by decide +kernel) (by decide) (by decide) (by decide) (by decide) (by decide) (by decide) (by decide) (by decide) (by decide +kernel) hIy hlen hps off offP hDP F2 (by rfl) (by rfl) N2 hr t1 t2 ⟨_, d1⟩ d2' d3' d4 d5 d6 d7 d8 hend
  | p3 => exact law_plane w ok21 (pv := 2) B X T hL c1 c2 (by decide +kernel) (by decide) (by decide) (by decide) (by decide) (by decide) (by decide) (by decide) (by decide) (by decide +kernel) hIy hlen hps off offP hDP F2 (by rfl) (by rfl) N2 hr t1 t2 ⟨_, d1⟩ d2' d3' d4 d5 d6 d7 d8 hend
end
section -- PQ
theorem offPQ : True := by
  w_top off
  trivial
set_option maxRecDepth 100000
set_option maxHeartbeats 8000000
theorem lawHolds : PySem.Challenge.rw_zo0025_01.Holds := by
  refine hdN rfl (by rfl) (by rfl) ?_
  intro w s₀ s₁ mg mb G Y fa o pm cd doc dV kV ho hd0 hcd hD hmg hg args vals as hpre hlay hrd hwl hlo
  have KX := km_in_of Y
  km_tabs Y
  have X := (Ground.X G).1
  have V := (Ground.X G).2
  refine Ground.open G ?_
  intro T B D TE TW
  clear D
  km_lay T hmg ho hd0 cd
  clear hmg
  wrow_args hpre hlay hrd hwl hlo
  refine codeN_mono ?_ (fun r s' h => ghost_end w hT9 (fun _ _ => rfl) h)
  have he := Dflts.none hD rfl; subst he; have he := Dflts.noKw hD; subst he
  refine enterN (by decide) ho (fd_plain hd0) (Top.nolimit T) hcd rfl (kinds_of (by kinds_ok)) (by decide) rfl rfl rfl fun h₁ tk₁ cells F N0 X0 => ?_
  cells_open X0
  clear hd0
  kn_ghosts F T
  k_drop
  skip
  (all_goals try k_fold)
  clear hD
  rename Fr _ _ _ _ => F1
  rename News _ _ _ _ => N1
  rename Below _ _ _ _ => B1
  rename Top _ _ _ _ _ _ => T1
  rename (Mine.hd.heap_39 _).In (ghostOf _ _) => X1
  rename IntsAre _ _ => hI1
  rename Heap.IsList (ghostOf _ _) _ _ => hG1
  refine law_all w (g := ghostOf s₁.heap [(77, 73), (70, 66)]) (L := s₁.heap.objs.size) B1 X1 T1 ?hL (by assumption) (by assumption) hI1 hG1 (by omega) F1 N1 (by assumption) (by assumption) (by assumption) (by assumption) (by assumption) (by assumption) (by assumption) (by assumption) ?hend
  case hL =>
    have e : ∃ o, (Mine.hd.heap_39 w.params).lookup 125 = some o := ⟨_, by k_is⟩
    obtain ⟨o, e⟩ := e
    have h1 := Heap.lt_size (X1 _ _ e)
    exact Nat.lt_of_lt_of_le (Nat.lt_trans (by decide : 100 < 125) h1) F1.above
  case hend =>
    intro m' h' tk' F9 g66 g73
    refine ⟨goodW_bool F9 hg (fun _ => rfl) ?_, g73, g66, True.intro⟩
    refine postW_of (X := true) rfl ?_ rfl
    show WTm.value _ (.eq .res (.lit (.bool true))) _ = _
    wtm_val
end
end Mine
theorem PySem.Challenge.cw_zo0025_01_holds : PySem.Challenge.rw_zo0025_01.Holds := by
  exact Mine.lawHolds
