import PyProof.Rows.All
import Wide.All
import OpenK.AllK
import Wide.FinOn
import PySem.Challenge.RW_fh5003_01
open PySem PySem.W PyProof.Rows
set_option Elab.async false
set_option maxRecDepth 100000
namespace Mine
set_option maxHeartbeats 8000000 in
open_top hd for PySem.Challenge.rw_fh5003_01
end Mine
open PySem.Calls PySem.Spec
namespace Mine

section -- M0
abbrev tokO (dx : Addr) (v t sb : Str) (t1 t2 t3 : Tok) : Obj :=
  { cls := .ref 101, dict := some dx, data := .plain, slots := [some (.str sb t3), some (.str t t2), some (.str v t1)].toArray }

abbrev atA (n u : Nat) (env : Env) (outer : List Env) : Around := { handled := none, depth := n, frames := some (env :: outer), guards := none, units := u }

theorem weaken {α : Type} {M : Model} {A A' : Around} {t : Sem α} {Q : α → Shared → Prop} {E : Value → Shared → Prop} {s : Shared}
    (h : wpAny M A t Q E s) (h1 : A'.handled = A.handled) (h2 : A'.depth ≤ A.depth) (h3 : ∀ l, A.frames = some l → A'.frames = some l) (h4 : A.guards = none) (h5 : A'.units ≤ A.units) :
    wpAny M A' t Q E s := fun Γ p hΓ => h Γ p
  (⟨hΓ.1.trans h1, Nat.le_trans hΓ.2.1 h2, fun l hl => hΓ.2.2.1 l (h3 l hl), fun g hg => absurd (h4.symm.trans hg) (fun e => nomatch e), Nat.le_trans hΓ.2.2.2.2 h5⟩ : Γ.In A)

abbrev TopP (mean : ExcName → Option Value) (mg mb : Str → Option Value) (h : Heap) : Prop := Top Mine.hd.view_39 (looseW Mine.hd.view_39 [Str.ofString "_twin_re_1", Str.ofString "Token", Str.ofString "_law_words"]) mean mg mb h

section
variable {prog : Program} {w : World} {A : Around} {E : Value → Shared → Prop} {s : Shared} {K : Frag} {x C p L : Addr} {ox : Obj} {od : Option Obj} {name : Str} {h₀ : Heap} {m : Str → Option Value} {news : List (Addr × Obj)}

theorem ownS (hc : isClsIn K C = true) (hh : hasDictIn K C = false) : ∃ cd, clsIn K C = some cd ∧ cd.hasDict = false := by
  obtain ⟨cd, h⟩ := Option.isSome_iff_exists.mp hc
  refine ⟨cd, h, ?_⟩
  unfold hasDictIn at hh
  rw [h] at hh
  exact hh

theorem findObj_clsS {a : Value} (hc : isClsIn K C = true) (hh : hasDictIn K C = false) (ha : findIn K (.ref C) name = some (some a)) (hn : specialIn K a "__get__" = some none)
    (hv : handedIn a = true) (hcp : copiedNames.contains name = false) : findObj K C od name = some (.value a) := by
  obtain ⟨cd, h1, h2⟩ := ownS hc hh
  unfold findObj
  rw [h1, Option.bind_some, ha, Option.bind_some]
  have ho : PySem.W.ownOf cd od name = some none := by unfold PySem.W.ownOf; rw [if_neg (by rw [h2]; decide)]
  simp only [hn, Option.bind_some, ho, hcp, Bool.false_and, Bool.false_eq_true, if_false, hv, if_true]

theorem findObj_fnS {a g : Value} (hc : isClsIn K C = true) (hh : hasDictIn K C = false) (ha : findIn K (.ref C) name = some (some a)) (hn : specialIn K a "__get__" = some (some g)) (ht : takesIn K a = some false)
    (hcp : copiedNames.contains name = false) : findObj K C od name = some (.bind g a) := by
  obtain ⟨cd, h1, h2⟩ := ownS hc hh
  unfold findObj
  rw [h1, Option.bind_some, ha, Option.bind_some]
  have ho : PySem.W.ownOf cd od name = some none := by unfold PySem.W.ownOf; rw [if_neg (by rw [h2]; decide)]
  simp only [hn, Option.bind_some, ht, ho, hcp, Bool.false_and, Bool.false_eq_true, if_false]

theorem get_clsS {expr : Bool} {Q : Value → Shared → Prop} {a : Value} (F : Fr h₀ L s.heap m) (X₀ : K.In h₀) (I : InstAt s.heap x ox C od) (hg : plainGet K C name = true) (hc : isClsIn K C = true) (hh : hasDictIn K C = false)
    (ha : findIn K (.ref C) name = some (some a)) (hn : specialIn K a "__get__" = some none) (hv : handedIn a = true) (hcp : copiedNames.contains name = false) (h : Q a { s with toks := s.toks + 1 }) :
    wpAny (model prog w) A (getAttr (.ref x) name expr) Q E s :=
  get_value (X₀.keeps F.keep) I (plainGet_of hg).1 (findObj_clsS hc hh ha hn hv hcp) hv h

theorem method_cmS {pl : Sem Bool} {Q : Value × List Value → Shared → Prop} {fv : Value} {rest : List Value} (F : Fr h₀ L s.heap m) (X₀ : K.In h₀) (N : News h₀ L s.heap news) (I : InstAt s.heap x ox C od) (hg : plainGet K C name = true) (hc : isClsIn K C = true) (hh : hasDictIn K C = false) (ha : findIn K (.ref C) name = some (some (.ref p))) (ht : typeIn K (.ref p) = some (.type "classmethod"))
    (hgf : specialIn K (.ref p) "__get__" = some (some (.builtin "classmethod.__get__"))) (hts : takesIn K (.ref p) = some false) (hcp : copiedNames.contains name = false) (hp : recIn K p "classmethod" = some (fv :: rest))
    (h : ∀ q h', Fr h₀ L h' m → News h₀ L h' ((q, methodObj fv (.ref C)) :: news) → (∀ r ∈ news, r.1 < q) → Q (.ref q, []) { s with heap := h', toks := s.toks + 1 }) : wpAny (model prog w) A (getMethod (.ref x) name pl) Q E s :=
  method_usual (r := some (.ref p)) (X₀.keeps F.keep) I (plainGet_of hg).1 (plainGet_of hg).2 ha (by simp only [Option.all_some, ht, Option.any_some]; decide +kernel)
    (get_bind (X₀.keeps F.keep) I (plainGet_of hg).1 (findObj_fnS hc hh ha hgf hts hcp) (plainGet_of hg).2
      (wpAny_call (cm_get (s := { s with toks := s.toks + 1 }) (X₀.keeps F.keep) hp (handed_on rfl (h s.heap.objs.size _ (F.push _) (N.push F _) fun r hr => Heap.lt_size (N r hr).1)))))
end
section
variable {M : Model} {A : Around} {E : Value → Shared → Prop} {s : Shared} {K : Frag} {env : Env} {pos : Pos} {first : List Value} {Q : Value → Shared → Prop}
theorem callWith_MKW {h₀ : Heap} {L : Addr} {news : List (Addr × Obj)} {q g : Addr} {self : Value} {e : Expr} {rest : List Expr} {kws : List Keyword} (_X : K.In h₀) (_N : News h₀ L s.heap news) (_q : (q, methodObj (.ref g) self) ∈ news) (hf : fnIn K g = true)
    (hall : (backToKw pos (keywordEach kws env)).all (·.1.isSome) = true)
    (h : wpAny M A (spliced (backTo pos (starEach (e :: rest) env))) (fun vs s₁ => wpAny M A (evalAll ((backToKw pos (keywordEach kws env)).map (·.2)))
      (fun ks s₂ => MethP K q g self s₂.heap ∧ wpAny M A (call (.ref q) (first ++ vs) (((backToKw pos (keywordEach kws env)).filterMap (·.1)).zip ks)) Q E s₂) E s₁) E s)
    (hplain : ((backTo pos (starEach (e :: rest) env)).any (·.1) || (backToKw pos (keywordEach kws env)).any (·.1.isNone)) = false := by rfl) (he : starEach (e :: rest) env = (false, eval e env) :: starEach rest env := by rfl) :
    wpAny M A (callWith pos (.ref q) first (backTo pos (starEach (e :: rest) env)) (backToKw pos (keywordEach kws env))) Q E s :=
  callWith_of hplain (keeps_M hf) (evalArgs_kw2 hall h he)
end
end

section -- R1
theorem pat_slot : Slot "re.Pattern" "match" "re.Pattern.match" :=
  .of (owner := "re.Pattern") (n := "match") (by rw [typeLookup_type, builtinLookup_eq_fast]; kernel_rfl) (by decide +kernel) (by decide +kernel) (by decide +kernel)
    (by first | exact .inl (by decide +kernel) | exact .inr (by decide +kernel)) (by rw [isSubtype_type]; kernel_rfl)
theorem pat_type : typeOf (.builtin "re.Pattern.match") = pure (.type "method_descriptor") := by show builtinType _ = _; rw [builtinType_eq_fast]; kernel_rfl
theorem pat_entry : entryFor table "re.Pattern.match" = some Builtin.«re.Pattern.match» := entryFor_of_tree (by kernel_rfl)
theorem pat_attrs : PlainAttrs "re.Pattern" :=
  ⟨⟨"object.__getattribute__", by rw [typeLookup_type, builtinLookup_eq_fast]; kernel_rfl, by decide +kernel⟩, by rw [typeLookup_type, builtinLookup_eq_fast]; kernel_rfl⟩
theorem pat_args (a b : Value) : argsOk "re.Pattern.match" ⟨[a, b], []⟩ := by
  unfold argsOk; kernel_rfl

namespace Re

def code : Array Nat := #[14, 4, 0, 1, 4294967295, 7, 11, 24, 5, 1, 4294967295, 2, 1, 16, 40, 15, 7, 5, 16, 41, 15, 2, 0, 1]

theorem run_any (text : Array Nat) : ∀ (n p found : Nat) (seen : Sre.Seen), (∀ i, p ≤ i → i < p + n → text.getD i 0 ≠ 10) → Sre.run code text 11 n p found seen = .ok (found + n, seen)
  | 0, _, _, _, _ => rfl
  | n + 1, p, found, seen, h => by
    have h1 : Sre.accepts code 11 (text.getD p 0) seen = .ok (true, seen) := by
      show (Except.ok (text.getD p 0 != 10, seen) : Except String (Bool × Sre.Seen)) = _
      rw [bne_iff_ne.mpr (h p (Nat.le_refl _) (by omega))]
    show (Sre.accepts code 11 (text.getD p 0) seen >>= fun x => if x.1 then Sre.run code text 11 n (p + 1) (found + 1) x.2 else pure (found, x.2)) = _
    rw [h1]
    show Sre.run code text 11 n (p + 1) (found + 1) seen = _
    rw [run_any text n (p + 1) (found + 1) seen (fun i a b => h i (by omega) (by omega))]
    rw [Nat.add_assoc, Nat.add_comm 1 n]

abbrev st (text : Array Nat) (N pc pos handed : Nat) (frames : List Sre.Frame) (weight : Nat) (ans : Option Bool) (seen : Sre.Seen) (out : Option Sre.Outcome) : Sre.M :=
  { code := code, text := text, lim := N, start := 0, pc := pc, pos := pos, handed := handed, marks := #[], frames := frames, weight := weight, answer := ans, seen := seen, outcome := out }

abbrev f1 : Sre.Frame := { wait := .nextBranch, pc := 6, pos := 0, outermost := true }
abbrev f2 (p : Nat) (c : Int) : Sre.Frame := { wait := .giveBack, pc := 7, pos := p, outermost := true, count := c }

theorem s0 (text : Array Nat) (N : Nat) (seen : Sre.Seen) : (st text N 5 0 0 [] 0 none seen none).step = st text N 7 0 0 [f1] 1 none (seen.add 7) none := by
  rfl
theorem s1 (text : Array Nat) (N : Nat) (seen : Sre.Seen) (hN : 2 ≤ N) (hN2 : N ≤ 4294967295) (h : ∀ i, i < N → text.getD i 0 ≠ 10) : (st text N 7 0 0 [f1] 1 none seen none).step = st text N 13 N N [f2 N N, f1] 2 none ((seen.add 24).add 2) none := by
  have hr : Sre.run code text 11 N 0 0 ((seen.add 24).add 2) = .ok (N, (seen.add 24).add 2) := by
    rw [run_any text N 0 0 _ (fun i _ b => h i (by omega)), Nat.zero_add]
  have hroom : ¬ (((1 : Nat) : Int) > (N : Int) - ((0 : Nat) : Int)) := by omega
  have hmin : min 4294967295 ((N : Int) - ((0 : Nat) : Int)).toNat = N := by omega
  show (if ((1 : Nat) : Int) > (N : Int) - ((0 : Nat) : Int) then _ else _) = _
  rw [if_neg hroom]
  show (match Sre.run code text 11 (min 4294967295 ((N : Int) - ((0 : Nat) : Int)).toNat) 0 0 ((seen.add 24).add 2) with | .error why => _ | .ok (n, seen) => _) = _
  rw [hmin, hr]
  show (if N < 1 then _ else _) = _
  rw [if_neg (by omega)]
  show st text N 13 (0 + N) (0 + N) [f2 (0 + N) N, f1] 2 none ((seen.add 24).add 2) none = _
  rw [Nat.zero_add]
theorem s2 (text : Array Nat) (N : Nat) (seen : Sre.Seen) : (st text N 13 N N [f2 N N, f1] 2 none seen none).step = st text N 13 N N [f2 N N, f1] 2 (some false) (seen.add 16) none := by
  show (if N ≥ N then _ else _) = _
  rw [if_pos (Nat.le_refl _)]
  rfl
theorem s3 (text : Array Nat) (N : Nat) (seen : Sre.Seen) (hN : 2 ≤ N) : (st text N 13 N N [f2 N N, f1] 2 (some false) seen none).step = st text N 13 (N - 1) (N - 1) [f2 (N - 1) (N - 1 : Nat), f1] 2 none seen none := by
  show (if (N : Int) - 1 < ((1 : Nat) : Int) then _ else _) = _
  rw [if_neg (by omega)]
  have e : (N : Int) - 1 = ((N - 1 : Nat) : Int) := by omega
  rw [← e]
  rfl
theorem s4 (text : Array Nat) (N : Nat) (seen : Sre.Seen) (hN : 2 ≤ N) (h : text.getD (N - 1) 0 = 40) : (st text N 13 (N - 1) (N - 1) [f2 (N - 1) (N - 1 : Nat), f1] 2 none seen none).step = st text N 15 N (N - 1) [f2 (N - 1) (N - 1 : Nat), f1] 2 none (seen.add 16) none := by
  show (if N - 1 ≥ N then _ else _) = _
  rw [if_neg (by omega)]
  show (match (Except.ok (text.getD (N - 1) 0 == 40, seen.add 16) : Except String (Bool × Sre.Seen)) with | .error why => _ | .ok (false, seen) => _ | .ok (true, seen) => _) = _
  rw [h]
  show st text N 15 (N - 1 + 1) (N - 1) [f2 (N - 1) (N - 1 : Nat), f1] 2 none (seen.add 16) none = _
  rw [Nat.sub_add_cancel (by omega)]
theorem s5 (text : Array Nat) (N : Nat) (seen : Sre.Seen) : (st text N 15 N (N - 1) [f2 (N - 1) (N - 1 : Nat), f1] 2 none seen none).step = st text N 23 N (N - 1) [f2 (N - 1) (N - 1 : Nat), f1] 2 none (seen.add 15) none := rfl
theorem s6 (text : Array Nat) (N : Nat) (seen : Sre.Seen) : (st text N 23 N (N - 1) [f2 (N - 1) (N - 1 : Nat), f1] 2 none seen none).step = st text N 23 N N [f2 (N - 1) (N - 1 : Nat), f1] 2 (some true) (seen.add 1) none := rfl
theorem s7 (text : Array Nat) (N : Nat) (seen : Sre.Seen) : (st text N 23 N N [f2 (N - 1) (N - 1 : Nat), f1] 2 (some true) seen none).step = st text N 7 (N - 1) N [f1] 1 (some true) seen none := rfl
theorem s8 (text : Array Nat) (N : Nat) (seen : Sre.Seen) : (st text N 7 (N - 1) N [f1] 1 (some true) seen none).step = st text N 6 0 N [] 0 (some true) seen none := rfl
theorem s9 (text : Array Nat) (N : Nat) (seen : Sre.Seen) : (st text N 6 0 N [] 0 (some true) seen none).step = st text N 6 0 N [] 0 (some true) seen (some .matched) := rfl

theorem start (text : Array Nat) (N : Nat) (hN : 2 ≤ N) : Sre.forMatch code text 0 0 N false false = st text N 5 0 0 [] 0 none (({} : Sre.Seen).add 14) none := by
  show (if ((1 : Nat) != 0 && decide (0 ≤ N) && decide (N - 0 < 1)) = true then _ else _) = _
  rw [if_neg (by simp; omega)]
  rfl

theorem runFor_succ (n : Nat) (m : Sre.M) (h : m.outcome = none) : m.runFor (n + 1) = m.step.runFor n := by
  show (if m.outcome.isSome = true then m else _) = _
  rw [h]; rfl
theorem runFor_some (n : Nat) (m : Sre.M) (h : m.outcome.isSome = true) : m.runFor n = m := by
  cases n with
  | zero => rfl
  | succ n => show (if m.outcome.isSome = true then m else _) = _; rw [if_pos h]

theorem t1 (text : Array Nat) (N : Nat) (seen : Sre.Seen) (hN : 2 ≤ N) (hN2 : N ≤ 4294967295) (h : ∀ i, i < N → text.getD i 0 ≠ 10) :
    ∃ seen', (st text N 5 0 0 [] 0 none seen none).runFor 4 = st text N 13 (N - 1) (N - 1) [f2 (N - 1) (N - 1 : Nat), f1] 2 none seen' none :=
  ⟨_, by rw [runFor_succ 3 _ rfl, s0, runFor_succ 2 _ rfl, s1 text N _ hN hN2 h, runFor_succ 1 _ rfl, s2, runFor_succ 0 _ rfl, s3 text N _ hN]; rfl⟩
theorem t2 (text : Array Nat) (N : Nat) (seen : Sre.Seen) (hN : 2 ≤ N) (h : text.getD (N - 1) 0 = 40) :
    ∃ seen', (st text N 13 (N - 1) (N - 1) [f2 (N - 1) (N - 1 : Nat), f1] 2 none seen none).runFor 4 = st text N 7 (N - 1) N [f1] 1 (some true) seen' none :=
  ⟨_, by rw [runFor_succ 3 _ rfl, s4 text N _ hN h, runFor_succ 2 _ rfl, s5, runFor_succ 1 _ rfl, s6, runFor_succ 0 _ rfl, s7]; rfl⟩
theorem t3 (text : Array Nat) (N : Nat) (seen : Sre.Seen) :
    (st text N 7 (N - 1) N [f1] 1 (some true) seen none).runFor 4 = st text N 6 0 N [] 0 (some true) seen (some .matched) := by
  rw [runFor_succ 3 _ rfl, s8, runFor_succ 2 _ rfl, s9, runFor_some 2 _ rfl]

section
variable {M : Model} {A : Around} {E : Value → Shared → Prop} {s : Shared}
theorem drive_more {n : Nat} {m m' : Sre.M} {Q : Sre.M → Shared → Prop} (e : m.runFor 4 = m') (ho : m'.outcome = none) (h : wpAny M A (Builtin.Re.reDrive n m') Q E s) : wpAny M A (Builtin.Re.reDrive (n + 1) m) Q E s := by
  show wpAny M A (if (m.runFor 4).outcome.isSome = true then pure (m.runFor 4) else do rule "sre.turn"; Builtin.Re.reDrive n (m.runFor 4)) Q E s
  rw [e, ho]
  exact wpAny_bind (wpAny_rule h)
theorem drive_end {n : Nat} {m m' : Sre.M} {Q : Sre.M → Shared → Prop} (e : m.runFor 4 = m') (ho : m'.outcome.isSome = true) (h : Q m' s) : wpAny M A (Builtin.Re.reDrive (n + 1) m) Q E s := by
  show wpAny M A (if (m.runFor 4).outcome.isSome = true then pure (m.runFor 4) else do rule "sre.turn"; Builtin.Re.reDrive n (m.runFor 4)) Q E s
  rw [e, if_pos ho]
  exact wpAny_pure h
theorem rules {Q : PUnit → Shared → Prop} (c : Nat → Bool) (f : Nat → String) (h : Q PUnit.unit s) : ∀ l : List Nat, wpAny M A (forIn l PUnit.unit fun i _ => if c i = true then do rule (f i); pure (ForInStep.yield PUnit.unit) else pure (ForInStep.yield PUnit.unit)) Q E s
  | [] => wpAny_pure h
  | i :: l => by
    rw [List.forIn_cons]
    refine wpAny_bind ?_
    cases c i with
    | true => exact wpAny_bind (wpAny_rule (wpAny_pure (rules c f h l)))
    | false => exact wpAny_pure (rules c f h l)
theorem toEnd {m m' : Sre.M} {Q : Option Sre.M → Shared → Prop} (hd : ∀ Q' : Sre.M → Shared → Prop, Q' m' s → wpAny M A (Builtin.Re.reDrive (2 ^ 64) m) Q' E s) {r : Option Sre.M}
    (ho : (m'.outcome = some .matched ∧ r = some m') ∨ (m'.outcome = some .failed ∧ r = none)) (h : Q r s) : wpAny M A (Builtin.Re.reRunToEnd m) Q E s := by
  unfold Builtin.Re.reRunToEnd
  refine wpAny_bind (hd _ (wpAny_bind (rules (fun i => m'.seen.has i) (fun i => Sre.names.getD i "") ?_ _)))
  rcases ho with ⟨e, rfl⟩ | ⟨e, rfl⟩ <;> (rw [e]; exact wpAny_pure h)
theorem yes {text : Array Nat} {N : Nat} {Q : Option Sre.M → Shared → Prop} (hN : 2 ≤ N) (hN2 : N ≤ 4294967295) (h : ∀ i, i < N → text.getD i 0 ≠ 10) (hl : text.getD (N - 1) 0 = 40)
    (k : ∀ m : Sre.M, m.lastmark = -1 → m.lastindex = -1 → m.marks = #[] → Q (some m) s) : wpAny M A (Builtin.Re.reRunToEnd (Sre.forMatch code text 0 0 N false false)) Q E s := by
  rw [start text N hN]
  obtain ⟨x1, e1⟩ := t1 text N (({} : Sre.Seen).add 14) hN hN2 h
  obtain ⟨x2, e2⟩ := t2 text N x1 hN hl
  refine toEnd (m' := st text N 6 0 N [] 0 (some true) x2 (some .matched)) (fun Q' q => ?_) (.inl ⟨rfl, rfl⟩) (k _ rfl rfl rfl)
  have e : (2 ^ 64 : Nat) = 18446744073709551613 + 1 + 1 + 1 := by decide
  rw [e]
  exact drive_more e1 rfl (drive_more e2 rfl (drive_end (t3 text N x2) rfl q))
end
end Re
end

section -- R2
abbrev patO : Obj := { cls := .type "re.Pattern", data := .fields #[.str (Str.ofString ".+\\(|\\)") 285, .int 32 312, .int 0 0, .none, .none, .ref 35, .int 0 0] }
abbrev codeVs : Array Value := #[.int 14 0, .int 4 0, .int 0 0, .int 1 0, .int 4294967295 0, .int 7 0,
        .int 11 0, .int 24 0, .int 5 0, .int 1 0, .int 4294967295 0, .int 2 0,
        .int 1 0, .int 16 0, .int 40 0, .int 15 0, .int 7 0, .int 5 0, .int 16 0,
        .int 41 0, .int 15 0, .int 2 0, .int 0 0, .int 1 0]
abbrev codeO : Obj := { cls := .type "tuple", data := .seq codeVs }
theorem codeVs_eq : Array.map (fun x : Int => x.toNat) (Array.map Builtin.Re.reRawOf ((some codeVs).getD #[])) = Re.code := by decide +kernel
abbrev matO (v : Str) (t : Tok) (N : Nat) (tu : Addr) : Obj := { cls := .type "re.Match", data := .fields #[.str v t, .ref 36, rawInt 0, rawInt N, rawInt (-1), .ref tu] }
theorem K36 (P : Params) : (Mine.hd.heap_39 P).lookup 36 = some patO := by rfl
theorem K35 (P : Params) : (Mine.hd.heap_39 P).lookup 35 = some codeO := by rfl

theorem wp_no {α : Type} {M : Model} {A : Around} {E : Value → Shared → Prop} {s : Shared} {Q : α → Shared → Prop} {c : Bool} {a b : Sem α} (h : c = false) (k : wpAny M A b Q E s) : wpAny M A (if c = true then a else b) Q E s := by
  subst h; exact k
theorem target {M : Model} {A : Around} {E : Value → Shared → Prop} {s : Shared} {v : Str} {t : Tok} {Q : Builtin.Re.ReTarget → Shared → Prop} (h36 : s.heap.get? 36 = some patO) (h35 : s.heap.get? 35 = some codeO) (hv : v.cps.size ≤ 4294967295)
    (h : Q { pattern := .ref 36, string := .str v t, code := Re.code, text := v.cps, kind := 0, groups := 0, pos := 0, lim := v.cps.size } s) : wpAny M A (Builtin.Re.reTarget "re.Pattern.match" "match" ⟨[.ref 36, .str v t], []⟩) Q E s := by
  have hmin : min (2 ^ 63 - 1 : Int).toNat v.cps.size = v.cps.size := by omega
  have h0 : min (0 : Int).toNat v.cps.size = 0 := by simp
  obtain ⟨hh, g, d, tt, os⟩ := s
  dsimp only at h36 h35
  have hn : Builtin.Re.reNamed "re.Pattern.match" "match" ["string", "pos", "endpos"] 1 [Value.str v t] [] = pure [some (.str v t), none, none] := by kernel_rfl
  unfold Builtin.Re.reTarget
  dsimp only
  rw [hn]
  refine wpAny_bind (wpAny_pure ?_)
  dsimp only
  refine wpAny_bind (wpAny_pure (wpAny_bind (wpAny_pure ?_)))
  unfold fieldsOf
  refine wpAny_bind (wpAny_bind (wpAny_load h36 (wpAny_pure ?_)))
  refine wpAny_bind (wpAny_pure ?_)
  refine wp_no rfl (wp_no rfl ?_)
  refine wpAny_bind (wpAny_pure ?_)
  unfold Builtin.Re.reRawItems seqItems?
  refine wpAny_bind (wpAny_bind (wpAny_bind (wpAny_load h35 (wpAny_pure (wpAny_pure (wpAny_pure ?_))))))
  rw [show min ((2 ^ 63 - 1 : Int)).toNat v.cps.size = v.cps.size from hmin, h0, codeVs_eq]
  exact h

theorem no_spans : ((List.range 0).flatMap fun (g : Nat) => ([] : List Value)) = [] := rfl
theorem match_run {prog : Program} {w : World} {A : Around} {s : Shared} {R : Result → Shared → Prop} {v : Str} {t : Tok} (h36 : s.heap.get? 36 = some patO) (h35 : s.heap.get? 35 = some codeO) (hv : v.cps.size ≤ 4294967295)
    {ok : Bool} (hr : ∀ (A : Around) (E : Value → Shared → Prop) (s : Shared) (Q : Option Sre.M → Shared → Prop), (if ok then ∀ m : Sre.M, m.lastmark = -1 → m.lastindex = -1 → m.marks = #[] → Q (some m) s else Q none s) → wpAny (model prog w) A (Builtin.Re.reRunToEnd (Sre.forMatch Re.code v.cps 0 0 v.cps.size false false)) Q E s)
    (h1 : ok = true → ∀ a b : Int, R (.ok (.ret (.ref (s.heap.objs.size + 1)))) { s with heap := (s.heap.push { cls := .type "tuple", data := .seq #[rawInt a, rawInt b] }).push { cls := .type "re.Match", data := .fields #[.str v t, .ref 36, rawInt 0, rawInt v.cps.size, rawInt (-1), .ref s.heap.objs.size] } })
    (h0 : ok = false → R (.ok (.ret .none)) s) :
    codeAny (model prog w) A (.call (.builtin "re.Pattern.match") ⟨[.ref 36, .str v t], []⟩) R s := by
  refine codeAny_call_builtin pat_slot.plain pat_entry (pat_slot.check _ _ _ _ _ _ _ _ ⟨_, h36, rfl⟩ (pat_args _ _) ?_)
  unfold Builtin.«re.Pattern.match»
  refine wpAny_bind (target h36 h35 hv ?_)
  unfold Builtin.Re.reAnswer
  dsimp only
  refine wpAny_bind (hr _ _ _ _ ?_)
  cases ok with
  | false => exact wpAny_pure (h0 rfl)
  | true =>
    intro m e1 e2 e3
    dsimp only
    unfold Builtin.Re.reNewMatch
    refine wpAny_bind (wpAny_bind ?_)
    refine wpAny_newObj_type ?_ (by show (2 : Nat) ≤ sizeLine; rw [sizeLine_eq]; decide)
    refine wpAny_newObj_type (wpAny_pure ?_) (by size_fits)
    have z := h1 rfl m.start m.handed
    rw [e2]
    rw [Heap.size_push]
    exact z
end

section -- R3
theorem match_nobool : typeLookup (.type "re.Match") "__bool__" = pure none := by rw [typeLookup_type, builtinLookup_eq_fast]; kernel_rfl
theorem match_nolen : typeLookup (.type "re.Match") "__len__" = pure none := by rw [typeLookup_type, builtinLookup_eq_fast]; kernel_rfl

section
variable {w : World} {A : Around} {E : Value → Shared → Prop} {s : Shared} {h₀ : Heap} {L : Addr} {m : Str → Option Value} {news : List (Addr × Obj)} {prog : Program}
theorem pat_method {pl : Sem Bool} {Q : Value × List Value → Shared → Prop} (F : Fr h₀ L s.heap m) (X : (Mine.hd.heap_39 w.params).In h₀) (h : Q (.builtin "re.Pattern.match", [.ref 36]) s) :
    wpAny (model prog w) A (getMethod (.ref 36) (Str.ofString "match") pl) Q E s :=
  have h36 := (X.keeps F.keep) 36 _ (K36 _)
  getMethod_builtin ⟨_, h36, rfl⟩ pat_attrs pat_slot pat_type (fun a e => by cases e; exact ⟨_, h36, rfl⟩) h

theorem match_K {v : Str} {t : Tok} {Q : Value → Shared → Prop} (ok : Bool) (F : Fr h₀ L s.heap m) (X : (Mine.hd.heap_39 w.params).In h₀) (N : News h₀ L s.heap news) (hv : v.cps.size ≤ 4294967295)
    (hr : ∀ (A : Around) (E : Value → Shared → Prop) (s : Shared) (Q : Option Sre.M → Shared → Prop), (if ok then ∀ m : Sre.M, m.lastmark = -1 → m.lastindex = -1 → m.marks = #[] → Q (some m) s else Q none s) → wpAny (model prog w) A (Builtin.Re.reRunToEnd (Sre.forMatch Re.code v.cps 0 0 v.cps.size false false)) Q E s)
    (h : if ok then ∀ (q tu : Addr) (h' : Heap) (a b : Int), Fr h₀ L h' m → News h₀ L h' ((q, matO v t v.cps.size tu) :: (tu, { cls := .type "tuple", data := .seq #[rawInt a, rawInt b] }) :: news) → (∀ r ∈ news, r.1 < tu) → tu < q → Q (.ref q) { s with heap := h' }
      else Q .none s) :
    wpAny (model prog w) A (call (.builtin "re.Pattern.match") [.ref 36, .str v t]) Q E s := by
  refine wpAny_call (match_run (ok := ok) ((X.keeps F.keep) 36 _ (K36 _)) ((X.keeps F.keep) 35 _ (K35 _)) hv hr (fun e a b => ?_) fun e => ?_)
  · subst e
    have F1 := F.push { cls := .type "tuple", data := .seq #[rawInt a, rawInt b] }
    have N1 := N.push F { cls := .type "tuple", data := .seq #[rawInt a, rawInt b] }
    have F2 := F1.push (matO v t v.cps.size s.heap.objs.size)
    have N2 := N1.push F1 (matO v t v.cps.size s.heap.objs.size)
    rw [Heap.size_push] at N2
    exact h _ _ _ a b F2 N2 (fun r hr => Heap.lt_size (N r hr).1) (Nat.lt_succ_self _)
  · subst e; exact h

theorem truthy_match {q tu : Addr} {v : Str} {t : Tok} {n : Nat} {Q : Bool → Shared → Prop} (N : News h₀ L s.heap news) (hq : (q, matO v t n tu) ∈ news) (h : Q true s) : wpAny (model prog w) A (truthy (.ref q)) Q E s := by
  have hT : s.TypeIs (.ref q) "re.Match" := ⟨_, (N _ hq).1, rfl⟩
  unfold truthy
  refine wpAny_bind (m := callSpecial? (.ref q) (Str.ofString "__bool__")) (wpAny_bind (wpAny_specialOf hT match_nobool (wpAny_pure ?_)))
  exact wpAny_bind (wpAny_specialOf hT match_nolen (wpAny_pure h))
end

-- the four written texts
section
variable {M : Model} {A : Around} {E : Value → Shared → Prop} {s : Shared}
theorem run_yes3 {m : Sre.M} {Q : Option Sre.M → Shared → Prop} (h1 : (m.runFor 4).outcome = none) (h2 : ((m.runFor 4).runFor 4).outcome = none) (h3 : (((m.runFor 4).runFor 4).runFor 4).outcome = some .matched)
    (h : Q (some (((m.runFor 4).runFor 4).runFor 4)) s) : wpAny M A (Builtin.Re.reRunToEnd m) Q E s := by
  have e : (2 ^ 64 : Nat) = 18446744073709551613 + 1 + 1 + 1 := by decide
  refine Re.toEnd (m' := ((m.runFor 4).runFor 4).runFor 4) (fun Q' q => ?_) (.inl ⟨h3, rfl⟩) h
  rw [e]
  exact Re.drive_more rfl h1 (Re.drive_more rfl h2 (Re.drive_end rfl (by rw [h3]; rfl) q))
theorem run_no2 {m : Sre.M} {Q : Option Sre.M → Shared → Prop} (h1 : (m.runFor 4).outcome = none) (h2 : ((m.runFor 4).runFor 4).outcome = some .failed)
    (h : Q none s) : wpAny M A (Builtin.Re.reRunToEnd m) Q E s := by
  have e : (2 ^ 64 : Nat) = 18446744073709551614 + 1 + 1 := by decide
  refine Re.toEnd (m' := (m.runFor 4).runFor 4) (fun Q' q => ?_) (.inr ⟨h2, rfl⟩) h
  rw [e]
  exact Re.drive_more rfl h1 (Re.drive_end rfl (by rw [h2]; rfl) q)
end
abbrev runM (v : Str) : Sre.M := Sre.forMatch Re.code v.cps 0 0 v.cps.size false false
abbrev RunIs (ok : Bool) (v : Str) : Prop := ∀ (prog : Program) (w : World) (A : Around) (E : Value → Shared → Prop) (s : Shared) (Q : Option Sre.M → Shared → Prop), (if ok then ∀ m : Sre.M, m.lastmark = -1 → m.lastindex = -1 → m.marks = #[] → Q (some m) s else Q none s) → wpAny (model prog w) A (Builtin.Re.reRunToEnd (Sre.forMatch Re.code v.cps 0 0 v.cps.size false false)) Q E s
theorem run_shut : RunIs true (Str.ofString ")") := fun P w A E s Q h =>
  run_yes3 (m := runM (Str.ofString ")")) (by kernel_rfl) (by kernel_rfl) (by kernel_rfl) (h _ (by kernel_rfl) (by kernel_rfl) (by kernel_rfl))
theorem run_open : RunIs false (Str.ofString "(") := fun P w A E s Q h =>
  run_no2 (m := runM (Str.ofString "(")) (by kernel_rfl) (by kernel_rfl) h
theorem run_curl : RunIs false (Str.ofString "{") := fun P w A E s Q h =>
  run_no2 (m := runM (Str.ofString "{")) (by kernel_rfl) (by kernel_rfl) h
theorem run_lruc : RunIs false (Str.ofString "}") := fun P w A E s Q h =>
  run_no2 (m := runM (Str.ofString "}")) (by kernel_rfl) (by kernel_rfl) h
theorem run_name {v : Str} (hN : 2 ≤ v.cps.size) (hN2 : v.cps.size ≤ 4294967295) (h : ∀ i, i < v.cps.size → v.cps.getD i 0 ≠ 10) (hl : v.cps.getD (v.cps.size - 1) 0 = 40) : RunIs true v := fun P w A E s Q k =>
  Re.yes hN hN2 h hl k
end

section -- S1
local macro_rules | `(tactic| walk_at "enter_def") => `(tactic| (k_dflt (refine' code_def ?k1 ?k2 ?k3 ?k4 ?k5 ?kA ?kF ?kK ?k6 ?k7 ?k8 ?k9 ?kB ?_ ?c2 ?c3 ?c4 ?c5; (case kA => exact rfl); (case kF => assumption); (case kK => assumption); (case k1 => k_asm); (case k2 => k_asm); (case k3 => k_asm); (case k4 => k_asm); (case k5 => k_asm); (case k6 => k_is); (case k7 => k_is); (case k8 => exact Nat.le_of_ble_eq_true rfl); (case k9 => first | exact BindsTo.of_eq rfl | exact binds_K (by k_in) rfl (by k_is) rfl rfl rfl); (case c5 => decide); (case kB => exact locs rfl); (case c2 => exact rfl); (case c3 => exact rfl); (case c4 => exact rfl); k_whole; intro g' L' h' FG' F' N' B' X' T'; (try dsimp only); (try k_fold))))
local macro_rules | `(tactic| walk_at "getAttr ref") => `(tactic| (k_here; k_dflt (refine' get_clsS ?k1 ?k2 ?k3 ?k4 ?k5 ?k6 ?k7 ?k8 ?k9 ?k10 ?_; (case k1 => k_asm); (case k2 => k_asm); (case k3 => k_inst); (case k4 => k_is); (case k5 => k_is); (case k6 => k_is); (case k7 => k_is); (case k8 => k_is); (case k9 => k_handed); (case k10 => decide +kernel); k_whole)))
local macro_rules | `(tactic| walk_at "getAttr ref") => `(tactic| (k_here; ((first | (with_reducible show wpAny _ _ (getAttr _ (PySem.Str.ofString "type") _) _ _ _) | (with_reducible show wpAny _ _ (getAttr _ (PySem.Str.ofString "subtype") _) _ _ _) | (with_reducible show wpAny _ _ (getAttr _ (PySem.Str.ofString "value") _) _ _ _))); k_dflt (refine' get_slot ?k1 ?k2 ?k3 ?k4 ?k5 ?k6 ?k7 ?k8 ?k9 ?k10 ?k11 ?_; (case k1 => k_asm); (case k2 => k_asm); (case k3 => k_inst); (case k4 => k_is); (case k5 => k_is); (case k6 => k_is); (case k7 => k_is); (case k8 => k_is); (case k9 => k_is); (case k10 => k_slotget); (case k11 => k_handed); k_whole)))
local macro_rules | `(tactic| walk_at "getAttr ref") => `(tactic| (k_here; (with_reducible show wpAny _ _ (getAttr (Value.ref 101) _ _) _ _ _); k_dflt (refine' cls_val ?k1 ?k2 ?k3 ?k4 ?k5 ?k6 ?_; (case k1 => k_asm); (case k2 => k_asm); (case k3 => k_is); (case k4 => k_is); (case k5 => k_is); (case k6 => k_handed); k_whole)))
local macro_rules | `(tactic| walk_at "getMethod ref") => `(tactic| (k_here; k_dflt (refine' method_cmS ?k1 ?k2 ?k3 ?k4 ?k5 ?k6 ?k7 ?k8 ?k9 ?k10 ?k11 ?k12 ?k13 ?_; (case k1 => k_asm); (case k2 => k_asm); (case k3 => k_asm); (case k4 => k_inst); (case k5 => k_is); (case k6 => k_is); (case k7 => k_is); (case k8 => k_is); (case k9 => k_is); (case k10 => k_is); (case k11 => k_is); (case k12 => decide +kernel); (case k13 => k_is); k_whole; intro q' h' F' N' l1; (try k_lt l1); (try k_sweep))))
local macro_rules | `(tactic| walk_at "own_mem") => `(tactic| first | with_reducible exact List.mem_cons_self | (with_reducible refine List.mem_cons_of_mem _ ?_; walk_at "own_mem") | with_reducible assumption)
local macro_rules | `(tactic| k_mem) => `(tactic| walk_at "own_mem")
local macro_rules | `(tactic| walk_at "callWith ref") => `(tactic| (k_here; k_dflt (refine' callWith_MKW ?k1 ?k2 ?k3 ?k4 ?k5 ?_; (case k1 => k_asm); (case k2 => k_asm); (case k3 => k_mem); (case k4 => k_is); (case k5 => exact rfl); k_whole)))
local macro_rules | `(tactic| k_all) => `(tactic| (intro p9 hp9; refine neN ?_; first | (have q9 := ktn_ltOf (by first | assumption | exact And.right (by assumption) | exact And.right (And.right (by assumption)) | exact And.right (And.right (And.right (by assumption)))) p9 hp9; (try dsimp only at q9 ⊢); omega) | (have q9 := (by assumption : ∀ p ∈ _, @LT.lt Nat _ p.1 _) p9 hp9; (try dsimp only at q9 ⊢); omega)))
set_option maxHeartbeats 8000000 in
theorem c_new {w : World} {mean : ExcName → Option Value} {mg mb : Str → Option Value}
   {v t sb : Str} {t1 t2 t3 : Tok}
   {env : Env} {outer : List Env} {A₀ : Around} {base h₀ : Heap} {L : Addr} {m : Str → Option Value} {news : List (Addr × Obj)} {s : Shared} {Q E : Value → Shared → Prop}
    (B : Below A₀ base outer h₀) (F : Fr h₀ L s.heap m) (X : (Mine.hd.heap_39 w.params).In h₀) (N : News h₀ L s.heap news) (T : TopP mean mg mb h₀) (hf : env.frame = some L) (hk : env.scope.kind = .function)
    (hret : ∀ (y dy : Addr) (h' : Heap) (tk' : Nat), Fr h₀ L h' m → News h₀ L h' ((y, tokO dy v t sb t1 t2 t3) :: (dy, dictOf [] 0) :: news) → (∀ p ∈ news, p.1 < dy) → dy < y → Q (.ref y) { s with heap := h', toks := tk' }) :
      wpAny (model PySem.Challenge.pw_fh5003_01 w) (atA 700 3000 env outer) (call (.ref 101) [.str v t1, .str t t2, .str sb t3]) Q E s := by
  k_dflt (refine' call_cls ?k1 ?k2 ?k3 ?k4 ?k5 ?k6 ?_; (case k1 => k_asm); (case k2 => k_asm); (case k3 => k_asm); (case k4 => k_is); (case k5 => k_is); (case k6 => k_is); k_whole; intro x' d' h' F' N' l1 l2; (try k_lt2 l2))
  walk_at "enter_def"
  k_steps
  exact hret x' d' _ _ (by assumption) (by assumption) l1 l2

section
variable {prog : Program} {w : World} {A : Around} {E : Value → Shared → Prop} {s : Shared}
theorem item_strE {x c : Str} {t : Tok} {i : Int} {u : Tok} {value slice : Expr} {Q : Value → Shared → Prop} (hi : Txt.item x i = c) (hr : fitsSsize i = true) (h1 : -(x.length : Int) ≤ i) (h2 : i < x.length)
    (h : Q (.str c s.toks) { s with toks := s.toks + 1 })
    (hs : subscripted slice false (.str x t) (.int i u) = operate [.str x t, .int i u] (getItem (.str x t) (.int i u)) := by with_unfolding_all rfl)
    (ht : ∀ r, letTemporaryGo value (.str x t) r = pure () := by intro _; with_unfolding_all rfl) :
    wpAny (model prog w) A (subscriptTail value slice (.str x t) (.int i u)) Q E s :=
  item_str hr h1 h2 (fun _ => by rw [hi]; exact h) hs ht
theorem in_strE {x y : Str} {t u : Tok} {b : Bool} {Q : Value → Shared → Prop} (hb : (Builtin.Str.occurrences x y 0 x.length 1).isEmpty = b) (h : Q (.bool (!b)) s) : wpAny (model prog w) A (compareOp .In (.str y u) (.str x t)) Q E s :=
  in_str (by rw [hb]; exact h)
end
local macro_rules | `(tactic| walk_at "call ref") => `(tactic| (k_here; (with_reducible show wpAny _ _ (call (Value.ref 101) [_, _, _]) _ _ _); k_dflt (refine' weaken (c_new ?kB ?kF ?kX ?kN ?kT ?kf ?kk ?_) ?h1 ?h2 ?h3 ?h4 ?h5; (case h3 => exact fun _ h => h); (case kB => k_asm); (case kF => k_asm); (case kX => k_asm); (case kN => k_asm); (case kT => k_asm); (case kf => exact rfl); (case kk => exact rfl); (case h1 => exact rfl); (case h2 => exact Nat.le_of_ble_eq_true rfl); (case h4 => exact rfl); (case h5 => exact Nat.le_of_ble_eq_true rfl); k_whole; intro y' d' h' tk' F' N' l1 l2; (try k_lt l1); (try k_lt2 l2); (try k_sweep))))
local macro_rules | `(tactic| walk_at "subscriptTail Name UnaryOp str int") => `(tactic| (refine item_strE (by assumption) (by decide) (by omega) (by omega) ?_))
local macro_rules | `(tactic| walk_at "compareOp In str str") => `(tactic| (refine in_strE (by assumption) ?_; (try dsimp only [Bool.not_true, Bool.not_false])))
local macro_rules | `(tactic| walk_at "sub_all") => `(tactic| first | (refine List.forall_mem_cons.mpr ⟨by k_mem, ?_⟩; walk_at "sub_all") | (intro p9 hp9; k_mem))
local macro_rules | `(tactic| walk_at "lt_all") => `(tactic| first | assumption | exact ktn_ltOf (by first | assumption | exact And.right (by assumption) | exact And.right (And.right (by assumption)) | exact And.right (And.right (And.right (by assumption)))))
local macro_rules | `(tactic| walk_at "getMethod ref") => `(tactic| (k_here; (with_reducible show wpAny _ _ (getMethod (Value.ref 36) _ _) _ _ _); k_dflt (refine' pat_method ?k1 ?k2 ?_; (case k1 => k_asm); (case k2 => k_asm); k_whole)))
local macro_rules | `(tactic| walk_at "call builtin:re.Pattern.match") => `(tactic| (k_here; k_dflt (refine' match_K true ?k1 ?k2 ?k3 ?k4 ?k5 ?_; (case k1 => k_asm); (case k2 => k_asm); (case k3 => k_asm); (case k4 => (have hz9 := (by assumption : _ ≤ (16 : Nat)); exact Nat.le_trans hz9 (by decide))); (case k5 => exact fun A E s Q h => (by assumption : RunIs true _) _ _ A E s Q h); k_whole; intro q' tu' h' a' b' F' N' l1 l2; (try k_lt l1); (try k_lt2 l2); (try k_sweep))))
local macro_rules | `(tactic| walk_at "truthy ref") => `(tactic| (k_here; k_dflt (refine' truthy_match ?k1 ?k2 ?_; (case k1 => k_asm); (case k2 => k_mem); k_whole)))
set_option maxHeartbeats 8000000 in
theorem sub_names {w : World} {mean : ExcName → Option Value} {mg mb : Str → Option Value}
   {v : Str} {t : Tok} {c : Str} {q : Addr}
   {env : Env} {outer : List Env} {A₀ : Around} {base h₀ : Heap} {L : Addr} {m : Str → Option Value} {news : List (Addr × Obj)} {s : Shared} {Q E : Value → Shared → Prop}
    (B : Below A₀ base outer h₀) (F : Fr h₀ L s.heap m) (X : (Mine.hd.heap_39 w.params).In h₀) (N : News h₀ L s.heap news) (T : TopP mean mg mb h₀) (hf : env.frame = some L) (hk : env.scope.kind = .function)
    (hq : (q, methodObj (.ref 77) (.ref 101)) ∈ news)
    (hs1 : 1 ≤ v.length) (hs2 : v.length ≤ 16) (hit : Txt.item v (-1) = c) (hc : ([Str.ofString "{", Str.ofString "}", Str.ofString "(", Str.ofString ")"].any fun x => x == c) = true)
    (ho1 : (Builtin.Str.occurrences (Str.ofString "{}") v 0 (Str.ofString "{}").length 1).isEmpty = true)
    (ho2 : (Builtin.Str.occurrences (Str.ofString "()") v 0 (Str.ofString "()").length 1).isEmpty = true)
    (ho3 : (Builtin.Str.occurrences (Str.ofString ")}") v 0 (Str.ofString ")}").length 1).isEmpty = true)
    (hret : ∀ (y dy : Addr) (u2 u3 : Tok) (h' : Heap) (tk' : Nat), Fr h₀ L h' m → News h₀ L h' ((y, tokO dy v (Str.ofString "FUNC") (Str.ofString "OPEN") t u2 u3) :: (dy, dictOf [] 0) :: news) → (∀ p ∈ news, p.1 < dy) → dy < y → Q (.ref y) { s with heap := h', toks := tk' }) :
      wpAny (model PySem.Challenge.pw_fh5003_01 w) (atA 600 2000 env outer) (call (.ref q) [.str v t] []) Q E s := by
  refine call_meth N hq ?_
  walk_at "enter_def"
  k_steps
  exact hret _ _ _ _ _ _ (by k_asm) (cb_drop (by k_asm) (by walk_at "sub_all")) (by walk_at "lt_all") (by k_asm)

set_option maxHeartbeats 8000000 in
theorem sub_namesT {w : World} {mean : ExcName → Option Value} {mg mb : Str → Option Value}
   {v : Str} {t : Tok} {c : Str} {q : Addr}
   {env : Env} {outer : List Env} {A₀ : Around} {base h₀ : Heap} {L : Addr} {m : Str → Option Value} {news : List (Addr × Obj)} {s : Shared} {Q E : Value → Shared → Prop}
    (B : Below A₀ base outer h₀) (F : Fr h₀ L s.heap m) (X : (Mine.hd.heap_39 w.params).In h₀) (N : News h₀ L s.heap news) (T : TopP mean mg mb h₀) (hf : env.frame = some L) (hk : env.scope.kind = .function)
    (hq : (q, methodObj (.ref 77) (.ref 101)) ∈ news)
    (hs1 : 1 ≤ v.length) (hs2 : v.length ≤ 16) (hit : Txt.item v (-1) = c) (hc : ([Str.ofString "{", Str.ofString "}", Str.ofString "(", Str.ofString ")"].any fun x => x == c) = true)
    (ho3 : (Builtin.Str.occurrences (Str.ofString ")}") v 0 (Str.ofString ")}").length 1).isEmpty = true)
    (hrun : RunIs true v)
    (hret : ∀ (y dy : Addr) (u2 u3 : Tok) (h' : Heap) (tk' : Nat), Fr h₀ L h' m → News h₀ L h' ((y, tokO dy v (Str.ofString "FUNC") (Str.ofString "OPEN") t u2 u3) :: (dy, dictOf [] 0) :: news) → (∀ p ∈ news, p.1 < dy) → dy < y → Q (.ref y) { s with heap := h', toks := tk' }) :
      wpAny (model PySem.Challenge.pw_fh5003_01 w) (atA 600 2000 env outer) (call (.ref q) [.str v t] [(Str.ofString "func", .bool true)]) Q E s := by
  refine call_meth N hq ?_
  walk_at "enter_def"
  k_steps
  exact hret _ _ _ _ _ _ (by k_asm) (cb_drop (by k_asm) (by walk_at "sub_all")) (by walk_at "lt_all") (by k_asm)

set_option maxHeartbeats 8000000 in
theorem sub_C {w : World} {mean : ExcName → Option Value} {mg mb : Str → Option Value}
   {v : Str} {t : Tok} {c : Str} {q : Addr}
   {env : Env} {outer : List Env} {A₀ : Around} {base h₀ : Heap} {L : Addr} {m : Str → Option Value} {news : List (Addr × Obj)} {s : Shared} {Q E : Value → Shared → Prop}
    (B : Below A₀ base outer h₀) (F : Fr h₀ L s.heap m) (X : (Mine.hd.heap_39 w.params).In h₀) (N : News h₀ L s.heap news) (T : TopP mean mg mb h₀) (hf : env.frame = some L) (hk : env.scope.kind = .function)
    (hq : (q, methodObj (.ref 77) (.ref 101)) ∈ news)
    (hs1 : 1 ≤ v.length) (hs2 : v.length ≤ 16) (hit : Txt.item v (-1) = c) (hc : ([Str.ofString "{", Str.ofString "}", Str.ofString "(", Str.ofString ")"].any fun x => x == c) = true)
    (ho1 : (Builtin.Str.occurrences (Str.ofString "{}") v 0 (Str.ofString "{}").length 1).isEmpty = true)
    (ho2 : (Builtin.Str.occurrences (Str.ofString "()") v 0 (Str.ofString "()").length 1).isEmpty = false)
    (ho3 : (Builtin.Str.occurrences (Str.ofString ")}") v 0 (Str.ofString ")}").length 1).isEmpty = true)
    (hret : ∀ (y dy : Addr) (u2 u3 : Tok) (h' : Heap) (tk' : Nat), Fr h₀ L h' m → News h₀ L h' ((y, tokO dy v (Str.ofString "PAREN") (Str.ofString "OPEN") t u2 u3) :: (dy, dictOf [] 0) :: news) → (∀ p ∈ news, p.1 < dy) → dy < y → Q (.ref y) { s with heap := h', toks := tk' }) :
      wpAny (model PySem.Challenge.pw_fh5003_01 w) (atA 600 2000 env outer) (call (.ref q) [.str v t] []) Q E s := by
  refine call_meth N hq ?_
  walk_at "enter_def"
  k_steps
  exact hret _ _ _ _ _ _ (by k_asm) (cb_drop (by k_asm) (by walk_at "sub_all")) (by walk_at "lt_all") (by k_asm)

set_option maxHeartbeats 8000000 in
theorem sub_D {w : World} {mean : ExcName → Option Value} {mg mb : Str → Option Value}
   {v : Str} {t : Tok} {c : Str} {q : Addr}
   {env : Env} {outer : List Env} {A₀ : Around} {base h₀ : Heap} {L : Addr} {m : Str → Option Value} {news : List (Addr × Obj)} {s : Shared} {Q E : Value → Shared → Prop}
    (B : Below A₀ base outer h₀) (F : Fr h₀ L s.heap m) (X : (Mine.hd.heap_39 w.params).In h₀) (N : News h₀ L s.heap news) (T : TopP mean mg mb h₀) (hf : env.frame = some L) (hk : env.scope.kind = .function)
    (hq : (q, methodObj (.ref 77) (.ref 101)) ∈ news)
    (hs1 : 1 ≤ v.length) (hs2 : v.length ≤ 16) (hit : Txt.item v (-1) = c) (hc : ([Str.ofString "{", Str.ofString "}", Str.ofString "(", Str.ofString ")"].any fun x => x == c) = true)
    (ho1 : (Builtin.Str.occurrences (Str.ofString "{}") v 0 (Str.ofString "{}").length 1).isEmpty = false)
    (ho3 : (Builtin.Str.occurrences (Str.ofString ")}") v 0 (Str.ofString ")}").length 1).isEmpty = true)
    (hret : ∀ (y dy : Addr) (u2 u3 : Tok) (h' : Heap) (tk' : Nat), Fr h₀ L h' m → News h₀ L h' ((y, tokO dy v (Str.ofString "ARRAY") (Str.ofString "OPEN") t u2 u3) :: (dy, dictOf [] 0) :: news) → (∀ p ∈ news, p.1 < dy) → dy < y → Q (.ref y) { s with heap := h', toks := tk' }) :
      wpAny (model PySem.Challenge.pw_fh5003_01 w) (atA 600 2000 env outer) (call (.ref q) [.str v t] []) Q E s := by
  refine call_meth N hq ?_
  walk_at "enter_def"
  k_steps
  exact hret _ _ _ _ _ _ (by k_asm) (cb_drop (by k_asm) (by walk_at "sub_all")) (by walk_at "lt_all") (by k_asm)

set_option maxHeartbeats 8000000 in
theorem sub_E {w : World} {mean : ExcName → Option Value} {mg mb : Str → Option Value}
   {v : Str} {t : Tok} {c : Str} {q : Addr}
   {env : Env} {outer : List Env} {A₀ : Around} {base h₀ : Heap} {L : Addr} {m : Str → Option Value} {news : List (Addr × Obj)} {s : Shared} {Q E : Value → Shared → Prop}
    (B : Below A₀ base outer h₀) (F : Fr h₀ L s.heap m) (X : (Mine.hd.heap_39 w.params).In h₀) (N : News h₀ L s.heap news) (T : TopP mean mg mb h₀) (hf : env.frame = some L) (hk : env.scope.kind = .function)
    (hq : (q, methodObj (.ref 77) (.ref 101)) ∈ news)
    (hs1 : 1 ≤ v.length) (hs2 : v.length ≤ 16) (hit : Txt.item v (-1) = c) (hc : ([Str.ofString "{", Str.ofString "}", Str.ofString "(", Str.ofString ")"].any fun x => x == c) = true)
    (ho1 : (Builtin.Str.occurrences (Str.ofString "{}") v 0 (Str.ofString "{}").length 1).isEmpty = true)
    (ho2 : (Builtin.Str.occurrences (Str.ofString "()") v 0 (Str.ofString "()").length 1).isEmpty = false)
    (ho3 : (Builtin.Str.occurrences (Str.ofString ")}") v 0 (Str.ofString ")}").length 1).isEmpty = false)
    (hret : ∀ (y dy : Addr) (u2 u3 : Tok) (h' : Heap) (tk' : Nat), Fr h₀ L h' m → News h₀ L h' ((y, tokO dy v (Str.ofString "PAREN") (Str.ofString "CLOSE") t u2 u3) :: (dy, dictOf [] 0) :: news) → (∀ p ∈ news, p.1 < dy) → dy < y → Q (.ref y) { s with heap := h', toks := tk' }) :
      wpAny (model PySem.Challenge.pw_fh5003_01 w) (atA 600 2000 env outer) (call (.ref q) [.str v t] [(Str.ofString "func", .bool false)]) Q E s := by
  refine call_meth N hq ?_
  walk_at "enter_def"
  k_steps
  exact hret _ _ _ _ _ _ (by k_asm) (cb_drop (by k_asm) (by walk_at "sub_all")) (by walk_at "lt_all") (by k_asm)

set_option maxHeartbeats 8000000 in
theorem sub_F {w : World} {mean : ExcName → Option Value} {mg mb : Str → Option Value}
   {v : Str} {t : Tok} {c : Str} {q : Addr}
   {env : Env} {outer : List Env} {A₀ : Around} {base h₀ : Heap} {L : Addr} {m : Str → Option Value} {news : List (Addr × Obj)} {s : Shared} {Q E : Value → Shared → Prop}
    (B : Below A₀ base outer h₀) (F : Fr h₀ L s.heap m) (X : (Mine.hd.heap_39 w.params).In h₀) (N : News h₀ L s.heap news) (T : TopP mean mg mb h₀) (hf : env.frame = some L) (hk : env.scope.kind = .function)
    (hq : (q, methodObj (.ref 77) (.ref 101)) ∈ news)
    (hs1 : 1 ≤ v.length) (hs2 : v.length ≤ 16) (hit : Txt.item v (-1) = c) (hc : ([Str.ofString "{", Str.ofString "}", Str.ofString "(", Str.ofString ")"].any fun x => x == c) = true)
    (ho1 : (Builtin.Str.occurrences (Str.ofString "{}") v 0 (Str.ofString "{}").length 1).isEmpty = false)
    (ho3 : (Builtin.Str.occurrences (Str.ofString ")}") v 0 (Str.ofString ")}").length 1).isEmpty = false)
    (hret : ∀ (y dy : Addr) (u2 u3 : Tok) (h' : Heap) (tk' : Nat), Fr h₀ L h' m → News h₀ L h' ((y, tokO dy v (Str.ofString "ARRAY") (Str.ofString "CLOSE") t u2 u3) :: (dy, dictOf [] 0) :: news) → (∀ p ∈ news, p.1 < dy) → dy < y → Q (.ref y) { s with heap := h', toks := tk' }) :
      wpAny (model PySem.Challenge.pw_fh5003_01 w) (atA 600 2000 env outer) (call (.ref q) [.str v t] [(Str.ofString "func", .bool false)]) Q E s := by
  refine call_meth N hq ?_
  walk_at "enter_def"
  k_steps
  exact hret _ _ _ _ _ _ (by k_asm) (cb_drop (by k_asm) (by walk_at "sub_all")) (by walk_at "lt_all") (by k_asm)

set_option maxHeartbeats 8000000 in
theorem sub_G {w : World} {mean : ExcName → Option Value} {mg mb : Str → Option Value}
   {v : Str} {t : Tok} {c : Str} {q : Addr}
   {env : Env} {outer : List Env} {A₀ : Around} {base h₀ : Heap} {L : Addr} {m : Str → Option Value} {news : List (Addr × Obj)} {s : Shared} {Q E : Value → Shared → Prop}
    (B : Below A₀ base outer h₀) (F : Fr h₀ L s.heap m) (X : (Mine.hd.heap_39 w.params).In h₀) (N : News h₀ L s.heap news) (T : TopP mean mg mb h₀) (hf : env.frame = some L) (hk : env.scope.kind = .function)
    (hq : (q, methodObj (.ref 77) (.ref 101)) ∈ news)
    (hs1 : 1 ≤ v.length) (hs2 : v.length ≤ 16) (hit : Txt.item v (-1) = c) (hc : ([Str.ofString "{", Str.ofString "}", Str.ofString "(", Str.ofString ")"].any fun x => x == c) = true)
    (ho3 : (Builtin.Str.occurrences (Str.ofString ")}") v 0 (Str.ofString ")}").length 1).isEmpty = false)
    (hrun : RunIs true v)
    (hret : ∀ (y dy : Addr) (u2 u3 : Tok) (h' : Heap) (tk' : Nat), Fr h₀ L h' m → News h₀ L h' ((y, tokO dy v (Str.ofString "FUNC") (Str.ofString "CLOSE") t u2 u3) :: (dy, dictOf [] 0) :: news) → (∀ p ∈ news, p.1 < dy) → dy < y → Q (.ref y) { s with heap := h', toks := tk' }) :
      wpAny (model PySem.Challenge.pw_fh5003_01 w) (atA 600 2000 env outer) (call (.ref q) [.str v t] [(Str.ofString "func", .bool true)]) Q E s := by
  refine call_meth N hq ?_
  walk_at "enter_def"
  k_steps
  exact hret _ _ _ _ _ _ (by k_asm) (cb_drop (by k_asm) (by walk_at "sub_all")) (by walk_at "lt_all") (by k_asm)
end

section -- S2
local macro_rules | `(tactic| walk_at "enter_def") => `(tactic| (k_dflt (refine' code_def ?k1 ?k2 ?k3 ?k4 ?k5 ?kA ?kF ?kK ?k6 ?k7 ?k8 ?k9 ?kB ?_ ?c2 ?c3 ?c4 ?c5; (case kA => exact rfl); (case kF => assumption); (case kK => assumption); (case k1 => k_asm); (case k2 => k_asm); (case k3 => k_asm); (case k4 => k_asm); (case k5 => k_asm); (case k6 => k_is); (case k7 => k_is); (case k8 => exact Nat.le_of_ble_eq_true rfl); (case k9 => first | exact BindsTo.of_eq rfl | exact binds_K (by k_in) rfl (by k_is) rfl rfl rfl); (case c5 => decide); (case kB => exact locs rfl); (case c2 => exact rfl); (case c3 => exact rfl); (case c4 => exact rfl); k_whole; intro g' L' h' FG' F' N' B' X' T'; (try dsimp only); (try k_fold))))
local macro_rules | `(tactic| walk_at "getAttr ref") => `(tactic| (k_here; k_dflt (refine' get_clsS ?k1 ?k2 ?k3 ?k4 ?k5 ?k6 ?k7 ?k8 ?k9 ?k10 ?_; (case k1 => k_asm); (case k2 => k_asm); (case k3 => k_inst); (case k4 => k_is); (case k5 => k_is); (case k6 => k_is); (case k7 => k_is); (case k8 => k_is); (case k9 => k_handed); (case k10 => decide +kernel); k_whole)))
local macro_rules | `(tactic| walk_at "getAttr ref") => `(tactic| (k_here; ((first | (with_reducible show wpAny _ _ (getAttr _ (PySem.Str.ofString "type") _) _ _ _) | (with_reducible show wpAny _ _ (getAttr _ (PySem.Str.ofString "subtype") _) _ _ _) | (with_reducible show wpAny _ _ (getAttr _ (PySem.Str.ofString "value") _) _ _ _))); k_dflt (refine' get_slot ?k1 ?k2 ?k3 ?k4 ?k5 ?k6 ?k7 ?k8 ?k9 ?k10 ?k11 ?_; (case k1 => k_asm); (case k2 => k_asm); (case k3 => k_inst); (case k4 => k_is); (case k5 => k_is); (case k6 => k_is); (case k7 => k_is); (case k8 => k_is); (case k9 => k_is); (case k10 => k_slotget); (case k11 => k_handed); k_whole)))
local macro_rules | `(tactic| walk_at "getAttr ref") => `(tactic| (k_here; (with_reducible show wpAny _ _ (getAttr (Value.ref 101) _ _) _ _ _); k_dflt (refine' cls_val ?k1 ?k2 ?k3 ?k4 ?k5 ?k6 ?_; (case k1 => k_asm); (case k2 => k_asm); (case k3 => k_is); (case k4 => k_is); (case k5 => k_is); (case k6 => k_handed); k_whole)))
local macro_rules | `(tactic| walk_at "getMethod ref") => `(tactic| (k_here; k_dflt (refine' method_cmS ?k1 ?k2 ?k3 ?k4 ?k5 ?k6 ?k7 ?k8 ?k9 ?k10 ?k11 ?k12 ?k13 ?_; (case k1 => k_asm); (case k2 => k_asm); (case k3 => k_asm); (case k4 => k_inst); (case k5 => k_is); (case k6 => k_is); (case k7 => k_is); (case k8 => k_is); (case k9 => k_is); (case k10 => k_is); (case k11 => k_is); (case k12 => decide +kernel); (case k13 => k_is); k_whole; intro q' h' F' N' l1; (try k_lt l1); (try k_sweep))))
local macro_rules | `(tactic| walk_at "own_mem") => `(tactic| first | with_reducible exact List.mem_cons_self | (with_reducible refine List.mem_cons_of_mem _ ?_; walk_at "own_mem") | with_reducible assumption)
local macro_rules | `(tactic| k_mem) => `(tactic| walk_at "own_mem")
local macro_rules | `(tactic| walk_at "callWith ref") => `(tactic| (k_here; k_dflt (refine' callWith_MKW ?k1 ?k2 ?k3 ?k4 ?k5 ?_; (case k1 => k_asm); (case k2 => k_asm); (case k3 => k_mem); (case k4 => k_is); (case k5 => exact rfl); k_whole)))
local macro_rules | `(tactic| k_all) => `(tactic| (intro p9 hp9; refine neN ?_; first | (have q9 := ktn_ltOf (by first | assumption | exact And.right (by assumption) | exact And.right (And.right (by assumption)) | exact And.right (And.right (And.right (by assumption)))) p9 hp9; (try dsimp only at q9 ⊢); omega) | (have q9 := (by assumption : ∀ p ∈ _, @LT.lt Nat _ p.1 _) p9 hp9; (try dsimp only at q9 ⊢); omega)))
local macro_rules | `(tactic| walk_at "call ref") => `(tactic| (k_here; (with_reducible show wpAny _ _ (call (Value.ref 101) [_, _, _]) _ _ _); k_dflt (refine' weaken (c_new ?kB ?kF ?kX ?kN ?kT ?kf ?kk ?_) ?h1 ?h2 ?h3 ?h4 ?h5; (case h3 => exact fun _ h => h); (case kB => k_asm); (case kF => k_asm); (case kX => k_asm); (case kN => k_asm); (case kT => k_asm); (case kf => exact rfl); (case kk => exact rfl); (case h1 => exact rfl); (case h2 => exact Nat.le_of_ble_eq_true rfl); (case h4 => exact rfl); (case h5 => exact Nat.le_of_ble_eq_true rfl); k_whole; intro y' d' h' tk' F' N' l1 l2; (try k_lt l1); (try k_lt2 l2); (try k_sweep))))
local macro_rules | `(tactic| walk_at "subscriptTail Name UnaryOp str int") => `(tactic| (refine item_strE (by assumption) (by decide) (by omega) (by omega) ?_))
local macro_rules | `(tactic| walk_at "compareOp In str str") => `(tactic| (refine in_strE (by assumption) ?_; (try dsimp only [Bool.not_true, Bool.not_false])))
local macro_rules | `(tactic| walk_at "sub_all") => `(tactic| first | (refine List.forall_mem_cons.mpr ⟨by k_mem, ?_⟩; walk_at "sub_all") | (intro p9 hp9; k_mem))
local macro_rules | `(tactic| walk_at "lt_all") => `(tactic| first | assumption | exact ktn_ltOf (by first | assumption | exact And.right (by assumption) | exact And.right (And.right (by assumption)) | exact And.right (And.right (And.right (by assumption)))))
local macro_rules | `(tactic| walk_at "getMethod ref") => `(tactic| (k_here; (with_reducible show wpAny _ _ (getMethod (Value.ref 36) _ _) _ _ _); k_dflt (refine' pat_method ?k1 ?k2 ?_; (case k1 => k_asm); (case k2 => k_asm); k_whole)))
local macro_rules | `(tactic| walk_at "call builtin:re.Pattern.match") => `(tactic| (k_here; k_dflt (refine' match_K true ?k1 ?k2 ?k3 ?k4 ?k5 ?_; (case k1 => k_asm); (case k2 => k_asm); (case k3 => k_asm); (case k4 => (have hz9 := (by assumption : _ ≤ (16 : Nat)); exact Nat.le_trans hz9 (by decide))); (case k5 => exact fun A E s Q h => (by assumption : RunIs true _) _ _ A E s Q h); k_whole; intro q' tu' h' a' b' F' N' l1 l2; (try k_lt l1); (try k_lt2 l2); (try k_sweep))))
local macro_rules | `(tactic| walk_at "truthy ref") => `(tactic| (k_here; k_dflt (refine' truthy_match ?k1 ?k2 ?_; (case k1 => k_asm); (case k2 => k_mem); k_whole)))
local macro_rules | `(tactic| walk_at "call ref") => `(tactic| (k_here; (with_reducible show wpAny _ _ (call (Value.ref _) [Value.str _ _] _) _ _ _); k_dflt (first
  | refine' weaken (sub_G ?kB ?kF ?kX ?kN ?kT ?kf ?kk ?kq ?z1 ?z2 ?z3 ?z4 ?z5 ?z6 ?_) ?h1 ?h2 ?h3 ?h4 ?h5; (case h3 => exact fun _ h => h); (case kB => k_asm); (case kF => k_asm); (case kX => k_asm); (case kN => k_asm); (case kT => k_asm); (case kf => exact rfl); (case kk => exact rfl); (case kq => k_mem); (case h1 => exact rfl); (case h2 => exact Nat.le_of_ble_eq_true rfl); (case h4 => exact rfl); (case h5 => exact Nat.le_of_ble_eq_true rfl); (case z1 => decide); (case z2 => decide); (case z3 => exact rfl); (case z4 => decide); (case z5 => decide +kernel); (case z6 => exact run_shut); k_whole; intro y' d' u2' u3' h' tk' F' N' l1 l2; (try k_lt l1); (try k_lt2 l2); (try k_sweep)
  | refine' weaken (sub_E ?kB ?kF ?kX ?kN ?kT ?kf ?kk ?kq ?z1 ?z2 ?z3 ?z4 ?z5 ?z6 ?z7 ?_) ?h1 ?h2 ?h3 ?h4 ?h5; (case h3 => exact fun _ h => h); (case kB => k_asm); (case kF => k_asm); (case kX => k_asm); (case kN => k_asm); (case kT => k_asm); (case kf => exact rfl); (case kk => exact rfl); (case kq => k_mem); (case h1 => exact rfl); (case h2 => exact Nat.le_of_ble_eq_true rfl); (case h4 => exact rfl); (case h5 => exact Nat.le_of_ble_eq_true rfl); (case z1 => decide); (case z2 => decide); (case z3 => exact rfl); (case z4 => decide); (case z5 => decide +kernel); (case z6 => decide +kernel); (case z7 => decide +kernel); k_whole; intro y' d' u2' u3' h' tk' F' N' l1 l2; (try k_lt l1); (try k_lt2 l2); (try k_sweep)
  | refine' weaken (sub_F ?kB ?kF ?kX ?kN ?kT ?kf ?kk ?kq ?z1 ?z2 ?z3 ?z4 ?z5 ?z6 ?_) ?h1 ?h2 ?h3 ?h4 ?h5; (case h3 => exact fun _ h => h); (case kB => k_asm); (case kF => k_asm); (case kX => k_asm); (case kN => k_asm); (case kT => k_asm); (case kf => exact rfl); (case kk => exact rfl); (case kq => k_mem); (case h1 => exact rfl); (case h2 => exact Nat.le_of_ble_eq_true rfl); (case h4 => exact rfl); (case h5 => exact Nat.le_of_ble_eq_true rfl); (case z1 => decide); (case z2 => decide); (case z3 => exact rfl); (case z4 => decide); (case z5 => decide +kernel); (case z6 => decide +kernel); k_whole; intro y' d' u2' u3' h' tk' F' N' l1 l2; (try k_lt l1); (try k_lt2 l2); (try k_sweep))))

set_option maxHeartbeats 8000000 in
theorem clo_FUNC {w : World} {mean : ExcName → Option Value} {mg mb : Str → Option Value}
   {x dx : Addr} {v : Str} {t1 t2 t3 : Tok}
   {env : Env} {outer : List Env} {A₀ : Around} {base h₀ : Heap} {L : Addr} {m : Str → Option Value} {news : List (Addr × Obj)} {s : Shared} {Q E : Value → Shared → Prop}
    (B : Below A₀ base outer h₀) (F : Fr h₀ L s.heap m) (X : (Mine.hd.heap_39 w.params).In h₀) (N : News h₀ L s.heap news) (T : TopP mean mg mb h₀) (hf : env.frame = some L) (hk : env.scope.kind = .function)
    (hx : (x, tokO dx v (Str.ofString "FUNC") (Str.ofString "OPEN") t1 t2 t3) ∈ news) (hdx : (dx, dictOf [] 0) ∈ news)
    (hret : ∀ (y dy : Addr) (u1 u2 u3 : Tok) (h' : Heap) (tk' : Nat), Fr h₀ L h' m → News h₀ L h' ((y, tokO dy (Str.ofString ")") (Str.ofString "FUNC") (Str.ofString "CLOSE") u1 u2 u3) :: (dy, dictOf [] 0) :: news) → (∀ p ∈ news, p.1 < dy) → dy < y → Q (.ref y) { s with heap := h', toks := tk' }) :
      wpAny (model PySem.Challenge.pw_fh5003_01 w) (atA 500 1500 env outer) (call (.ref 87) [.ref x]) Q E s := by
  refine wpAny_call ?_
  walk_at "enter_def"
  k_steps
  exact hret _ _ _ _ _ _ _ (by k_asm) (cb_drop (by k_asm) (by walk_at "sub_all")) (by walk_at "lt_all") (by k_asm)

set_option maxHeartbeats 8000000 in
theorem clo_ARRAY {w : World} {mean : ExcName → Option Value} {mg mb : Str → Option Value}
   {x dx : Addr} {v : Str} {t1 t2 t3 : Tok}
   {env : Env} {outer : List Env} {A₀ : Around} {base h₀ : Heap} {L : Addr} {m : Str → Option Value} {news : List (Addr × Obj)} {s : Shared} {Q E : Value → Shared → Prop}
    (B : Below A₀ base outer h₀) (F : Fr h₀ L s.heap m) (X : (Mine.hd.heap_39 w.params).In h₀) (N : News h₀ L s.heap news) (T : TopP mean mg mb h₀) (hf : env.frame = some L) (hk : env.scope.kind = .function)
    (hx : (x, tokO dx v (Str.ofString "ARRAY") (Str.ofString "OPEN") t1 t2 t3) ∈ news) (hdx : (dx, dictOf [] 0) ∈ news)
    (hret : ∀ (y dy : Addr) (u1 u2 u3 : Tok) (h' : Heap) (tk' : Nat), Fr h₀ L h' m → News h₀ L h' ((y, tokO dy (Str.ofString "}") (Str.ofString "ARRAY") (Str.ofString "CLOSE") u1 u2 u3) :: (dy, dictOf [] 0) :: news) → (∀ p ∈ news, p.1 < dy) → dy < y → Q (.ref y) { s with heap := h', toks := tk' }) :
      wpAny (model PySem.Challenge.pw_fh5003_01 w) (atA 500 1500 env outer) (call (.ref 87) [.ref x]) Q E s := by
  refine wpAny_call ?_
  walk_at "enter_def"
  k_steps
  exact hret _ _ _ _ _ _ _ (by k_asm) (cb_drop (by k_asm) (by walk_at "sub_all")) (by walk_at "lt_all") (by k_asm)

set_option maxHeartbeats 8000000 in
theorem clo_PAREN {w : World} {mean : ExcName → Option Value} {mg mb : Str → Option Value}
   {x dx : Addr} {v : Str} {t1 t2 t3 : Tok}
   {env : Env} {outer : List Env} {A₀ : Around} {base h₀ : Heap} {L : Addr} {m : Str → Option Value} {news : List (Addr × Obj)} {s : Shared} {Q E : Value → Shared → Prop}
    (B : Below A₀ base outer h₀) (F : Fr h₀ L s.heap m) (X : (Mine.hd.heap_39 w.params).In h₀) (N : News h₀ L s.heap news) (T : TopP mean mg mb h₀) (hf : env.frame = some L) (hk : env.scope.kind = .function)
    (hx : (x, tokO dx v (Str.ofString "PAREN") (Str.ofString "OPEN") t1 t2 t3) ∈ news) (hdx : (dx, dictOf [] 0) ∈ news)
    (hret : ∀ (y dy : Addr) (u1 u2 u3 : Tok) (h' : Heap) (tk' : Nat), Fr h₀ L h' m → News h₀ L h' ((y, tokO dy (Str.ofString ")") (Str.ofString "PAREN") (Str.ofString "CLOSE") u1 u2 u3) :: (dy, dictOf [] 0) :: news) → (∀ p ∈ news, p.1 < dy) → dy < y → Q (.ref y) { s with heap := h', toks := tk' }) :
      wpAny (model PySem.Challenge.pw_fh5003_01 w) (atA 500 1500 env outer) (call (.ref 87) [.ref x]) Q E s := by
  refine wpAny_call ?_
  walk_at "enter_def"
  k_steps
  exact hret _ _ _ _ _ _ _ (by k_asm) (cb_drop (by k_asm) (by walk_at "sub_all")) (by walk_at "lt_all") (by k_asm)

set_option maxHeartbeats 8000000 in
theorem c_three {w : World} {mean : ExcName → Option Value} {mg mb : Str → Option Value}
   {x dx : Addr} {v t sb v' t' sb' : Str} {t1 t2 t3 t4 t5 t6 : Tok}
   {env : Env} {outer : List Env} {A₀ : Around} {base h₀ : Heap} {L : Addr} {m : Str → Option Value} {news : List (Addr × Obj)} {s : Shared} {Q E : Value → Shared → Prop}
    (B : Below A₀ base outer h₀) (F : Fr h₀ L s.heap m) (X : (Mine.hd.heap_39 w.params).In h₀) (N : News h₀ L s.heap news) (T : TopP mean mg mb h₀) (hf : env.frame = some L) (hk : env.scope.kind = .function)
    (hx : (x, tokO dx v t sb t1 t2 t3) ∈ news) (hdx : (dx, dictOf [] 0) ∈ news)
    (hs1 : PySem.SeqAt.shaped (.tuple [.str v, .str t, .str sb]) = true) (hs2 : PySem.SeqAt.shaped (.tuple [.str v', .str t', .str sb']) = true)
    {b : Bool} (hb : PyData.eqv (.tuple [.str v, .str t, .str sb]) (.tuple [.str v', .str t', .str sb']) = b)
    (hret : ∀ (h' : Heap) (tk' : Nat), Fr h₀ L h' m → News h₀ L h' news → Q (.bool b) { s with heap := h', toks := tk' }) :
      wpAny (model PySem.Challenge.pw_fh5003_01 w) (atA 500 1500 env outer) (call (.ref 149) [.ref x, .str v' t4, .str t' t5, .str sb' t6]) Q E s := by
  refine wpAny_call ?_
  walk_at "enter_def"
  k_steps
  k_dflt (refine eq_dataH (by ke_read) (by ke_read) hs1 hs2 (by ke_room) ?_)
  k_steps
  rw [hb]
  exact hret _ _ (by k_asm) (cb_drop (by k_asm) (by walk_at "sub_all"))
end

section -- S3
local macro_rules | `(tactic| walk_at "enter_def") => `(tactic| (k_dflt (refine' code_def ?k1 ?k2 ?k3 ?k4 ?k5 ?kA ?kF ?kK ?k6 ?k7 ?k8 ?k9 ?kB ?_ ?c2 ?c3 ?c4 ?c5; (case kA => exact rfl); (case kF => assumption); (case kK => assumption); (case k1 => k_asm); (case k2 => k_asm); (case k3 => k_asm); (case k4 => k_asm); (case k5 => k_asm); (case k6 => k_is); (case k7 => k_is); (case k8 => exact Nat.le_of_ble_eq_true rfl); (case k9 => first | exact BindsTo.of_eq rfl | exact binds_K (by k_in) rfl (by k_is) rfl rfl rfl); (case c5 => decide); (case kB => exact locs rfl); (case c2 => exact rfl); (case c3 => exact rfl); (case c4 => exact rfl); k_whole; intro g' L' h' FG' F' N' B' X' T'; (try dsimp only); (try k_fold))))
local macro_rules | `(tactic| walk_at "getAttr ref") => `(tactic| (k_here; k_dflt (refine' get_clsS ?k1 ?k2 ?k3 ?k4 ?k5 ?k6 ?k7 ?k8 ?k9 ?k10 ?_; (case k1 => k_asm); (case k2 => k_asm); (case k3 => k_inst); (case k4 => k_is); (case k5 => k_is); (case k6 => k_is); (case k7 => k_is); (case k8 => k_is); (case k9 => k_handed); (case k10 => decide +kernel); k_whole)))
local macro_rules | `(tactic| walk_at "getAttr ref") => `(tactic| (k_here; ((first | (with_reducible show wpAny _ _ (getAttr _ (PySem.Str.ofString "type") _) _ _ _) | (with_reducible show wpAny _ _ (getAttr _ (PySem.Str.ofString "subtype") _) _ _ _) | (with_reducible show wpAny _ _ (getAttr _ (PySem.Str.ofString "value") _) _ _ _))); k_dflt (refine' get_slot ?k1 ?k2 ?k3 ?k4 ?k5 ?k6 ?k7 ?k8 ?k9 ?k10 ?k11 ?_; (case k1 => k_asm); (case k2 => k_asm); (case k3 => k_inst); (case k4 => k_is); (case k5 => k_is); (case k6 => k_is); (case k7 => k_is); (case k8 => k_is); (case k9 => k_is); (case k10 => k_slotget); (case k11 => k_handed); k_whole)))
local macro_rules | `(tactic| walk_at "getAttr ref") => `(tactic| (k_here; (with_reducible show wpAny _ _ (getAttr (Value.ref 101) _ _) _ _ _); k_dflt (refine' cls_val ?k1 ?k2 ?k3 ?k4 ?k5 ?k6 ?_; (case k1 => k_asm); (case k2 => k_asm); (case k3 => k_is); (case k4 => k_is); (case k5 => k_is); (case k6 => k_handed); k_whole)))
local macro_rules | `(tactic| walk_at "getMethod ref") => `(tactic| (k_here; k_dflt (refine' method_cmS ?k1 ?k2 ?k3 ?k4 ?k5 ?k6 ?k7 ?k8 ?k9 ?k10 ?k11 ?k12 ?k13 ?_; (case k1 => k_asm); (case k2 => k_asm); (case k3 => k_asm); (case k4 => k_inst); (case k5 => k_is); (case k6 => k_is); (case k7 => k_is); (case k8 => k_is); (case k9 => k_is); (case k10 => k_is); (case k11 => k_is); (case k12 => decide +kernel); (case k13 => k_is); k_whole; intro q' h' F' N' l1; (try k_lt l1); (try k_sweep))))
local macro_rules | `(tactic| walk_at "own_mem") => `(tactic| first | with_reducible exact List.mem_cons_self | (with_reducible refine List.mem_cons_of_mem _ ?_; walk_at "own_mem") | with_reducible assumption)
local macro_rules | `(tactic| k_mem) => `(tactic| walk_at "own_mem")
local macro_rules | `(tactic| walk_at "callWith ref") => `(tactic| (k_here; k_dflt (refine' callWith_MKW ?k1 ?k2 ?k3 ?k4 ?k5 ?_; (case k1 => k_asm); (case k2 => k_asm); (case k3 => k_mem); (case k4 => k_is); (case k5 => exact rfl); k_whole)))
local macro_rules | `(tactic| k_all) => `(tactic| (intro p9 hp9; refine neN ?_; first | (have q9 := ktn_ltOf (by first | assumption | exact And.right (by assumption) | exact And.right (And.right (by assumption)) | exact And.right (And.right (And.right (by assumption)))) p9 hp9; (try dsimp only at q9 ⊢); omega) | (have q9 := (by assumption : ∀ p ∈ _, @LT.lt Nat _ p.1 _) p9 hp9; (try dsimp only at q9 ⊢); omega)))
local macro_rules | `(tactic| walk_at "call ref") => `(tactic| (k_here; (with_reducible show wpAny _ _ (call (Value.ref 101) [_, _, _]) _ _ _); k_dflt (refine' weaken (c_new ?kB ?kF ?kX ?kN ?kT ?kf ?kk ?_) ?h1 ?h2 ?h3 ?h4 ?h5; (case h3 => exact fun _ h => h); (case kB => k_asm); (case kF => k_asm); (case kX => k_asm); (case kN => k_asm); (case kT => k_asm); (case kf => exact rfl); (case kk => exact rfl); (case h1 => exact rfl); (case h2 => exact Nat.le_of_ble_eq_true rfl); (case h4 => exact rfl); (case h5 => exact Nat.le_of_ble_eq_true rfl); k_whole; intro y' d' h' tk' F' N' l1 l2; (try k_lt l1); (try k_lt2 l2); (try k_sweep))))
local macro_rules | `(tactic| walk_at "subscriptTail Name UnaryOp str int") => `(tactic| (refine item_strE (by assumption) (by decide) (by omega) (by omega) ?_))
local macro_rules | `(tactic| walk_at "compareOp In str str") => `(tactic| (refine in_strE (by assumption) ?_; (try dsimp only [Bool.not_true, Bool.not_false])))
local macro_rules | `(tactic| walk_at "sub_all") => `(tactic| first | (refine List.forall_mem_cons.mpr ⟨by k_mem, ?_⟩; walk_at "sub_all") | (intro p9 hp9; k_mem))
local macro_rules | `(tactic| walk_at "lt_all") => `(tactic| first | assumption | exact ktn_ltOf (by first | assumption | exact And.right (by assumption) | exact And.right (And.right (by assumption)) | exact And.right (And.right (And.right (by assumption)))))
local macro_rules | `(tactic| walk_at "getMethod ref") => `(tactic| (k_here; (with_reducible show wpAny _ _ (getMethod (Value.ref 36) _ _) _ _ _); k_dflt (refine' pat_method ?k1 ?k2 ?_; (case k1 => k_asm); (case k2 => k_asm); k_whole)))
local macro_rules | `(tactic| walk_at "call builtin:re.Pattern.match") => `(tactic| (k_here; k_dflt (refine' match_K true ?k1 ?k2 ?k3 ?k4 ?k5 ?_; (case k1 => k_asm); (case k2 => k_asm); (case k3 => k_asm); (case k4 => (have hz9 := (by assumption : _ ≤ (16 : Nat)); exact Nat.le_trans hz9 (by decide))); (case k5 => exact fun A E s Q h => (by assumption : RunIs true _) _ _ A E s Q h); k_whole; intro q' tu' h' a' b' F' N' l1 l2; (try k_lt l1); (try k_lt2 l2); (try k_sweep))))
local macro_rules | `(tactic| walk_at "truthy ref") => `(tactic| (k_here; k_dflt (refine' truthy_match ?k1 ?k2 ?_; (case k1 => k_asm); (case k2 => k_mem); k_whole)))
theorem shaped3 {a b c : Str} (h1 : PyData.strOk a = true) (h2 : PyData.strOk b = true) (h3 : PyData.strOk c = true) : PySem.SeqAt.shaped (.tuple [.str a, .str b, .str c]) = true := by
  simp [PySem.SeqAt.shaped, PyData.canLay0, PyData.canLayAll0, PyData.depth, PyData.depthAll, h1, h2, h3]
theorem eqv3 (a b c : Str) : PyData.eqv (.tuple [.str a, .str b, .str c]) (.tuple [.str a, .str b, .str c]) = true := by
  simp [PyData.eqv, PyData.eqvAll]
local macro_rules | `(tactic| walk_at "str_ok") => `(tactic| first | assumption | decide +kernel)
local macro_rules | `(tactic| walk_at "call ref") => `(tactic| (k_here; (with_reducible show wpAny _ _ (call (Value.ref 149) _) _ _ _); k_dflt (refine' weaken (c_three ?kB ?kF ?kX ?kN ?kT ?kf ?kk ?kx ?kd ?z1 ?z2 ?z3 ?_) ?h1 ?h2 ?h3 ?h4 ?h5; (case h3 => exact fun _ h => h); (case kB => k_asm); (case kF => k_asm); (case kX => k_asm); (case kN => k_asm); (case kT => k_asm); (case kf => exact rfl); (case kk => exact rfl); (case kx => k_mem); (case kd => k_mem); (case z1 => exact shaped3 (by walk_at "str_ok") (by walk_at "str_ok") (by walk_at "str_ok")); (case z2 => exact shaped3 (by walk_at "str_ok") (by walk_at "str_ok") (by walk_at "str_ok")); (case z3 => exact eqv3 _ _ _); (case h1 => exact rfl); (case h2 => exact Nat.le_of_ble_eq_true rfl); (case h4 => exact rfl); (case h5 => exact Nat.le_of_ble_eq_true rfl); k_whole; intro h' tk' F' N'; (try k_sweep))))
local macro_rules | `(tactic| walk_at "clo_end") => `(tactic| ((case h3 => exact fun _ h => h); (case kB => k_asm); (case kF => k_asm); (case kX => k_asm); (case kN => k_asm); (case kT => k_asm); (case kf => exact rfl); (case kk => exact rfl); (case kx => k_mem); (case kd => k_mem); (case h1 => exact rfl); (case h2 => exact Nat.le_of_ble_eq_true rfl); (case h4 => exact rfl); (case h5 => exact Nat.le_of_ble_eq_true rfl); k_whole; intro y' d' u1' u2' u3' h' tk' F' N' l1 l2; (try k_lt l1); (try k_lt2 l2); (try k_sweep)))
local macro_rules | `(tactic| walk_at "call ref") => `(tactic| (k_here; (with_reducible show wpAny _ _ (call (Value.ref 87) _) _ _ _); k_dflt (first
  | refine' weaken (clo_FUNC ?kB ?kF ?kX ?kN ?kT ?kf ?kk ?kx ?kd ?_) ?h1 ?h2 ?h3 ?h4 ?h5; walk_at "clo_end"
  | refine' weaken (clo_ARRAY ?kB ?kF ?kX ?kN ?kT ?kf ?kk ?kx ?kd ?_) ?h1 ?h2 ?h3 ?h4 ?h5; walk_at "clo_end"
  | refine' weaken (clo_PAREN ?kB ?kF ?kX ?kN ?kT ?kf ?kk ?kx ?kd ?_) ?h1 ?h2 ?h3 ?h4 ?h5; walk_at "clo_end")))
set_option maxHeartbeats 8000000 in
theorem c_opened_FUNC {w : World} {mean : ExcName → Option Value} {mg mb : Str → Option Value}
   {x dx : Addr} {v : Str} {t1 t2 t3 t4 t5 : Tok}
   {cn : Str} {cs : Scope} {a : Addr} {ccd : Value} {base h₀ : Heap} {L : Addr} {m : Str → Option Value} {news : List (Addr × Obj)} {s : Shared} {Q E : Value → Shared → Prop}
    (XB : (Mine.hd.heap_39 w.params).In base) (TB : TopP mean mg mb base) (B : Below callerA base [] h₀) (F : Fr h₀ L s.heap m) (X : (Mine.hd.heap_39 w.params).In h₀) (N : News h₀ L s.heap news) (T : TopP mean mg mb h₀) (hk : cs.kind = .function)
    (hx : (x, tokO dx v (Str.ofString "FUNC") (Str.ofString "OPEN") t1 t2 t3) ∈ news) (hdx : (dx, dictOf [] 0) ∈ news)
    (hs : PyData.strOk v = true)
    (hret : ∀ (h' : Heap) (tk' : Nat), Fr h₀ L h' m → News h₀ L h' news → Q (.bool true) { s with heap := h', toks := tk' }) :
      wpAny (model PySem.Challenge.pw_fh5003_01 w) (callerA.deeper (envOf cn cs L a ccd)) (call (.ref 163) [.ref x, .str v t4, .str (Str.ofString "FUNC") t5]) Q E s := by
  refine wpAny_call ?_
  k_dflt (refine' code_defS0 ?k1 ?k2 ?k3 ?k4 ?k5 ?kA ?k6 ?k7 ?k8 ?k9 ?kB ?_ ?cK ?c2 ?c3 ?c4 ?c5; (case kA => exact rfl); (case k2 => k_asm); (case k1 => k_asm); (case k3 => k_asm); (case k4 => k_asm); (case k5 => k_asm); (case k6 => k_is); (case k7 => k_is); (case k8 => k_room); (case k9 => first | exact BindsTo.of_eq rfl | exact binds_K (by k_in) rfl (by k_is) rfl rfl rfl); (case kB => exact locs rfl); (case cK => assumption); (case c2 => exact rfl); (case c3 => exact rfl); (case c4 => exact rfl); (case c5 => decide); k_whole; intro g' L' h' FG' F' N' B' X' T' D'; (try dsimp only); (try k_lift B'); (try k_fold))
  k_steps
  exact hret _ _ (by k_asm) (cb_drop (by k_asm) (by walk_at "sub_all"))

set_option maxHeartbeats 8000000 in
theorem c_opened_PAREN {w : World} {mean : ExcName → Option Value} {mg mb : Str → Option Value}
   {x dx : Addr} {v : Str} {t1 t2 t3 t4 t5 : Tok}
   {cn : Str} {cs : Scope} {a : Addr} {ccd : Value} {base h₀ : Heap} {L : Addr} {m : Str → Option Value} {news : List (Addr × Obj)} {s : Shared} {Q E : Value → Shared → Prop}
    (XB : (Mine.hd.heap_39 w.params).In base) (TB : TopP mean mg mb base) (B : Below callerA base [] h₀) (F : Fr h₀ L s.heap m) (X : (Mine.hd.heap_39 w.params).In h₀) (N : News h₀ L s.heap news) (T : TopP mean mg mb h₀) (hk : cs.kind = .function)
    (hx : (x, tokO dx v (Str.ofString "PAREN") (Str.ofString "OPEN") t1 t2 t3) ∈ news) (hdx : (dx, dictOf [] 0) ∈ news)
    (hs : PyData.strOk v = true)
    (hret : ∀ (h' : Heap) (tk' : Nat), Fr h₀ L h' m → News h₀ L h' news → Q (.bool true) { s with heap := h', toks := tk' }) :
      wpAny (model PySem.Challenge.pw_fh5003_01 w) (callerA.deeper (envOf cn cs L a ccd)) (call (.ref 163) [.ref x, .str v t4, .str (Str.ofString "PAREN") t5]) Q E s := by
  refine wpAny_call ?_
  k_dflt (refine' code_defS0 ?k1 ?k2 ?k3 ?k4 ?k5 ?kA ?k6 ?k7 ?k8 ?k9 ?kB ?_ ?cK ?c2 ?c3 ?c4 ?c5; (case kA => exact rfl); (case k2 => k_asm); (case k1 => k_asm); (case k3 => k_asm); (case k4 => k_asm); (case k5 => k_asm); (case k6 => k_is); (case k7 => k_is); (case k8 => k_room); (case k9 => first | exact BindsTo.of_eq rfl | exact binds_K (by k_in) rfl (by k_is) rfl rfl rfl); (case kB => exact locs rfl); (case cK => assumption); (case c2 => exact rfl); (case c3 => exact rfl); (case c4 => exact rfl); (case c5 => decide); k_whole; intro g' L' h' FG' F' N' B' X' T' D'; (try dsimp only); (try k_lift B'); (try k_fold))
  k_steps
  exact hret _ _ (by k_asm) (cb_drop (by k_asm) (by walk_at "sub_all"))

set_option maxHeartbeats 8000000 in
theorem c_opened_ARRAY {w : World} {mean : ExcName → Option Value} {mg mb : Str → Option Value}
   {x dx : Addr} {v : Str} {t1 t2 t3 t4 t5 : Tok}
   {cn : Str} {cs : Scope} {a : Addr} {ccd : Value} {base h₀ : Heap} {L : Addr} {m : Str → Option Value} {news : List (Addr × Obj)} {s : Shared} {Q E : Value → Shared → Prop}
    (XB : (Mine.hd.heap_39 w.params).In base) (TB : TopP mean mg mb base) (B : Below callerA base [] h₀) (F : Fr h₀ L s.heap m) (X : (Mine.hd.heap_39 w.params).In h₀) (N : News h₀ L s.heap news) (T : TopP mean mg mb h₀) (hk : cs.kind = .function)
    (hx : (x, tokO dx v (Str.ofString "ARRAY") (Str.ofString "OPEN") t1 t2 t3) ∈ news) (hdx : (dx, dictOf [] 0) ∈ news)
    (hs : PyData.strOk v = true)
    (hret : ∀ (h' : Heap) (tk' : Nat), Fr h₀ L h' m → News h₀ L h' news → Q (.bool true) { s with heap := h', toks := tk' }) :
      wpAny (model PySem.Challenge.pw_fh5003_01 w) (callerA.deeper (envOf cn cs L a ccd)) (call (.ref 163) [.ref x, .str v t4, .str (Str.ofString "ARRAY") t5]) Q E s := by
  refine wpAny_call ?_
  k_dflt (refine' code_defS0 ?k1 ?k2 ?k3 ?k4 ?k5 ?kA ?k6 ?k7 ?k8 ?k9 ?kB ?_ ?cK ?c2 ?c3 ?c4 ?c5; (case kA => exact rfl); (case k2 => k_asm); (case k1 => k_asm); (case k3 => k_asm); (case k4 => k_asm); (case k5 => k_asm); (case k6 => k_is); (case k7 => k_is); (case k8 => k_room); (case k9 => first | exact BindsTo.of_eq rfl | exact binds_K (by k_in) rfl (by k_is) rfl rfl rfl); (case kB => exact locs rfl); (case cK => assumption); (case c2 => exact rfl); (case c3 => exact rfl); (case c4 => exact rfl); (case c5 => decide); k_whole; intro g' L' h' FG' F' N' B' X' T' D'; (try dsimp only); (try k_lift B'); (try k_fold))
  k_steps
  exact hret _ _ (by k_asm) (cb_drop (by k_asm) (by walk_at "sub_all"))
end

section -- S4
local macro_rules | `(tactic| walk_at "enter_def") => `(tactic| (k_dflt (refine' code_def ?k1 ?k2 ?k3 ?k4 ?k5 ?kA ?kF ?kK ?k6 ?k7 ?k8 ?k9 ?kB ?_ ?c2 ?c3 ?c4 ?c5; (case kA => exact rfl); (case kF => assumption); (case kK => assumption); (case k1 => k_asm); (case k2 => k_asm); (case k3 => k_asm); (case k4 => k_asm); (case k5 => k_asm); (case k6 => k_is); (case k7 => k_is); (case k8 => exact Nat.le_of_ble_eq_true rfl); (case k9 => first | exact BindsTo.of_eq rfl | exact binds_K (by k_in) rfl (by k_is) rfl rfl rfl); (case c5 => decide); (case kB => exact locs rfl); (case c2 => exact rfl); (case c3 => exact rfl); (case c4 => exact rfl); k_whole; intro g' L' h' FG' F' N' B' X' T'; (try dsimp only); (try k_fold))))
local macro_rules | `(tactic| walk_at "getAttr ref") => `(tactic| (k_here; k_dflt (refine' get_clsS ?k1 ?k2 ?k3 ?k4 ?k5 ?k6 ?k7 ?k8 ?k9 ?k10 ?_; (case k1 => k_asm); (case k2 => k_asm); (case k3 => k_inst); (case k4 => k_is); (case k5 => k_is); (case k6 => k_is); (case k7 => k_is); (case k8 => k_is); (case k9 => k_handed); (case k10 => decide +kernel); k_whole)))
local macro_rules | `(tactic| walk_at "getAttr ref") => `(tactic| (k_here; ((first | (with_reducible show wpAny _ _ (getAttr _ (PySem.Str.ofString "type") _) _ _ _) | (with_reducible show wpAny _ _ (getAttr _ (PySem.Str.ofString "subtype") _) _ _ _) | (with_reducible show wpAny _ _ (getAttr _ (PySem.Str.ofString "value") _) _ _ _))); k_dflt (refine' get_slot ?k1 ?k2 ?k3 ?k4 ?k5 ?k6 ?k7 ?k8 ?k9 ?k10 ?k11 ?_; (case k1 => k_asm); (case k2 => k_asm); (case k3 => k_inst); (case k4 => k_is); (case k5 => k_is); (case k6 => k_is); (case k7 => k_is); (case k8 => k_is); (case k9 => k_is); (case k10 => k_slotget); (case k11 => k_handed); k_whole)))
local macro_rules | `(tactic| walk_at "getAttr ref") => `(tactic| (k_here; (with_reducible show wpAny _ _ (getAttr (Value.ref 101) _ _) _ _ _); k_dflt (refine' cls_val ?k1 ?k2 ?k3 ?k4 ?k5 ?k6 ?_; (case k1 => k_asm); (case k2 => k_asm); (case k3 => k_is); (case k4 => k_is); (case k5 => k_is); (case k6 => k_handed); k_whole)))
local macro_rules | `(tactic| walk_at "getMethod ref") => `(tactic| (k_here; k_dflt (refine' method_cmS ?k1 ?k2 ?k3 ?k4 ?k5 ?k6 ?k7 ?k8 ?k9 ?k10 ?k11 ?k12 ?k13 ?_; (case k1 => k_asm); (case k2 => k_asm); (case k3 => k_asm); (case k4 => k_inst); (case k5 => k_is); (case k6 => k_is); (case k7 => k_is); (case k8 => k_is); (case k9 => k_is); (case k10 => k_is); (case k11 => k_is); (case k12 => decide +kernel); (case k13 => k_is); k_whole; intro q' h' F' N' l1; (try k_lt l1); (try k_sweep))))
local macro_rules | `(tactic| walk_at "own_mem") => `(tactic| first | with_reducible exact List.mem_cons_self | (with_reducible refine List.mem_cons_of_mem _ ?_; walk_at "own_mem") | with_reducible assumption)
local macro_rules | `(tactic| k_mem) => `(tactic| walk_at "own_mem")
local macro_rules | `(tactic| walk_at "callWith ref") => `(tactic| (k_here; k_dflt (refine' callWith_MKW ?k1 ?k2 ?k3 ?k4 ?k5 ?_; (case k1 => k_asm); (case k2 => k_asm); (case k3 => k_mem); (case k4 => k_is); (case k5 => exact rfl); k_whole)))
local macro_rules | `(tactic| k_all) => `(tactic| (intro p9 hp9; refine neN ?_; first | (have q9 := ktn_ltOf (by first | assumption | exact And.right (by assumption) | exact And.right (And.right (by assumption)) | exact And.right (And.right (And.right (by assumption)))) p9 hp9; (try dsimp only at q9 ⊢); omega) | (have q9 := (by assumption : ∀ p ∈ _, @LT.lt Nat _ p.1 _) p9 hp9; (try dsimp only at q9 ⊢); omega)))
local macro_rules | `(tactic| walk_at "call ref") => `(tactic| (k_here; (with_reducible show wpAny _ _ (call (Value.ref 101) [_, _, _]) _ _ _); k_dflt (refine' weaken (c_new ?kB ?kF ?kX ?kN ?kT ?kf ?kk ?_) ?h1 ?h2 ?h3 ?h4 ?h5; (case h3 => exact fun _ h => h); (case kB => k_asm); (case kF => k_asm); (case kX => k_asm); (case kN => k_asm); (case kT => k_asm); (case kf => exact rfl); (case kk => exact rfl); (case h1 => exact rfl); (case h2 => exact Nat.le_of_ble_eq_true rfl); (case h4 => exact rfl); (case h5 => exact Nat.le_of_ble_eq_true rfl); k_whole; intro y' d' h' tk' F' N' l1 l2; (try k_lt l1); (try k_lt2 l2); (try k_sweep))))
local macro_rules | `(tactic| walk_at "subscriptTail Name UnaryOp str int") => `(tactic| (refine item_strE (by assumption) (by decide) (by omega) (by omega) ?_))
local macro_rules | `(tactic| walk_at "compareOp In str str") => `(tactic| (refine in_strE (by assumption) ?_; (try dsimp only [Bool.not_true, Bool.not_false])))
local macro_rules | `(tactic| walk_at "sub_all") => `(tactic| first | (refine List.forall_mem_cons.mpr ⟨by k_mem, ?_⟩; walk_at "sub_all") | (intro p9 hp9; k_mem))
local macro_rules | `(tactic| walk_at "lt_all") => `(tactic| first | assumption | exact ktn_ltOf (by first | assumption | exact And.right (by assumption) | exact And.right (And.right (by assumption)) | exact And.right (And.right (And.right (by assumption)))))
section
open PySem PyProof.Rows
def trunc (h : Heap) (n : Nat) : Heap := { h with objs := h.objs.extract 0 n }
theorem trunc_size (h : Heap) (n : Nat) : (trunc h n).objs.size ≤ n := by
  unfold trunc
  simp only [Array.size_extract]
  omega
theorem trunc_get {h : Heap} {n b : Nat} (hb : b < n) : (trunc h n).get? b = h.get? b := by
  unfold trunc Heap.get?
  have : (h.objs.extract 0 n)[b]? = h.objs[b]? := by
    simp only [Array.getElem?_extract]
    by_cases hs : b < h.objs.size
    · rw [if_pos (by omega), Nat.zero_add]
    · rw [if_neg (by omega)]
      exact (Array.getElem?_eq_none (by omega)).symm
  simp only [this]
theorem of_trunc {h : Heap} {n b : Nat} {o : Obj} (e : (trunc h n).get? b = some o) : h.get? b = some o := by
  rw [← trunc_get (h := h) (n := n) (Nat.lt_of_lt_of_le (Heap.lt_size e) (trunc_size h n))]; exact e
theorem ne_lt9 {l : List (Addr × Obj)} {L D : Addr} {oL : Obj} (h : ∀ p ∈ l ++ [(L, oL)], @LT.lt Nat _ p.1 D) : @Ne Nat D L := fun q => Nat.lt_irrefl L (q ▸ h (L, oL) (List.mem_append_right _ List.mem_cons_self))
theorem regroup {h₀ base h : Heap} {L L' : Addr} {oL : Obj} {m m' : Str → Option Value} {new : List (Addr × Obj)} {K : Frag} {mean : ExcName → Option Value} {mg mb : Str → Option Value} {e₀ : Env}
    (B : Below callerA base [] h₀) (C : TI.Caller h₀ L m oL) (F : Fr h₀ L' h m') (N : News h₀ L' h (new ++ [(L, oL')])) (hsl : ∃ sl, oL' = { oL with slots := sl }) (hne : TLg.AllNe L new) (hlt : L < L') (X : K.In h₀) (T : TopP mean mg mb h₀)
    (hf : e₀.frame = some L) (hk : e₀.scope.kind = .function) :
    ∃ g, Below (callerA.deeper e₀) base [e₀] g ∧ Fr g L' h m' ∧ News g L' h new ∧ K.In g ∧ TopP mean mg mb g ∧
      (∀ h' n', Fr g L' h' m' → News g L' h' n' → Fr h₀ L h' m ∧ News h₀ L h' n') := by
  obtain ⟨sl, rfl⟩ := hsl
  have hL : h.get? L = some { oL with slots := sl } := (N _ (List.mem_append_right _ List.mem_cons_self)).1
  have nm : ∀ b o, h₀.get? b = some o → b ∉ new.map (·.1) := fun b o e q => by
    obtain ⟨p, hp, rfl⟩ := List.mem_map.mp q
    rw [(N p (List.mem_append_left _ hp)).2.2] at e; cases e
  have nL : L ∉ new.map (·.1) := fun q => by
    obtain ⟨p, hp, e⟩ := List.mem_map.mp q
    exact hne.mem p hp e
  have hg : ∀ b o, b < L' → b ∉ new.map (·.1) → h.get? b = some o → (hideAll (trunc h L') (new.map (·.1))).get? b = some o := fun b o hb hn e => hideAll_get _ ((trunc_get hb).trans e) hn
  have st : h₀.StaysIn (hideAll (trunc h L') (new.map (·.1))) := fun b o e => hg b o (Nat.lt_of_lt_of_le (Heap.lt_size e) F.above) (nm b o e) (F.keep b o e)
  have gL := hg L _ hlt nL hL
  have FG : Fr h₀ L (hideAll (trunc h L') (new.map (·.1))) m := ⟨C.ns _ sl gL, st, C.above⟩
  refine ⟨hideAll (trunc h L') (new.map (·.1)), pushX B FG hf hk, ⟨F.ns, fun b o e => of_trunc (of_hideAll _ e), ?_⟩, fun p hp => ⟨(N p (List.mem_append_left _ hp)).1, (N p (List.mem_append_left _ hp)).2.1, hideAll_none _ (List.mem_map_of_mem hp)⟩, X.keeps (fun b o e => st b o e), T.keeps (fun b o e => st b o e), fun h' n' F' N' => ⟨⟨C.ns _ sl (F'.keep L _ gL), fun b o e => F'.keep b o (st b o e), C.above⟩, fun p hp => ⟨(N' p hp).1, fun q => ?_, ?_⟩⟩⟩
  · rw [hideAll_size]; exact trunc_size h L'
  · have := (N' p hp).2.2; rw [q, gL] at this; cases this
  · cases q : h₀.get? p.1 with
    | none => rfl
    | some o => have := (N' p hp).2.2; rw [st _ _ q] at this; cases this
end
theorem new_out {w : World} {mean : ExcName → Option Value} {mg mb : Str → Option Value}
   {v ty sb : Str} {t1 t2 t3 : Tok} {own e₀ : Env} {base h₀ : Heap} {L L' : Addr} {oL oL' : Obj} {m m' : Str → Option Value} {new : List (Addr × Obj)} {s : Shared} {Q E : Value → Shared → Prop}
    (B : Below callerA base [] h₀) (C : TI.Caller h₀ L m oL) (F : Fr h₀ L' s.heap m') (N : News h₀ L' s.heap (new ++ [(L, oL')])) (hsl : ∃ sl, oL' = { oL with slots := sl }) (hne : TLg.AllNe L new) (hlt : L < L') (X : (Mine.hd.heap_39 w.params).In h₀) (T : TopP mean mg mb h₀)
    (hf : e₀.frame = some L) (hk : e₀.scope.kind = .function) (hf' : own.frame = some L') (hk' : own.scope.kind = .function)
    (hret : ∀ (y dy : Addr) (h' : Heap) (tk' : Nat), Fr h₀ L h' m → News h₀ L h' ((y, tokO dy v ty sb t1 t2 t3) :: (dy, dictOf [] 0) :: new) → (∀ p ∈ new, p.1 < dy) → dy < y → Q (.ref y) { s with heap := h', toks := tk' }) :
    wpAny (model PySem.Challenge.pw_fh5003_01 w) ((callerA.deeper e₀).deeper own) (call (.ref 101) [.str v t1, .str ty t2, .str sb t3]) (fun v s' => TI.LeaveI s' (Q v s')) E s := by
  obtain ⟨g, B', F', N', X', T', back⟩ := regroup B C F N hsl hne hlt X T hf hk
  refine weaken (c_new (env := own) (outer := [e₀]) B' F' X' N' T' hf' hk' (fun y dy h' tk' F2 N2 l1 l2 => ?_)) rfl (Nat.le_of_ble_eq_true rfl) (fun _ h => h) rfl (Nat.le_of_ble_eq_true rfl)
  obtain ⟨F3, N3⟩ := back _ _ F2 N2
  exact hret y dy h' tk' F3 N3 l1 l2
theorem spl_app {α : Type} (x y : List α) : x ++ y = x ++ y := rfl
theorem spl_cons {α : Type} {l n o : List α} (a : α) (h : l = n ++ o) : a :: l = (a :: n) ++ o := congrArg (List.cons a) h
theorem back9 {P : Prop} {s' : Shared} {l new : List (Addr × Obj)} {sl : Array (Option Value)} {h₀ : Heap} {L L' : Addr} {m m' : Str → Option Value} {oL : Obj} (C : TI.Caller h₀ L m oL) (F' : Fr h₀ L' s'.heap m')
    (N' : News h₀ L' s'.heap l) (hs : l = new ++ [(L, { oL with slots := sl })]) (hne : TLg.AllNe L new) (k : Fr h₀ L s'.heap m → News h₀ L s'.heap new → P) : TI.LeaveI s' P := by
  subst hs
  exact TLg.leave_back C F' N' hne k
theorem noted9 {prog : Program} {w : World} {A₀ : Around} {E : Value → Shared → Prop} {s' : Shared} {h h₀ : Heap} {a e L L' : Addr} {oL : Obj} {m : Str → Option Value} {name : Str} {scope : Scope} {cd : Value} {Q : Unit → Shared → Prop} {X : String} {env : Env} {l new : List (Addr × Obj)}
    (hfr : A₀.frames = some [env]) (Fs : TI.Frs [env] [(L, oL)]) (hx : Heap.NewExc h s'.heap e X) (F : Fr h₀ L' h m) (N : News h₀ L' h l) (hs : l = new ++ [(L, oL)]) (hne : TLg.AllNe L new)
    (k : ∀ h' sl, TI.Frs [env] [(L, { oL with slots := sl })] → TT.HeldN h₀ L' h' m e X (new ++ [(L, { oL with slots := sl })]) → Q () { s' with heap := h' }) (hk : scope.kind = .function := by rfl) :
    wpAny (model prog w) (A₀.deeper (envOf name scope L' a cd)) (noteFrame (.ref e) (envOf name scope L' a cd)) Q E s' := by
  subst hs
  exact TLg.noted_new1 hfr Fs hx F N hne k hk
theorem new_out9 {w : World} {mean : ExcName → Option Value} {mg mb : Str → Option Value}
   {v ty sb : Str} {t1 t2 t3 : Tok} {own e₀ : Env} {base h₀ : Heap} {L L' : Addr} {oL oL' : Obj} {m m' : Str → Option Value} {l new : List (Addr × Obj)} {s : Shared} {Q E : Value → Shared → Prop}
    (B : Below callerA base [] h₀) (C : TI.Caller h₀ L m oL) (F : Fr h₀ L' s.heap m') (N : News h₀ L' s.heap l) (hs : l = new ++ [(L, oL')]) (hsl : ∃ sl, oL' = { oL with slots := sl }) (hne : TLg.AllNe L new) (hlt : L < L') (X : (Mine.hd.heap_39 w.params).In h₀) (T : TopP mean mg mb h₀)
    (hf : e₀.frame = some L) (hk : e₀.scope.kind = .function) (hf' : own.frame = some L') (hk' : own.scope.kind = .function)
    (hret : ∀ (y dy : Addr) (h' : Heap) (tk' : Nat), Fr h₀ L h' m → News h₀ L h' ((y, tokO dy v ty sb t1 t2 t3) :: (dy, dictOf [] 0) :: new) → (∀ p ∈ new, p.1 < dy) → dy < y → Q (.ref y) { s with heap := h', toks := tk' }) :
    wpAny (model PySem.Challenge.pw_fh5003_01 w) ((callerA.deeper e₀).deeper own) (call (.ref 101) [.str v t1, .str ty t2, .str sb t3]) (fun v s' => TI.LeaveI s' (Q v s')) E s := by
  subst hs
  exact new_out B C F N hsl hne hlt X T hf hk hf' hk' hret
local macro_rules | `(tactic| walk_at "LeaveI") => `(tactic| (k_here; (with_reducible rename TI.Caller _ _ _ _ => tiC'); k_dflt (refine back9 (by assumption) (by assumption) (by assumption) (by repeat first | with_reducible exact spl_app _ _ | (with_reducible apply spl_cons)) (by repeat first | assumption | (refine And.intro (by first | k_ne | exact ne_lt9 (by assumption)) ?_)) ?_); clear tiC'; intro F' N'))
local macro_rules | `(tactic| walk_at "noteFrame ref") => `(tactic| (k_here; (with_reducible rename TI.Caller _ _ _ _ => tiC'); (first | (with_reducible rename Heap.NewExc _ _ _ _ => tiX') | ((with_reducible rename Heap.MadeExc _ _ _ _ _ => tiY'); have tiX' := Heap.MadeExc.newExc tiY'; clear tiY')); k_dflt (refine noted9 (by rfl) (by assumption) tiX' (by assumption) (by assumption) (by repeat first | with_reducible exact spl_app _ _ | (with_reducible apply spl_cons)) (by repeat first | assumption | (refine And.intro (by first | k_ne | exact ne_lt9 (by assumption)) ?_)) ?_); clear tiX'; intro h' sl' tiF' tiH'; (try simp only [List.nil_append, List.cons_append] at tiH'); have tiHH' := TT.HeldNA.held tiH'))
local macro_rules | `(tactic| walk_at "call ref") => `(tactic| (k_here; (with_reducible show wpAny _ _ (call (Value.ref 101) [Value.str _ _, Value.str _ _, Value.str _ _]) _ _ _); (with_reducible rename TI.Caller _ _ _ _ => tiC'); k_dflt (refine' new_out9 (by assumption) (by assumption) (by assumption) (by assumption) (by repeat first | with_reducible exact spl_app _ _ | (with_reducible apply spl_cons)) ?hsl ?hne (by assumption) (by assumption) (by assumption) ?f1 ?f2 ?f3 ?f4 ?_; (case hsl => exact ⟨_, rfl⟩); (case hne => repeat first | assumption | (refine And.intro (by first | k_ne | exact ne_lt9 (by assumption)) ?_)); (case f1 => exact rfl); (case f2 => assumption); (case f3 => exact rfl); (case f4 => exact rfl); intro y' d' h' tk' F' N' l1 l2)))
def subM (v : Str) : Str := if Txt.startswith v (Str.ofString "\"") = true then Str.ofString "TEXT" else if Txt.startswith v (Str.ofString "#") = true then Str.ofString "ERROR" else
  if ([Str.ofString "TRUE", Str.ofString "FALSE"].any fun x => x == v) = true then Str.ofString "LOGICAL" else if (Num.parseText? v).isSome = true then Str.ofString "NUMBER" else Str.ofString "RANGE"
theorem ifF {α : Type} {b : Bool} {x y : α} (h : b = false) : (if b = true then x else y) = y := by rw [h]; rfl
set_option maxHeartbeats 8000000 in
theorem c_operand {w : World} {mean : ExcName → Option Value} {mg mb : Str → Option Value}
   {v : Str} {t : Tok} {q : Addr}
   {cn : Str} {cs : Scope} {a : Addr} {ccd : Value} {base h₀ : Heap} {L : Addr} {m : Str → Option Value} {news : List (Addr × Obj)} {s : Shared} {Q E : Value → Shared → Prop}
    (B : Below callerA base [] h₀) (F : Fr h₀ L s.heap m) (X : (Mine.hd.heap_39 w.params).In h₀) (N : News h₀ L s.heap news) (T : TopP mean mg mb h₀) (hk : cs.kind = .function)
    (hq : (q, methodObj (.ref 66) (.ref 101)) ∈ news)
    (hs2 : v.length ≤ 16) (hlay : PyData.layable0 (.str v) = true)
    (hret : ∀ (y dy : Addr) (u2 u3 : Tok) (h' : Heap) (tk' : Nat), Fr h₀ L h' m → News h₀ L h' ((y, tokO dy v (Str.ofString "OPERAND") (subM v) t u2 u3) :: (dy, dictOf [] 0) :: news) → (∀ p ∈ news, p.1 < dy) → dy < y → Q (.ref y) { s with heap := h', toks := tk' }) :
      wpAny (model PySem.Challenge.pw_fh5003_01 w) (callerA.deeper (envOf cn cs L a ccd)) (call (.ref q) [.str v t] []) Q E s := by
  have hlt9 : L < s.heap.objs.size := by
    obtain ⟨o9, _, _, e9, _⟩ := F.ns
    exact Heap.lt_size e9
  refine call_meth N hq ?_
  refine TLgL.code_def (by k_asm) (by k_asm) (by k_asm) (by k_asm) (by rfl) (by k_is) (by k_is) (by k_room) (by first | exact binds_K (by k_in) rfl (by k_is) rfl rfl rfl | exact BindsTo.of_eq rfl) (locs rfl) ?_ hk
  intro oL' h' tiC' tiF' tiE' F' N'
  (try dsimp only)
  replace tiE' := TLgL.allNe_of tiE'
  k_steps
  all_goals (rename_i yq dq hq' tkq Fq Nq l1q l2q)
  all_goals (first
    | have e9 : subM v = Str.ofString "TEXT" := by (unfold subM; repeat (first | rw [if_pos (by assumption)] | rw [ifF (by assumption)]))
    | have e9 : subM v = Str.ofString "ERROR" := by (unfold subM; repeat (first | rw [if_pos (by assumption)] | rw [ifF (by assumption)]))
    | have e9 : subM v = Str.ofString "LOGICAL" := by (unfold subM; repeat (first | rw [if_pos (by assumption)] | rw [ifF (by assumption)]))
    | have e9 : subM v = Str.ofString "NUMBER" := by (unfold subM; repeat (first | rw [if_pos (by assumption)] | rw [ifF (by assumption)]))
    | have e9 : subM v = Str.ofString "RANGE" := by (unfold subM; repeat (first | rw [if_pos (by assumption)] | rw [ifF (by assumption)])))
  all_goals (rw [← e9] at Nq; exact hret yq dq _ _ hq' tkq Fq (cb_drop Nq (by walk_at "sub_all")) (by first | exact l1q | exact fun p hp => l1q p (List.mem_cons_of_mem _ hp)) l2q)
end

section -- PL1
def isFig (c : Nat) : Bool := decide (48 ≤ c) && decide (c ≤ 57)
def chunk (v : Str) (i : Nat) : Str := ⟨((v.cps.toList.drop i).take 1).toArray⟩
theorem len_toList (v : Str) : v.length = v.cps.toList.length := by simp [Str.length]
theorem slice_chunk (v : Str) (i : Nat) (h : i ≤ v.length) : Txt.slice v (some (i : Int)) (some ((i : Int) + 1)) = chunk v i := by
  by_cases h1 : i + 1 ≤ v.length
  · have := slice_closesL (x := v) (i := (i : Int)) (j := (i : Int) + 1) (by omega) (by omega) (by omega)
    rw [beq_iff_eq] at this
    rw [this]
    unfold chunk
    congr 3
    omega
  · have e : i = v.length := by omega
    have e3 : Builtin.Str.strSliceIndices (some (i : Int)) (some ((i : Int) + 1)) 1 v.length = [] := by
      have a1 : ¬ ((i : Int) < 0) := by omega
      have a2 : ¬ ((i : Int) + 1 < 0) := by omega
      have a3 : max (0 : Int) (min (i : Int) (v.length : Int)) = v.length := by omega
      have a4 : max (0 : Int) (min ((i : Int) + 1) (v.length : Int)) = v.length := by omega
      simp only [Builtin.Str.strSliceIndices, PySem.sliceRange, a1, a2, if_false, if_true, show ((1 : Int) > 0) from by decide, a3, a4]
      simp
    have e4 := len_toList v
    unfold chunk Txt.slice
    rw [e3]
    have e5 : v.cps.toList.drop i = [] := List.drop_eq_nil_of_le (by omega)
    rw [e5]
    by_cases h0 : v.length = 0
    · rw [if_pos (by rw [h0]; rfl)]
      have : v.cps.toList = [] := List.length_eq_zero_iff.mp (by omega)
      obtain ⟨⟨l⟩⟩ := v
      simp only at this
      subst this
      rfl
    · rw [if_neg (by simp; omega)]
      rfl
theorem slice_head (v : Str) : Txt.slice v none (some 1) = chunk v 0 := by
  by_cases h1 : 1 ≤ v.length
  · have := slice_closes_toL (x := v) (j := 1) (by omega) (by omega)
    rw [beq_iff_eq] at this
    rw [this]
    rfl
  · rw [slice_to_beyond (by omega)]
    have := slice_closes_toL (x := v) (j := (v.length : Int)) (by omega) (by omega)
    rw [beq_iff_eq] at this
    rw [this]
    have e := len_toList v
    have : v.cps.toList = [] := List.length_eq_zero_iff.mp (by omega)
    unfold chunk
    simp [this]

def chunkI (v : Str) (k : Int) : Str := chunk v k.toNat
theorem slice_chunkI {v : Str} {k j : Int} (h0 : 0 ≤ k) (h1 : k ≤ v.length) (hj : j = k + 1) : Txt.slice v (some k) (some j) = chunkI v k := by
  subst hj
  have e : k = ((k.toNat : Nat) : Int) := by omega
  have := slice_chunk v k.toNat (by omega)
  rw [← e] at this
  exact this
theorem chunk_none {v : Str} {k : Int} (h0 : (v.length : Int) ≤ k) : chunkI v k = Str.ofString "" := by
  have e := len_toList v
  unfold chunkI chunk
  rw [List.drop_eq_nil_of_le (by omega)]
  decide +kernel
theorem chunk_some {v : Str} {k : Int} (h0 : 0 ≤ k) (h1 : k < v.length) : chunkI v k = ⟨#[v.cps.toList.getD k.toNat 0]⟩ := by
  have e := len_toList v
  have hl : k.toNat < v.cps.toList.length := by omega
  unfold chunkI chunk
  rw [List.drop_eq_getElem_cons hl, List.getD_eq_getElem?_getD, List.getElem?_eq_getElem hl]
  rfl
theorem item_some {v : Str} {k : Int} (h0 : 0 ≤ k) (h1 : k < v.length) : Txt.item v k = ⟨#[v.cps.toList.getD k.toNat 0]⟩ := by
  have e := len_toList v
  have hl : k.toNat < v.cps.size := by have : v.length = v.cps.size := rfl; omega
  unfold Txt.item Txt.charAt seqIndex?
  have a1 : ¬ k < 0 := by omega
  simp only [a1, if_false, h0, h1, decide_true, Bool.and_self, if_true, Option.bind_some]
  rw [List.getD_eq_getElem?_getD, ← Array.getElem?_toList]
theorem chunk_ne {v : Str} {k : Int} (h0 : 0 ≤ k) (h1 : k < v.length) : (chunkI v k != Str.ofString "") = true := by
  rw [chunk_some h0 h1]
  have e : Str.ofString "" = ⟨#[]⟩ := by decide +kernel
  rw [e, bne_iff_ne]
  intro q
  have := congrArg (fun s : Str => s.cps.size) q
  simp at this
theorem chunk_eq_none {v : Str} {k : Int} (h1 : (v.length : Int) ≤ k) : (chunkI v k != Str.ofString "") = false := by
  rw [chunk_none h1]; decide +kernel
theorem str1_ne {y : Str} (hy : y.length = 1) : ((Str.ofString "") == y) = false := by
  rw [beq_eq_false_iff_ne]
  rintro rfl
  revert hy; decide +kernel
theorem chunk_lt {v y : Str} {k : Int} (h : (chunkI v k == y) = true) (hy : y.length = 1) : k < v.length := by
  apply Int.not_le.mp
  intro hn
  rw [chunk_none hn, str1_ne hy] at h
  cases h
theorem fig_in (c : Nat) : (Builtin.Str.occurrences (Str.ofString "0123456789") ⟨#[c]⟩ 0 (Str.ofString "0123456789").length 1).isEmpty = !isFig c := by
  have h := StrLaws.found_one (Str.ofString "0123456789") c
  have e : (Str.ofString "0123456789").cps.toList = [48, 49, 50, 51, 52, 53, 54, 55, 56, 57] := by decide +kernel
  rw [e] at h
  have h2 : decide (c ∈ [48, 49, 50, 51, 52, 53, 54, 55, 56, 57]) = isFig c := by
    unfold isFig
    rw [Bool.eq_iff_iff]
    simp only [decide_eq_true_eq, Bool.and_eq_true, List.mem_cons, List.not_mem_nil, or_false]
    omega
  rw [h2] at h
  rw [← h, Bool.not_not]
def figC (v : Str) (k : Int) : Bool := decide (k < v.length) && isFig (v.cps.toList.getD k.toNat 0)
def figEnd (v : Str) (a : Nat) : Nat := a + ((v.cps.toList.drop a).takeWhile isFig).length
def figEndI (v : Str) (k : Int) : Int := (figEnd v k.toNat : Nat)
theorem figEnd_le (v : Str) (a : Nat) (h : a ≤ v.length) : a ≤ figEnd v a ∧ figEnd v a ≤ v.length := by
  have e := len_toList v
  have : ((v.cps.toList.drop a).takeWhile isFig).length ≤ (v.cps.toList.drop a).length := takeWhile_len_le _ _
  rw [List.length_drop] at this
  unfold figEnd
  omega
theorem figEndI_le {v : Str} {k : Int} (h0 : 0 ≤ k) (h1 : k ≤ v.length) : k ≤ figEndI v k ∧ figEndI v k ≤ v.length := by
  have := figEnd_le v k.toNat (by omega)
  unfold figEndI
  omega
theorem figEndI_stop {v : Str} {k : Int} (h0 : 0 ≤ k) (h : figC v k = false) : figEndI v k = k := by
  have e := len_toList v
  unfold figEndI figEnd
  by_cases h1 : k < v.length
  · have hl : k.toNat < v.cps.toList.length := by omega
    unfold figC at h
    rw [decide_eq_true h1, Bool.true_and, List.getD_eq_getElem?_getD, List.getElem?_eq_getElem hl] at h
    rw [List.drop_eq_getElem_cons hl, List.takeWhile_cons_of_neg (by rw [show isFig (v.cps.toList[k.toNat]) = false from h]; decide)]
    simp only [List.length_nil]
    omega
  · rw [List.drop_eq_nil_of_le (by omega)]
    simp only [List.takeWhile_nil, List.length_nil]
    omega
theorem figEndI_next {v : Str} {k : Int} (h0 : 0 ≤ k) (h : figC v k = true) : figEndI v (k + 1) = figEndI v k := by
  have e := len_toList v
  unfold figC at h
  obtain ⟨h1, h2⟩ := Bool.and_eq_true_iff.mp h
  have h1 := of_decide_eq_true h1
  have hl : k.toNat < v.cps.toList.length := by omega
  rw [List.getD_eq_getElem?_getD, List.getElem?_eq_getElem hl] at h2
  unfold figEndI figEnd
  rw [show (k + 1).toNat = k.toNat + 1 from by omega, List.drop_eq_getElem_cons hl, List.takeWhile_cons_of_pos (show isFig (v.cps.toList[k.toNat]) = true from h2)]
  simp only [List.length_cons]
  omega

def lawNum (v : Str) : Bool :=
  let a0 : Int := if (chunkI v 0 == Str.ofString "+" || chunkI v 0 == Str.ofString "-") = true then 1 else 0
  let a1 := figEndI v a0
  let dot := chunkI v a1 == Str.ofString "."
  let a2 := if dot = true then figEndI v (a1 + 1) else a1
  let count : Int := if dot = true then (a1 - a0) + a2 - a1 - 1 else a1 - a0
  if count = 0 then false else
  if (chunkI v a2 == Str.ofString "e" || chunkI v a2 == Str.ofString "E") = true then
    let b1 := if (chunkI v (a2 + 1) == Str.ofString "+" || chunkI v (a2 + 1) == Str.ofString "-") = true then a2 + 1 + 1 else a2 + 1
    let b2 := figEndI v b1
    if b2 = b1 then false else decide (b2 = v.length)
  else decide (a2 = v.length)
end

section -- S5
local macro_rules | `(tactic| walk_at "enter_def") => `(tactic| (k_dflt (refine' code_def ?k1 ?k2 ?k3 ?k4 ?k5 ?kA ?kF ?kK ?k6 ?k7 ?k8 ?k9 ?kB ?_ ?c2 ?c3 ?c4 ?c5; (case kA => exact rfl); (case kF => assumption); (case kK => assumption); (case k1 => k_asm); (case k2 => k_asm); (case k3 => k_asm); (case k4 => k_asm); (case k5 => k_asm); (case k6 => k_is); (case k7 => k_is); (case k8 => exact Nat.le_of_ble_eq_true rfl); (case k9 => first | exact BindsTo.of_eq rfl | exact binds_K (by k_in) rfl (by k_is) rfl rfl rfl); (case c5 => decide); (case kB => exact locs rfl); (case c2 => exact rfl); (case c3 => exact rfl); (case c4 => exact rfl); k_whole; intro g' L' h' FG' F' N' B' X' T'; (try dsimp only); (try k_fold))))
local macro_rules | `(tactic| walk_at "getAttr ref") => `(tactic| (k_here; k_dflt (refine' get_clsS ?k1 ?k2 ?k3 ?k4 ?k5 ?k6 ?k7 ?k8 ?k9 ?k10 ?_; (case k1 => k_asm); (case k2 => k_asm); (case k3 => k_inst); (case k4 => k_is); (case k5 => k_is); (case k6 => k_is); (case k7 => k_is); (case k8 => k_is); (case k9 => k_handed); (case k10 => decide +kernel); k_whole)))
local macro_rules | `(tactic| walk_at "getAttr ref") => `(tactic| (k_here; ((first | (with_reducible show wpAny _ _ (getAttr _ (PySem.Str.ofString "type") _) _ _ _) | (with_reducible show wpAny _ _ (getAttr _ (PySem.Str.ofString "subtype") _) _ _ _) | (with_reducible show wpAny _ _ (getAttr _ (PySem.Str.ofString "value") _) _ _ _))); k_dflt (refine' get_slot ?k1 ?k2 ?k3 ?k4 ?k5 ?k6 ?k7 ?k8 ?k9 ?k10 ?k11 ?_; (case k1 => k_asm); (case k2 => k_asm); (case k3 => k_inst); (case k4 => k_is); (case k5 => k_is); (case k6 => k_is); (case k7 => k_is); (case k8 => k_is); (case k9 => k_is); (case k10 => k_slotget); (case k11 => k_handed); k_whole)))
local macro_rules | `(tactic| walk_at "getAttr ref") => `(tactic| (k_here; (with_reducible show wpAny _ _ (getAttr (Value.ref 101) _ _) _ _ _); k_dflt (refine' cls_val ?k1 ?k2 ?k3 ?k4 ?k5 ?k6 ?_; (case k1 => k_asm); (case k2 => k_asm); (case k3 => k_is); (case k4 => k_is); (case k5 => k_is); (case k6 => k_handed); k_whole)))
local macro_rules | `(tactic| walk_at "getMethod ref") => `(tactic| (k_here; k_dflt (refine' method_cmS ?k1 ?k2 ?k3 ?k4 ?k5 ?k6 ?k7 ?k8 ?k9 ?k10 ?k11 ?k12 ?k13 ?_; (case k1 => k_asm); (case k2 => k_asm); (case k3 => k_asm); (case k4 => k_inst); (case k5 => k_is); (case k6 => k_is); (case k7 => k_is); (case k8 => k_is); (case k9 => k_is); (case k10 => k_is); (case k11 => k_is); (case k12 => decide +kernel); (case k13 => k_is); k_whole; intro q' h' F' N' l1; (try k_lt l1); (try k_sweep))))
local macro_rules | `(tactic| walk_at "own_mem") => `(tactic| first | with_reducible exact List.mem_cons_self | (with_reducible refine List.mem_cons_of_mem _ ?_; walk_at "own_mem") | with_reducible assumption)
local macro_rules | `(tactic| k_mem) => `(tactic| walk_at "own_mem")
local macro_rules | `(tactic| walk_at "callWith ref") => `(tactic| (k_here; k_dflt (refine' callWith_MKW ?k1 ?k2 ?k3 ?k4 ?k5 ?_; (case k1 => k_asm); (case k2 => k_asm); (case k3 => k_mem); (case k4 => k_is); (case k5 => exact rfl); k_whole)))
local macro_rules | `(tactic| k_all) => `(tactic| (intro p9 hp9; refine neN ?_; first | (have q9 := ktn_ltOf (by first | assumption | exact And.right (by assumption) | exact And.right (And.right (by assumption)) | exact And.right (And.right (And.right (by assumption)))) p9 hp9; (try dsimp only at q9 ⊢); omega) | (have q9 := (by assumption : ∀ p ∈ _, @LT.lt Nat _ p.1 _) p9 hp9; (try dsimp only at q9 ⊢); omega)))
section
variable {prog : Program} {w : World} {A : Around} {E : Value → Shared → Prop} {s : Shared}
end
local macro_rules | `(tactic| walk_at "call ref") => `(tactic| (k_here; (with_reducible show wpAny _ _ (call (Value.ref 101) [_, _, _]) _ _ _); k_dflt (refine' weaken (c_new ?kB ?kF ?kX ?kN ?kT ?kf ?kk ?_) ?h1 ?h2 ?h3 ?h4 ?h5; (case h3 => exact fun _ h => h); (case kB => k_asm); (case kF => k_asm); (case kX => k_asm); (case kN => k_asm); (case kT => k_asm); (case kf => exact rfl); (case kk => exact rfl); (case h1 => exact rfl); (case h2 => exact Nat.le_of_ble_eq_true rfl); (case h4 => exact rfl); (case h5 => exact Nat.le_of_ble_eq_true rfl); k_whole; intro y' d' h' tk' F' N' l1 l2; (try k_lt l1); (try k_lt2 l2); (try k_sweep))))
local macro_rules | `(tactic| walk_at "subscriptTail Name UnaryOp str int") => `(tactic| (refine item_strE (by assumption) (by decide) (by omega) (by omega) ?_))
local macro_rules | `(tactic| walk_at "compareOp In str str") => `(tactic| (refine in_strE (by assumption) ?_; (try dsimp only [Bool.not_true, Bool.not_false])))
local macro_rules | `(tactic| walk_at "sub_all") => `(tactic| first | (refine List.forall_mem_cons.mpr ⟨by k_mem, ?_⟩; walk_at "sub_all") | (intro p9 hp9; k_mem))
local macro_rules | `(tactic| walk_at "lt_all") => `(tactic| first | assumption | exact ktn_ltOf (by first | assumption | exact And.right (by assumption) | exact And.right (And.right (by assumption)) | exact And.right (And.right (And.right (by assumption)))))
section
variable {prog : Program} {w : World} {A : Around} {E : Value → Shared → Prop} {Q : Flow → Shared → Prop} {s : Shared} {env : Env} {h₀ : Heap} {L : Addr}
def FigT (h₀ : Heap) (L : Addr) (s : Shared) (news : List (Addr × Obj)) (m : Str → Option Value) (v : Str) (k : Int) (t : Tok) (b : Bool) (s₂ : Shared) : Prop :=
  b = figC v k ∧ ∃ h' tk, s₂ = { s with heap := h', toks := tk } ∧ Fr h₀ L h' (bindM m (Str.ofString "at") (some (.int k t))) ∧ News h₀ L h' news
theorem FigT.intro {s : Shared} {news : List (Addr × Obj)} {m : Str → Option Value} {v : Str} {k : Int} {t : Tok} {b : Bool} {h' : Heap} {tk : Nat} (e : figC v k = b) (F : Fr h₀ L h' (bindM m (Str.ofString "at") (some (.int k t)))) (N : News h₀ L h' news) :
    FigT h₀ L s news m v k t b { s with heap := h', toks := tk } := ⟨e.symm, h', tk, rfl, F, N⟩
def FigS (h₀ : Heap) (L : Addr) (s : Shared) (news : List (Addr × Obj)) (m : Str → Option Value) (k : Int) (f : Flow) (s₂ : Shared) : Prop :=
  f = .next ∧ ∃ h' tk t', s₂ = { s with heap := h', toks := tk } ∧ Fr h₀ L h' (bindM m (Str.ofString "at") (some (.int (k + 1) t'))) ∧ News h₀ L h' news
theorem bindM_over {m : Str → Option Value} {x : Str} {a b : Option Value} : (fun y => if y = x then b else bindM m x a y) = bindM m x b := by
  funext y
  unfold bindM
  by_cases h : y = x <;> simp [h]
theorem FigS.intro {s : Shared} {news : List (Addr × Obj)} {m : Str → Option Value} {k : Int} {t t' : Tok} {h' : Heap} {tk : Nat} (F : Fr h₀ L h' (fun y => if y = Str.ofString "at" then some (.int (k + 1) t') else bindM m (Str.ofString "at") (some (.int k t)) y)) (N : News h₀ L h' news) :
    FigS h₀ L s news m k .next { s with heap := h', toks := tk } := ⟨rfl, h', tk, t', rfl, by rw [bindM_over] at F; exact F, N⟩
theorem figC_of {v : Str} {k : Int} {b : Bool} (h0 : 0 ≤ k) (h1 : k < v.length) (h : (Builtin.Str.occurrences (Str.ofString "0123456789") (Txt.item v k) 0 (Str.ofString "0123456789").length 1).isEmpty = b) : figC v k = !b := by
  rw [item_some h0 h1, fig_in] at h
  unfold figC
  rw [decide_eq_true h1, Bool.true_and, ← h, Bool.not_not]
theorem figC_out {v : Str} {k : Int} (h1 : ¬ k < v.length) : figC v k = false := by
  unfold figC
  rw [decide_eq_false h1, Bool.false_and]
theorem While_figs {v : Str} {test : Expr} {body : List Stmt} {pos : Pos} {m : Str → Option Value} {news : List (Addr × Obj)} {k₀ : Int} {t₀ : Tok}
    (F : Fr h₀ L s.heap m) (N : News h₀ L s.heap news) (hmi : m (Str.ofString "at") = some (.int k₀ t₀)) (h0 : 0 ≤ k₀) (h1 : k₀ ≤ v.length)
    (turn : ∀ (k : Int) (t : Tok) h₁ tk₁, 0 ≤ k → k ≤ v.length → Fr h₀ L h₁ (bindM m (Str.ofString "at") (some (.int k t))) → News h₀ L h₁ news →
      wpAny (model prog w) A (isTrue test env (eval test env)) (FigT h₀ L s news m v k t) E { s with heap := h₁, toks := tk₁ })
    (step : ∀ (k : Int) (t : Tok) h₁ tk₁, 0 ≤ k → k < v.length → Fr h₀ L h₁ (bindM m (Str.ofString "at") (some (.int k t))) → News h₀ L h₁ news →
      wpAny (model prog w) A (execs body env) (FigS h₀ L s news m k) E { s with heap := h₁, toks := tk₁ })
    (done : ∀ (t : Tok) h' tk, k₀ ≤ figEndI v k₀ → figEndI v k₀ ≤ v.length → Fr h₀ L h' (bindM m (Str.ofString "at") (some (.int (figEndI v k₀) t))) → News h₀ L h' news → Q .next { s with heap := h', toks := tk })
    (hE : PassesOwn (model prog w) A env E := by passes_own) :
    wpAny (model prog w) A (exec (.While test body [] pos) env) Q E s := by
  have hm0 : m = bindM m (Str.ofString "at") (some (.int k₀ t₀)) := by rw [← hmi]; exact bindM_start m _
  have hle := figEndI_le h0 h1
  refine While_inv (fun n m₁ news₁ => ∃ (k : Int) (t : Tok), 0 ≤ k ∧ k ≤ v.length ∧ figEndI v k = figEndI v k₀ ∧ m₁ = bindM m (Str.ofString "at") (some (.int k t)) ∧ news = news₁ ∧ n = ((v.length : Int) - k).toNat)
    F N ⟨k₀, t₀, h0, h1, rfl, hm0, rfl, rfl⟩ ?_ hE
  rintro n m₁ news₁ h₁ tk₁ F₁ N₁ ⟨k, t, hk0, hk1, hfe, rfl, rfl, rfl⟩
  refine wpAny_mono (turn k t h₁ tk₁ hk0 hk1 F₁ N₁) (fun b s₂ h₂ => ?_) fun _ _ e => e
  obtain ⟨rfl, h', tk, rfl, F₂, N₂⟩ := h₂
  cases hc : figC v k with
  | true =>
    rw [if_pos rfl]
    have hlt : k < v.length := of_decide_eq_true (Bool.and_eq_true_iff.mp hc).1
    refine wpAny_mono (step k t h' tk hk0 hlt F₂ N₂) (fun f s₃ h₃ => ?_) fun _ _ e => e
    obtain ⟨rfl, h'', tk'', t', rfl, F₃, N₃⟩ := h₃
    exact WhileStep.intro F₃ N₃ (n' := ((v.length : Int) - (k + 1)).toNat) (by omega) ⟨k + 1, t', by omega, by omega, (figEndI_next hk0 hc).trans hfe, rfl, rfl, rfl⟩
  | false =>
    rw [if_neg (by simp)]
    have e := figEndI_stop hk0 hc
    rw [hfe] at e
    subst e
    exact done t h' tk hle.1 hle.2 F₂ N₂

theorem slice_strE {news : List (Addr × Obj)} {m : Str → Option Value} {x : Str} {t : Tok} {value slice : Expr} {Q : Value → Shared → Prop} {i j : Int} {ui uj : Tok} (hF : Fr h₀ L s.heap m) (hN : News h₀ L s.heap news) (h0 : 0 ≤ i) (h1 : i ≤ x.length) (hj : j = i + 1)
    (h : ∀ h' t' k, Fr h₀ L h' m → News h₀ L h' news → Q (.str (chunkI x i) t') { s with heap := h', toks := k })
    (hs : subscripted slice false (.str x t) (.ref s.heap.objs.size) = operate [.ref s.heap.objs.size, .str x t] (getItem (.str x t) (.ref s.heap.objs.size)) := by with_unfolding_all rfl)
    (ht : ∀ r, letTemporaryGo value (.str x t) r = pure () := by intro _; with_unfolding_all rfl) (hsz : x.length ≤ sizeLine := by size_fits) :
    wpAny (model prog w) A (subscriptTail value slice (.str x t) (.ref s.heap.objs.size)) Q E { s with heap := s.heap.push { cls := .type "slice", data := .fields #[.int i ui, .int j uj, .none] } } :=
  slice_strN_ss hF hN (by rw [slice_chunkI h0 h1 hj]; exact h) hs ht hsz
theorem slice_strH {news : List (Addr × Obj)} {m : Str → Option Value} {x : Str} {t : Tok} {value slice : Expr} {Q : Value → Shared → Prop} {uj : Tok} (hF : Fr h₀ L s.heap m) (hN : News h₀ L s.heap news)
    (h : ∀ h' t' k, Fr h₀ L h' m → News h₀ L h' news → Q (.str (chunkI x 0) t') { s with heap := h', toks := k })
    (hs : subscripted slice false (.str x t) (.ref s.heap.objs.size) = operate [.ref s.heap.objs.size, .str x t] (getItem (.str x t) (.ref s.heap.objs.size)) := by with_unfolding_all rfl)
    (ht : ∀ r, letTemporaryGo value (.str x t) r = pure () := by intro _; with_unfolding_all rfl) (hsz : x.length ≤ sizeLine := by size_fits) :
    wpAny (model prog w) A (subscriptTail value slice (.str x t) (.ref s.heap.objs.size)) Q E { s with heap := s.heap.push { cls := .type "slice", data := .fields #[.none, .int 1 uj, .none] } } :=
  slice_strN_ns hF hN (by rw [slice_head]; exact h) hs ht hsz
end
local macro_rules | `(tactic| walk_at "subscriptTail Name Slice str ref") => `(tactic| ((with_reducible show wpAny _ _ (subscriptTail _ (Expr.Slice (some _) (some _) none _) _ _) _ _ _); (with_reducible rename Fr _ _ _ _ => F'); (with_reducible rename News _ _ _ _ => N'); (refine slice_strE (hsz := ?hsz) (s := ⟨_, _, _, _, _⟩) F' N' (by omega) (by first | omega | (have z9 := chunk_lt (by assumption) (by decide +kernel); omega)) rfl ?_); (case hsz => exact Nat.le_trans (by assumption) (by rw [sizeLine_eq]; decide)); intro _ _ _ _ _))
local macro_rules | `(tactic| walk_at "subscriptTail Name Slice str ref") => `(tactic| ((with_reducible show wpAny _ _ (subscriptTail _ (Expr.Slice none (some _) none _) _ _) _ _ _); (with_reducible rename Fr _ _ _ _ => F'); (with_reducible rename News _ _ _ _ => N'); (refine slice_strH (hsz := ?hsz) (s := ⟨_, _, _, _, _⟩) F' N' ?_); (case hsz => exact Nat.le_trans (by assumption) (by rw [sizeLine_eq]; decide)); intro _ _ _ _ _))
local macro_rules | `(tactic| walk_at "exec While") => `(tactic| k_extra "mywhile")
set_option maxHeartbeats 8000000 in
theorem c_figures {w : World} {mean : ExcName → Option Value} {mg mb : Str → Option Value}
   {v : Str} {t tk : Tok} {a : Int}
   {env : Env} {outer : List Env} {A₀ : Around} {base h₀ : Heap} {L : Addr} {m : Str → Option Value} {news : List (Addr × Obj)} {s : Shared} {Q E : Value → Shared → Prop}
    (B : Below A₀ base outer h₀) (F : Fr h₀ L s.heap m) (X : (Mine.hd.heap_39 w.params).In h₀) (N : News h₀ L s.heap news) (T : TopP mean mg mb h₀) (hf : env.frame = some L) (hk : env.scope.kind = .function)
    (hs2 : v.length ≤ 16) (ha0 : 0 ≤ a) (ha : a ≤ v.length)
    (hret : ∀ (u : Tok) (h' : Heap) (tk' : Nat), a ≤ figEndI v a → figEndI v a ≤ v.length → Fr h₀ L h' m → News h₀ L h' news → Q (.int (figEndI v a) u) { s with heap := h', toks := tk' }) :
      wpAny (model PySem.Challenge.pw_fh5003_01 w) (atA 700 3000 env outer) (call (.ref 128) [.str v t, .int a tk]) Q E s := by
  refine wpAny_call ?_
  walk_at "enter_def"
  walk1
  walk1
  k_dflt (refine' While_figs (v := v) ?w1 ?w2 ?w3 ha0 ha ?turn ?step ?done ?wE)
  case w1 => k_asm
  case w2 => k_asm
  case w3 => exact rfl
  case wE => passes_own
  case turn =>
    intro k9 t9 h9 tk9 hk9 hk8 F9 N9
    by_cases hlt : k9 < v.length
    · have hcn := chunk_ne hk9 hlt
      k_steps
      all_goals first | exact FigT.intro (figC_of (b := true) hk9 hlt (by assumption)) (by assumption) (by assumption) | exact FigT.intro (figC_of (b := false) hk9 hlt (by assumption)) (by assumption) (by assumption)
    · have hcn := chunk_eq_none (v := v) (k := k9) (by omega)
      k_steps
      all_goals exact FigT.intro (figC_out hlt) (by assumption) (by assumption)
  case step =>
    intro k9 t9 h9 tk9 hk9 hk8 F9 N9
    k_steps
    exact FigS.intro (by assumption) (by assumption)
  case done =>
    intro t9 h9 tk9 hk9 hk8 F9 N9
    k_steps
    exact hret _ _ _ hk9 hk8 (by assumption) (by assumption)
def SetA (h₀ : Heap) (L : Addr) (s : Shared) (news : List (Addr × Obj)) (m : Str → Option Value) (x : Str) (a : Int) (f : Flow) (s₂ : Shared) : Prop :=
  f = .next ∧ ∃ h' tk t, s₂ = { s with heap := h', toks := tk } ∧ Fr h₀ L h' (fun y => if y = x then some (.int a t) else m y) ∧ News h₀ L h' news
theorem SetA.intro {h₀ : Heap} {L : Addr} {s : Shared} {news : List (Addr × Obj)} {m : Str → Option Value} {x : Str} {a b : Int} {t : Tok} {h' : Heap} {tk : Nat} (e : b = a) (F : Fr h₀ L h' (fun y => if y = x then some (.int b t) else m y)) (N : News h₀ L h' news) :
    SetA h₀ L s news m x a .next { s with heap := h', toks := tk } := ⟨rfl, h', tk, t, rfl, e ▸ F, N⟩
theorem execs_setA {M : Model} {A : Around} {h₀ : Heap} {L : Addr} {s : Shared} {news : List (Addr × Obj)} {m : Str → Option Value} {x : Str} {a : Int} {st : Stmt} {rest : List Stmt} {env : Env} {Q : Flow → Shared → Prop} {E : Value → Shared → Prop}
    (_F : Fr h₀ L s.heap m) (_N : News h₀ L s.heap news) (h1 : wpAny M A (exec st env) (SetA h₀ L s news m x a) E s)
    (h2 : ∀ h' tk t, Fr h₀ L h' (fun y => if y = x then some (.int a t) else m y) → News h₀ L h' news → wpAny M A (execs rest env) Q E { s with heap := h', toks := tk }) :
    wpAny M A (execs (st :: rest) env) Q E s :=
  wpAny_execs_cons (wpAny_mono h1 (fun f s' h => by obtain ⟨rfl, h', tk, t, rfl, F, N⟩ := h; exact h2 h' tk t F N) fun _ _ e => e)
local macro_rules | `(tactic| walk_at "call ref") => `(tactic| (k_here; (with_reducible show wpAny _ _ (call (Value.ref 128) _) _ _ _); k_dflt (refine' weaken (c_figures ?kB ?kF ?kX ?kN ?kT ?kf ?kk ?z1 ?z2 ?z3 ?_) ?h1 ?h2 ?h3 ?h4 ?h5; (case h3 => exact fun _ h => h); (case kB => k_asm); (case kF => k_asm); (case kX => k_asm); (case kN => k_asm); (case kT => k_asm); (case kf => exact rfl); (case kk => exact rfl); (case z1 => assumption); (case z2 => omega); (case z3 => first | omega | (have z9 := chunk_lt (by assumption) (by decide +kernel); omega)); (case h1 => exact rfl); (case h2 => exact Nat.le_of_ble_eq_true rfl); (case h4 => exact rfl); (case h5 => exact Nat.le_of_ble_eq_true rfl); k_whole; intro u' h' tk' g1 g2 F' N'; (try k_sweep))))
def signAt (v : Str) (k : Int) : Int := if (chunkI v k == Str.ofString "+" || chunkI v k == Str.ofString "-") = true then 1 else 0
theorem sign_p {v : Str} {k : Int} (h : (chunkI v k == Str.ofString "+") = true) : 1 = signAt v k := by unfold signAt; rw [h]; rfl
theorem sign_m {v : Str} {k : Int} (h1 : (chunkI v k == Str.ofString "+") = false) (h : (chunkI v k == Str.ofString "-") = true) : 1 = signAt v k := by unfold signAt; rw [h1, h]; rfl
theorem sign_0 {v : Str} {k : Int} (h1 : (chunkI v k == Str.ofString "+") = false) (h : (chunkI v k == Str.ofString "-") = false) : 0 = signAt v k := by unfold signAt; rw [h1, h]; rfl
theorem sign_le (v : Str) : 0 ≤ signAt v 0 ∧ signAt v 0 ≤ v.length := by
  unfold signAt
  split
  · rename_i h
    rcases Bool.or_eq_true_iff.mp h with h | h
    · have := chunk_lt h (by decide +kernel); omega
    · have := chunk_lt h (by decide +kernel); omega
  · omega
def numAt (v : Str) (a0 : Int) : Bool :=
  let a1 := figEndI v a0
  let dot := chunkI v a1 == Str.ofString "."
  let a2 := if dot = true then figEndI v (a1 + 1) else a1
  let count : Int := if dot = true then (a1 - a0) + a2 - a1 - 1 else a1 - a0
  if count = 0 then false else
  if (chunkI v a2 == Str.ofString "e" || chunkI v a2 == Str.ofString "E") = true then
    let b1 := a2 + 1 + signAt v (a2 + 1)
    let b2 := figEndI v b1
    if b2 = b1 then false else (b2 == v.length)
  else (a2 == v.length)
def NumD (v : Str) (a0 a2 c : Int) : Prop := a2 = (if (chunkI v (figEndI v a0) == Str.ofString ".") = true then figEndI v (figEndI v a0 + 1) else figEndI v a0) ∧
  c = (if (chunkI v (figEndI v a0) == Str.ofString ".") = true then figEndI v a0 - a0 + a2 - figEndI v a0 - 1 else figEndI v a0 - a0)
theorem numD_t {v : Str} {a0 : Int} (h : (chunkI v (figEndI v a0) == Str.ofString ".") = true) : NumD v a0 (figEndI v (figEndI v a0 + 1)) (figEndI v a0 - a0 + figEndI v (figEndI v a0 + 1) - figEndI v a0 - 1) := by
  unfold NumD; simp only [h, if_true, and_self]
theorem numD_f {v : Str} {a0 : Int} (h : (chunkI v (figEndI v a0) == Str.ofString ".") = false) : NumD v a0 (figEndI v a0) (figEndI v a0 - a0) := by
  unfold NumD; simp only [h, Bool.false_eq_true, if_false, and_self]
theorem num0 {v : Str} {a0 a2 c : Int} (D : NumD v a0 a2 c) (h : c = 0) : false = numAt v a0 := by
  obtain ⟨rfl, hc⟩ := D
  unfold numAt
  simp only
  rw [← hc, if_pos h]
theorem num1 {v : Str} {a0 a2 c : Int} (D : NumD v a0 a2 c) (h : c ≠ 0) (h1 : (chunkI v a2 == Str.ofString "e") = false) (h2 : (chunkI v a2 == Str.ofString "E") = false) : (a2 == (v.length : Int)) = numAt v a0 := by
  obtain ⟨hd, hc⟩ := D
  unfold numAt
  simp only
  rw [← hd, ← hc, if_neg h, h1, h2]; rfl
theorem num_e {v : Str} {a : Int} (h : (chunkI v a == Str.ofString "e") = true) : (chunkI v a == Str.ofString "e" || chunkI v a == Str.ofString "E") = true := by rw [h]; rfl
theorem num_E {v : Str} {a : Int} (h : (chunkI v a == Str.ofString "E") = true) : (chunkI v a == Str.ofString "e" || chunkI v a == Str.ofString "E") = true := by rw [h, Bool.or_true]
theorem num2 {v : Str} {a0 a2 c b1 : Int} (D : NumD v a0 a2 c) (h : c ≠ 0) (h1 : (chunkI v a2 == Str.ofString "e" || chunkI v a2 == Str.ofString "E") = true) (hb : b1 = a2 + 1 + signAt v (a2 + 1)) (h3 : figEndI v b1 = b1) : false = numAt v a0 := by
  obtain ⟨hd, hc⟩ := D
  unfold numAt
  simp only
  rw [← hd, ← hc, if_neg h, if_pos h1, ← hb, if_pos h3]
theorem num3 {v : Str} {a0 a2 c b1 : Int} (D : NumD v a0 a2 c) (h : c ≠ 0) (h1 : (chunkI v a2 == Str.ofString "e" || chunkI v a2 == Str.ofString "E") = true) (hb : b1 = a2 + 1 + signAt v (a2 + 1)) (h3 : figEndI v b1 ≠ b1) : (figEndI v b1 == (v.length : Int)) = numAt v a0 := by
  obtain ⟨hd, hc⟩ := D
  unfold numAt
  simp only
  rw [← hd, ← hc, if_neg h, if_pos h1, ← hb, if_neg h3]
theorem nb_p {v : Str} {k : Int} (h : (chunkI v k == Str.ofString "+") = true) : k + 1 = k + signAt v k := by rw [← sign_p h]
theorem nb_m {v : Str} {k : Int} (h1 : (chunkI v k == Str.ofString "+") = false) (h : (chunkI v k == Str.ofString "-") = true) : k + 1 = k + signAt v k := by rw [← sign_m h1 h]
theorem nb_0 {v : Str} {k : Int} (h1 : (chunkI v k == Str.ofString "+") = false) (h : (chunkI v k == Str.ofString "-") = false) : k = k + signAt v k := by rw [← sign_0 h1 h, Int.add_zero]
set_option maxHeartbeats 8000000 in
theorem c_number {w : World} {mean : ExcName → Option Value} {mg mb : Str → Option Value}
   {v : Str} {t : Tok}
   {env : Env} {outer : List Env} {A₀ : Around} {base h₀ : Heap} {L : Addr} {m : Str → Option Value} {news : List (Addr × Obj)} {s : Shared} {Q E : Value → Shared → Prop}
    (B : Below A₀ base outer h₀) (F : Fr h₀ L s.heap m) (X : (Mine.hd.heap_39 w.params).In h₀) (N : News h₀ L s.heap news) (T : TopP mean mg mb h₀) (hf : env.frame = some L) (hk : env.scope.kind = .function)
    (hs2 : v.length ≤ 16)
    (hret : ∀ (b : Bool) (h' : Heap) (tk' : Nat), b = numAt v (signAt v 0) → Fr h₀ L h' m → News h₀ L h' news → Q (.bool b) { s with heap := h', toks := tk' }) :
      wpAny (model PySem.Challenge.pw_fh5003_01 w) (atA 600 2000 env outer) (call (.ref 135) [.str v t]) Q E s := by
  refine wpAny_call ?_
  walk_at "enter_def"
  have hsg := sign_le v
  refine execs_setA (a := signAt v 0) (x := Str.ofString "at") (by assumption) (by assumption) ?one ?two
  case one =>
    k_steps
    · exact SetA.intro (sign_p (by assumption)) (by assumption) (by assumption)
    · exact SetA.intro (sign_m (by assumption) (by assumption)) (by assumption) (by assumption)
    · exact SetA.intro (sign_0 (by assumption) (by assumption)) (by assumption) (by assumption)
  case two =>
    intro h9 tk9 t9 F9 N9
    generalize signAt v 0 = a0 at hsg F9 hret
    obtain ⟨hs0, hs1⟩ := hsg
    k_steps
    all_goals (refine hret _ _ _ ?_ (by k_asm) (by k_asm))
    all_goals (first
      | with_reducible exact num0 (numD_t (by assumption)) (by assumption)
      | with_reducible exact num0 (numD_f (by assumption)) (by assumption)
      | with_reducible exact num1 (numD_t (by assumption)) (by assumption) (by assumption) (by assumption)
      | with_reducible exact num1 (numD_f (by assumption)) (by assumption) (by assumption) (by assumption)
      | with_reducible exact num2 (numD_t (by assumption)) (by assumption) (by first | exact num_e (by assumption) | exact num_E (by assumption)) (by first | exact nb_p (by assumption) | exact nb_m (by assumption) (by assumption) | exact nb_0 (by assumption) (by assumption)) (by assumption)
      | with_reducible exact num2 (numD_f (by assumption)) (by assumption) (by first | exact num_e (by assumption) | exact num_E (by assumption)) (by first | exact nb_p (by assumption) | exact nb_m (by assumption) (by assumption) | exact nb_0 (by assumption) (by assumption)) (by assumption)
      | with_reducible exact num3 (numD_t (by assumption)) (by assumption) (by first | exact num_e (by assumption) | exact num_E (by assumption)) (by first | exact nb_p (by assumption) | exact nb_m (by assumption) (by assumption) | exact nb_0 (by assumption) (by assumption)) (by assumption)
      | with_reducible exact num3 (numD_f (by assumption)) (by assumption) (by first | exact num_e (by assumption) | exact num_E (by assumption)) (by first | exact nb_p (by assumption) | exact nb_m (by assumption) (by assumption) | exact nb_0 (by assumption) (by assumption)) (by assumption)
      | fail "num")
end

section -- S6
local macro_rules | `(tactic| walk_at "enter_def") => `(tactic| (k_dflt (refine' code_def ?k1 ?k2 ?k3 ?k4 ?k5 ?kA ?kF ?kK ?k6 ?k7 ?k8 ?k9 ?kB ?_ ?c2 ?c3 ?c4 ?c5; (case kA => exact rfl); (case kF => assumption); (case kK => assumption); (case k1 => k_asm); (case k2 => k_asm); (case k3 => k_asm); (case k4 => k_asm); (case k5 => k_asm); (case k6 => k_is); (case k7 => k_is); (case k8 => exact Nat.le_of_ble_eq_true rfl); (case k9 => first | exact BindsTo.of_eq rfl | exact binds_K (by k_in) rfl (by k_is) rfl rfl rfl); (case c5 => decide); (case kB => exact locs rfl); (case c2 => exact rfl); (case c3 => exact rfl); (case c4 => exact rfl); k_whole; intro g' L' h' FG' F' N' B' X' T'; (try dsimp only); (try k_fold))))
local macro_rules | `(tactic| walk_at "getAttr ref") => `(tactic| (k_here; k_dflt (refine' get_clsS ?k1 ?k2 ?k3 ?k4 ?k5 ?k6 ?k7 ?k8 ?k9 ?k10 ?_; (case k1 => k_asm); (case k2 => k_asm); (case k3 => k_inst); (case k4 => k_is); (case k5 => k_is); (case k6 => k_is); (case k7 => k_is); (case k8 => k_is); (case k9 => k_handed); (case k10 => decide +kernel); k_whole)))
local macro_rules | `(tactic| walk_at "getAttr ref") => `(tactic| (k_here; ((first | (with_reducible show wpAny _ _ (getAttr _ (PySem.Str.ofString "type") _) _ _ _) | (with_reducible show wpAny _ _ (getAttr _ (PySem.Str.ofString "subtype") _) _ _ _) | (with_reducible show wpAny _ _ (getAttr _ (PySem.Str.ofString "value") _) _ _ _))); k_dflt (refine' get_slot ?k1 ?k2 ?k3 ?k4 ?k5 ?k6 ?k7 ?k8 ?k9 ?k10 ?k11 ?_; (case k1 => k_asm); (case k2 => k_asm); (case k3 => k_inst); (case k4 => k_is); (case k5 => k_is); (case k6 => k_is); (case k7 => k_is); (case k8 => k_is); (case k9 => k_is); (case k10 => k_slotget); (case k11 => k_handed); k_whole)))
local macro_rules | `(tactic| walk_at "getAttr ref") => `(tactic| (k_here; (with_reducible show wpAny _ _ (getAttr (Value.ref 101) _ _) _ _ _); k_dflt (refine' cls_val ?k1 ?k2 ?k3 ?k4 ?k5 ?k6 ?_; (case k1 => k_asm); (case k2 => k_asm); (case k3 => k_is); (case k4 => k_is); (case k5 => k_is); (case k6 => k_handed); k_whole)))
local macro_rules | `(tactic| walk_at "getMethod ref") => `(tactic| (k_here; k_dflt (refine' method_cmS ?k1 ?k2 ?k3 ?k4 ?k5 ?k6 ?k7 ?k8 ?k9 ?k10 ?k11 ?k12 ?k13 ?_; (case k1 => k_asm); (case k2 => k_asm); (case k3 => k_asm); (case k4 => k_inst); (case k5 => k_is); (case k6 => k_is); (case k7 => k_is); (case k8 => k_is); (case k9 => k_is); (case k10 => k_is); (case k11 => k_is); (case k12 => decide +kernel); (case k13 => k_is); k_whole; intro q' h' F' N' l1; (try k_lt l1); (try k_sweep))))
local macro_rules | `(tactic| walk_at "own_mem") => `(tactic| first | with_reducible exact List.mem_cons_self | (with_reducible refine List.mem_cons_of_mem _ ?_; walk_at "own_mem") | with_reducible assumption)
local macro_rules | `(tactic| k_mem) => `(tactic| walk_at "own_mem")
local macro_rules | `(tactic| walk_at "callWith ref") => `(tactic| (k_here; k_dflt (refine' callWith_MKW ?k1 ?k2 ?k3 ?k4 ?k5 ?_; (case k1 => k_asm); (case k2 => k_asm); (case k3 => k_mem); (case k4 => k_is); (case k5 => exact rfl); k_whole)))
local macro_rules | `(tactic| k_all) => `(tactic| (intro p9 hp9; refine neN ?_; first | (have q9 := ktn_ltOf (by first | assumption | exact And.right (by assumption) | exact And.right (And.right (by assumption)) | exact And.right (And.right (And.right (by assumption)))) p9 hp9; (try dsimp only at q9 ⊢); omega) | (have q9 := (by assumption : ∀ p ∈ _, @LT.lt Nat _ p.1 _) p9 hp9; (try dsimp only at q9 ⊢); omega)))
local macro_rules | `(tactic| walk_at "call ref") => `(tactic| (k_here; (with_reducible show wpAny _ _ (call (Value.ref 101) [_, _, _]) _ _ _); k_dflt (refine' weaken (c_new ?kB ?kF ?kX ?kN ?kT ?kf ?kk ?_) ?h1 ?h2 ?h3 ?h4 ?h5; (case h3 => exact fun _ h => h); (case kB => k_asm); (case kF => k_asm); (case kX => k_asm); (case kN => k_asm); (case kT => k_asm); (case kf => exact rfl); (case kk => exact rfl); (case h1 => exact rfl); (case h2 => exact Nat.le_of_ble_eq_true rfl); (case h4 => exact rfl); (case h5 => exact Nat.le_of_ble_eq_true rfl); k_whole; intro y' d' h' tk' F' N' l1 l2; (try k_lt l1); (try k_lt2 l2); (try k_sweep))))
local macro_rules | `(tactic| walk_at "subscriptTail Name UnaryOp str int") => `(tactic| (refine item_strE (by assumption) (by decide) (by omega) (by omega) ?_))
local macro_rules | `(tactic| walk_at "compareOp In str str") => `(tactic| (refine in_strE (by assumption) ?_; (try dsimp only [Bool.not_true, Bool.not_false])))
local macro_rules | `(tactic| walk_at "sub_all") => `(tactic| first | (refine List.forall_mem_cons.mpr ⟨by k_mem, ?_⟩; walk_at "sub_all") | (intro p9 hp9; k_mem))
local macro_rules | `(tactic| walk_at "lt_all") => `(tactic| first | assumption | exact ktn_ltOf (by first | assumption | exact And.right (by assumption) | exact And.right (And.right (by assumption)) | exact And.right (And.right (And.right (by assumption)))))
local macro_rules | `(tactic| walk_at "subscriptTail Name Slice str ref") => `(tactic| ((with_reducible show wpAny _ _ (subscriptTail _ (Expr.Slice (some _) (some _) none _) _ _) _ _ _); (with_reducible rename Fr _ _ _ _ => F'); (with_reducible rename News _ _ _ _ => N'); (refine slice_strE (hsz := ?hsz) (s := ⟨_, _, _, _, _⟩) F' N' (by omega) (by first | omega | (have z9 := chunk_lt (by assumption) (by decide +kernel); omega)) rfl ?_); (case hsz => exact Nat.le_trans (by assumption) (by rw [sizeLine_eq]; decide)); intro _ _ _ _ _))
local macro_rules | `(tactic| walk_at "subscriptTail Name Slice str ref") => `(tactic| ((with_reducible show wpAny _ _ (subscriptTail _ (Expr.Slice none (some _) none _) _ _) _ _ _); (with_reducible rename Fr _ _ _ _ => F'); (with_reducible rename News _ _ _ _ => N'); (refine slice_strH (hsz := ?hsz) (s := ⟨_, _, _, _, _⟩) F' N' ?_); (case hsz => exact Nat.le_trans (by assumption) (by rw [sizeLine_eq]; decide)); intro _ _ _ _ _))
local macro_rules | `(tactic| walk_at "call ref") => `(tactic| (k_here; (with_reducible show wpAny _ _ (call (Value.ref 135) _) _ _ _); k_dflt (refine' weaken (c_number ?kB ?kF ?kX ?kN ?kT ?kf ?kk ?z1 ?_) ?h1 ?h2 ?h3 ?h4 ?h5; (case h3 => exact fun _ h => h); (case kB => k_asm); (case kF => k_asm); (case kX => k_asm); (case kN => k_asm); (case kT => k_asm); (case kf => exact rfl); (case kk => exact rfl); (case z1 => assumption); (case h1 => exact rfl); (case h2 => exact Nat.le_of_ble_eq_true rfl); (case h4 => exact rfl); (case h5 => exact Nat.le_of_ble_eq_true rfl); k_whole; intro b' h' tk' e' F' N'; subst e'; (try k_sweep))))
def subOf (v : Str) : Str := if (chunkI v 0 == Str.ofString "\"") = true then Str.ofString "TEXT" else if (chunkI v 0 == Str.ofString "#") = true then Str.ofString "ERROR" else
  if (v == Str.ofString "TRUE") = true then Str.ofString "LOGICAL" else if (v == Str.ofString "FALSE") = true then Str.ofString "LOGICAL" else if numAt v (signAt v 0) = true then Str.ofString "NUMBER" else Str.ofString "RANGE"
theorem ifF' {α : Type} {b : Bool} {x y : α} (h : b = false) : (if b = true then x else y) = y := by rw [h]; rfl
set_option maxHeartbeats 8000000 in
theorem c_subtype {w : World} {mean : ExcName → Option Value} {mg mb : Str → Option Value}
   {v : Str} {t : Tok}
   {env : Env} {outer : List Env} {A₀ : Around} {base h₀ : Heap} {L : Addr} {m : Str → Option Value} {news : List (Addr × Obj)} {s : Shared} {Q E : Value → Shared → Prop}
    (B : Below A₀ base outer h₀) (F : Fr h₀ L s.heap m) (X : (Mine.hd.heap_39 w.params).In h₀) (N : News h₀ L s.heap news) (T : TopP mean mg mb h₀) (hf : env.frame = some L) (hk : env.scope.kind = .function)
    (hs2 : v.length ≤ 16)
    (hret : ∀ (u : Tok) (h' : Heap) (tk' : Nat), Fr h₀ L h' m → News h₀ L h' news → Q (.str (subOf v) u) { s with heap := h', toks := tk' }) :
      wpAny (model PySem.Challenge.pw_fh5003_01 w) (atA 500 1500 env outer) (call (.ref 142) [.str v t]) Q E s := by
  refine wpAny_call ?_
  walk_at "enter_def"
  k_steps
  all_goals (first
    | (have e9 : subOf v = Str.ofString "TEXT" := by (unfold subOf; repeat (first | rw [if_pos (by assumption)] | rw [ifF' (by assumption)])))
    | (have e9 : subOf v = Str.ofString "ERROR" := by (unfold subOf; repeat (first | rw [if_pos (by assumption)] | rw [ifF' (by assumption)])))
    | (have e9 : subOf v = Str.ofString "LOGICAL" := by (unfold subOf; repeat (first | rw [if_pos (by assumption)] | rw [ifF' (by assumption)])))
    | (have e9 : subOf v = Str.ofString "NUMBER" := by (unfold subOf; repeat (first | rw [if_pos (by assumption)] | rw [ifF' (by assumption)])))
    | (have e9 : subOf v = Str.ofString "RANGE" := by (unfold subOf; repeat (first | rw [if_pos (by assumption)] | rw [ifF' (by assumption)]))))
  all_goals (rw [← e9]; refine hret _ _ _ ?_ ?_ <;> k_asm)
end

section -- S7
local macro_rules | `(tactic| walk_at "enter_def") => `(tactic| (k_dflt (refine' code_def ?k1 ?k2 ?k3 ?k4 ?k5 ?kA ?kF ?kK ?k6 ?k7 ?k8 ?k9 ?kB ?_ ?c2 ?c3 ?c4 ?c5; (case kA => exact rfl); (case kF => assumption); (case kK => assumption); (case k1 => k_asm); (case k2 => k_asm); (case k3 => k_asm); (case k4 => k_asm); (case k5 => k_asm); (case k6 => k_is); (case k7 => k_is); (case k8 => exact Nat.le_of_ble_eq_true rfl); (case k9 => first | exact BindsTo.of_eq rfl | exact binds_K (by k_in) rfl (by k_is) rfl rfl rfl); (case c5 => decide); (case kB => exact locs rfl); (case c2 => exact rfl); (case c3 => exact rfl); (case c4 => exact rfl); k_whole; intro g' L' h' FG' F' N' B' X' T'; (try dsimp only); (try k_fold))))
local macro_rules | `(tactic| walk_at "getAttr ref") => `(tactic| (k_here; k_dflt (refine' get_clsS ?k1 ?k2 ?k3 ?k4 ?k5 ?k6 ?k7 ?k8 ?k9 ?k10 ?_; (case k1 => k_asm); (case k2 => k_asm); (case k3 => k_inst); (case k4 => k_is); (case k5 => k_is); (case k6 => k_is); (case k7 => k_is); (case k8 => k_is); (case k9 => k_handed); (case k10 => decide +kernel); k_whole)))
local macro_rules | `(tactic| walk_at "getAttr ref") => `(tactic| (k_here; ((first | (with_reducible show wpAny _ _ (getAttr _ (PySem.Str.ofString "type") _) _ _ _) | (with_reducible show wpAny _ _ (getAttr _ (PySem.Str.ofString "subtype") _) _ _ _) | (with_reducible show wpAny _ _ (getAttr _ (PySem.Str.ofString "value") _) _ _ _))); k_dflt (refine' get_slot ?k1 ?k2 ?k3 ?k4 ?k5 ?k6 ?k7 ?k8 ?k9 ?k10 ?k11 ?_; (case k1 => k_asm); (case k2 => k_asm); (case k3 => k_inst); (case k4 => k_is); (case k5 => k_is); (case k6 => k_is); (case k7 => k_is); (case k8 => k_is); (case k9 => k_is); (case k10 => k_slotget); (case k11 => k_handed); k_whole)))
local macro_rules | `(tactic| walk_at "getAttr ref") => `(tactic| (k_here; (with_reducible show wpAny _ _ (getAttr (Value.ref 101) _ _) _ _ _); k_dflt (refine' cls_val ?k1 ?k2 ?k3 ?k4 ?k5 ?k6 ?_; (case k1 => k_asm); (case k2 => k_asm); (case k3 => k_is); (case k4 => k_is); (case k5 => k_is); (case k6 => k_handed); k_whole)))
local macro_rules | `(tactic| walk_at "getMethod ref") => `(tactic| (k_here; k_dflt (refine' method_cmS ?k1 ?k2 ?k3 ?k4 ?k5 ?k6 ?k7 ?k8 ?k9 ?k10 ?k11 ?k12 ?k13 ?_; (case k1 => k_asm); (case k2 => k_asm); (case k3 => k_asm); (case k4 => k_inst); (case k5 => k_is); (case k6 => k_is); (case k7 => k_is); (case k8 => k_is); (case k9 => k_is); (case k10 => k_is); (case k11 => k_is); (case k12 => decide +kernel); (case k13 => k_is); k_whole; intro q' h' F' N' l1; (try k_lt l1); (try k_sweep))))
local macro_rules | `(tactic| walk_at "own_mem") => `(tactic| first | with_reducible exact List.mem_cons_self | (with_reducible refine List.mem_cons_of_mem _ ?_; walk_at "own_mem") | with_reducible assumption)
local macro_rules | `(tactic| k_mem) => `(tactic| walk_at "own_mem")
local macro_rules | `(tactic| walk_at "callWith ref") => `(tactic| (k_here; k_dflt (refine' callWith_MKW ?k1 ?k2 ?k3 ?k4 ?k5 ?_; (case k1 => k_asm); (case k2 => k_asm); (case k3 => k_mem); (case k4 => k_is); (case k5 => exact rfl); k_whole)))
local macro_rules | `(tactic| k_all) => `(tactic| (intro p9 hp9; refine neN ?_; first | (have q9 := ktn_ltOf (by first | assumption | exact And.right (by assumption) | exact And.right (And.right (by assumption)) | exact And.right (And.right (And.right (by assumption)))) p9 hp9; (try dsimp only at q9 ⊢); omega) | (have q9 := (by assumption : ∀ p ∈ _, @LT.lt Nat _ p.1 _) p9 hp9; (try dsimp only at q9 ⊢); omega)))
local macro_rules | `(tactic| walk_at "call ref") => `(tactic| (k_here; (with_reducible show wpAny _ _ (call (Value.ref 101) [_, _, _]) _ _ _); k_dflt (refine' weaken (c_new ?kB ?kF ?kX ?kN ?kT ?kf ?kk ?_) ?h1 ?h2 ?h3 ?h4 ?h5; (case h3 => exact fun _ h => h); (case kB => k_asm); (case kF => k_asm); (case kX => k_asm); (case kN => k_asm); (case kT => k_asm); (case kf => exact rfl); (case kk => exact rfl); (case h1 => exact rfl); (case h2 => exact Nat.le_of_ble_eq_true rfl); (case h4 => exact rfl); (case h5 => exact Nat.le_of_ble_eq_true rfl); k_whole; intro y' d' h' tk' F' N' l1 l2; (try k_lt l1); (try k_lt2 l2); (try k_sweep))))
local macro_rules | `(tactic| walk_at "subscriptTail Name UnaryOp str int") => `(tactic| (refine item_strE (by assumption) (by decide) (by omega) (by omega) ?_))
local macro_rules | `(tactic| walk_at "compareOp In str str") => `(tactic| (refine in_strE (by assumption) ?_; (try dsimp only [Bool.not_true, Bool.not_false])))
local macro_rules | `(tactic| walk_at "sub_all") => `(tactic| first | (refine List.forall_mem_cons.mpr ⟨by k_mem, ?_⟩; walk_at "sub_all") | (intro p9 hp9; k_mem))
local macro_rules | `(tactic| walk_at "lt_all") => `(tactic| first | assumption | exact ktn_ltOf (by first | assumption | exact And.right (by assumption) | exact And.right (And.right (by assumption)) | exact And.right (And.right (And.right (by assumption)))))
local macro_rules | `(tactic| walk_at "getMethod ref") => `(tactic| (k_here; (with_reducible show wpAny _ _ (getMethod (Value.ref 36) _ _) _ _ _); k_dflt (refine' pat_method ?k1 ?k2 ?_; (case k1 => k_asm); (case k2 => k_asm); k_whole)))
local macro_rules | `(tactic| walk_at "call builtin:re.Pattern.match") => `(tactic| (k_here; k_dflt (refine' match_K true ?k1 ?k2 ?k3 ?k4 ?k5 ?_; (case k1 => k_asm); (case k2 => k_asm); (case k3 => k_asm); (case k4 => (have hz9 := (by assumption : _ ≤ (16 : Nat)); exact Nat.le_trans hz9 (by decide))); (case k5 => exact fun A E s Q h => (by assumption : RunIs true _) _ _ A E s Q h); k_whole; intro q' tu' h' a' b' F' N' l1 l2; (try k_lt l1); (try k_lt2 l2); (try k_sweep))))
local macro_rules | `(tactic| walk_at "truthy ref") => `(tactic| (k_here; k_dflt (refine' truthy_match ?k1 ?k2 ?_; (case k1 => k_asm); (case k2 => k_mem); k_whole)))
local macro_rules | `(tactic| walk_at "str_ok") => `(tactic| first | assumption | decide +kernel)
local macro_rules | `(tactic| walk_at "call ref") => `(tactic| (k_here; (with_reducible show wpAny _ _ (call (Value.ref 149) _) _ _ _); k_dflt (refine' weaken (c_three ?kB ?kF ?kX ?kN ?kT ?kf ?kk ?kx ?kd ?z1 ?z2 ?z3 ?_) ?h1 ?h2 ?h3 ?h4 ?h5; (case h3 => exact fun _ h => h); (case kB => k_asm); (case kF => k_asm); (case kX => k_asm); (case kN => k_asm); (case kT => k_asm); (case kf => exact rfl); (case kk => exact rfl); (case kx => k_mem); (case kd => k_mem); (case z1 => exact shaped3 (by walk_at "str_ok") (by walk_at "str_ok") (by walk_at "str_ok")); (case z2 => exact shaped3 (by walk_at "str_ok") (by walk_at "str_ok") (by walk_at "str_ok")); (case z3 => exact eqv3 _ _ _); (case h1 => exact rfl); (case h2 => exact Nat.le_of_ble_eq_true rfl); (case h4 => exact rfl); (case h5 => exact Nat.le_of_ble_eq_true rfl); k_whole; intro h' tk' F' N'; (try k_sweep))))
local macro_rules | `(tactic| walk_at "clo_end") => `(tactic| ((case h3 => exact fun _ h => h); (case kB => k_asm); (case kF => k_asm); (case kX => k_asm); (case kN => k_asm); (case kT => k_asm); (case kf => exact rfl); (case kk => exact rfl); (case kx => k_mem); (case kd => k_mem); (case h1 => exact rfl); (case h2 => exact Nat.le_of_ble_eq_true rfl); (case h4 => exact rfl); (case h5 => exact Nat.le_of_ble_eq_true rfl); k_whole; intro y' d' u1' u2' u3' h' tk' F' N' l1 l2; (try k_lt l1); (try k_lt2 l2); (try k_sweep)))
local macro_rules | `(tactic| walk_at "call ref") => `(tactic| (k_here; (with_reducible show wpAny _ _ (call (Value.ref 87) _) _ _ _); k_dflt (first
  | refine' weaken (clo_FUNC ?kB ?kF ?kX ?kN ?kT ?kf ?kk ?kx ?kd ?_) ?h1 ?h2 ?h3 ?h4 ?h5; walk_at "clo_end"
  | refine' weaken (clo_ARRAY ?kB ?kF ?kX ?kN ?kT ?kf ?kk ?kx ?kd ?_) ?h1 ?h2 ?h3 ?h4 ?h5; walk_at "clo_end"
  | refine' weaken (clo_PAREN ?kB ?kF ?kX ?kN ?kT ?kf ?kk ?kx ?kd ?_) ?h1 ?h2 ?h3 ?h4 ?h5; walk_at "clo_end")))
set_option maxHeartbeats 8000000 in
theorem bar_F {w : World} {mean : ExcName → Option Value} {mg mb : Str → Option Value}
   {v c : Str} {t1 t2 : Tok}
   {cn : Str} {cs : Scope} {a : Addr} {ccd : Value} {base h₀ : Heap} {L : Addr} {m : Str → Option Value} {news : List (Addr × Obj)} {s : Shared} {Q E : Value → Shared → Prop}
    (XB : (Mine.hd.heap_39 w.params).In base) (TB : TopP mean mg mb base) (B : Below callerA base [] h₀) (F : Fr h₀ L s.heap m) (X : (Mine.hd.heap_39 w.params).In h₀) (N : News h₀ L s.heap news) (T : TopP mean mg mb h₀) (hk : cs.kind = .function)
    (hs1 : 1 ≤ v.length) (hs2 : v.length ≤ 16) (hit : Txt.item v (-1) = c) (hc : ([Str.ofString "{", Str.ofString "}", Str.ofString "(", Str.ofString ")"].any fun x => x == c) = false)
    (hret : ∀ (h' : Heap) (tk' : Nat), Fr h₀ L h' m → News h₀ L h' news → Q (.bool true) { s with heap := h', toks := tk' }) :
      wpAny (model PySem.Challenge.pw_fh5003_01 w) (callerA.deeper (envOf cn cs L a ccd)) (call (.ref 156) [.int 0 t1, .str v t2, .bool false]) Q E s := by
  refine wpAny_call ?_
  k_dflt (refine' code_defS0 ?k1 ?k2 ?k3 ?k4 ?k5 ?kA ?k6 ?k7 ?k8 ?k9 ?kB ?_ ?cK ?c2 ?c3 ?c4 ?c5; (case kA => exact rfl); (case k2 => k_asm); (case k1 => k_asm); (case k3 => k_asm); (case k4 => k_asm); (case k5 => k_asm); (case k6 => k_is); (case k7 => k_is); (case k8 => k_room); (case k9 => first | exact BindsTo.of_eq rfl | exact binds_K (by k_in) rfl (by k_is) rfl rfl rfl); (case kB => exact locs rfl); (case cK => assumption); (case c2 => exact rfl); (case c3 => exact rfl); (case c4 => exact rfl); (case c5 => decide); k_whole; intro g' L' h' FG' F' N' B' X' T' D'; (try dsimp only); (try k_lift B'); (try k_fold))
  k_steps
  exact hret _ _ (by k_asm) (cb_drop (by k_asm) (by walk_at "sub_all"))

set_option maxHeartbeats 8000000 in
theorem bar_1 {w : World} {mean : ExcName → Option Value} {mg mb : Str → Option Value}
   {v : Str} {t1 t2 : Tok}
   {cn : Str} {cs : Scope} {a : Addr} {ccd : Value} {base h₀ : Heap} {L : Addr} {m : Str → Option Value} {news : List (Addr × Obj)} {s : Shared} {Q E : Value → Shared → Prop}
    (XB : (Mine.hd.heap_39 w.params).In base) (TB : TopP mean mg mb base) (B : Below callerA base [] h₀) (F : Fr h₀ L s.heap m) (X : (Mine.hd.heap_39 w.params).In h₀) (N : News h₀ L s.heap news) (T : TopP mean mg mb h₀) (hk : cs.kind = .function)
    (hc : ([Str.ofString ",", Str.ofString ";"].any fun x => x == v) = false)
    (hret : ∀ (h' : Heap) (tk' : Nat), Fr h₀ L h' m → News h₀ L h' news → Q (.bool true) { s with heap := h', toks := tk' }) :
      wpAny (model PySem.Challenge.pw_fh5003_01 w) (callerA.deeper (envOf cn cs L a ccd)) (call (.ref 156) [.int 1 t1, .str v t2, .bool false]) Q E s := by
  refine wpAny_call ?_
  k_dflt (refine' code_defS0 ?k1 ?k2 ?k3 ?k4 ?k5 ?kA ?k6 ?k7 ?k8 ?k9 ?kB ?_ ?cK ?c2 ?c3 ?c4 ?c5; (case kA => exact rfl); (case k2 => k_asm); (case k1 => k_asm); (case k3 => k_asm); (case k4 => k_asm); (case k5 => k_asm); (case k6 => k_is); (case k7 => k_is); (case k8 => k_room); (case k9 => first | exact BindsTo.of_eq rfl | exact binds_K (by k_in) rfl (by k_is) rfl rfl rfl); (case kB => exact locs rfl); (case cK => assumption); (case c2 => exact rfl); (case c3 => exact rfl); (case c4 => exact rfl); (case c5 => decide); k_whole; intro g' L' h' FG' F' N' B' X' T' D'; (try dsimp only); (try k_lift B'); (try k_fold))
  k_steps
  exact hret _ _ (by k_asm) (cb_drop (by k_asm) (by walk_at "sub_all"))

set_option maxHeartbeats 8000000 in
theorem bar_2 {w : World} {mean : ExcName → Option Value} {mg mb : Str → Option Value}
   {x dx : Addr} {v ty sb : Str} {t1 u1 u2 u3 : Tok}
   {cn : Str} {cs : Scope} {a : Addr} {ccd : Value} {base h₀ : Heap} {L : Addr} {m : Str → Option Value} {news : List (Addr × Obj)} {s : Shared} {Q E : Value → Shared → Prop}
    (XB : (Mine.hd.heap_39 w.params).In base) (TB : TopP mean mg mb base) (B : Below callerA base [] h₀) (F : Fr h₀ L s.heap m) (X : (Mine.hd.heap_39 w.params).In h₀) (N : News h₀ L s.heap news) (T : TopP mean mg mb h₀) (hk : cs.kind = .function)
    (hx : (x, tokO dx v ty sb u1 u2 u3) ∈ news) (hdx : (dx, dictOf [] 0) ∈ news) (hc : ([Str.ofString "FUNC", Str.ofString "ARRAY", Str.ofString "PAREN"].any fun x => x == ty) = false)
    (hret : ∀ (h' : Heap) (tk' : Nat), Fr h₀ L h' m → News h₀ L h' news → Q (.bool true) { s with heap := h', toks := tk' }) :
      wpAny (model PySem.Challenge.pw_fh5003_01 w) (callerA.deeper (envOf cn cs L a ccd)) (call (.ref 156) [.int 2 t1, .ref x, .bool false]) Q E s := by
  refine wpAny_call ?_
  k_dflt (refine' code_defS0 ?k1 ?k2 ?k3 ?k4 ?k5 ?kA ?k6 ?k7 ?k8 ?k9 ?kB ?_ ?cK ?c2 ?c3 ?c4 ?c5; (case kA => exact rfl); (case k2 => k_asm); (case k1 => k_asm); (case k3 => k_asm); (case k4 => k_asm); (case k5 => k_asm); (case k6 => k_is); (case k7 => k_is); (case k8 => k_room); (case k9 => first | exact BindsTo.of_eq rfl | exact binds_K (by k_in) rfl (by k_is) rfl rfl rfl); (case kB => exact locs rfl); (case cK => assumption); (case c2 => exact rfl); (case c3 => exact rfl); (case c4 => exact rfl); (case c5 => decide); k_whole; intro g' L' h' FG' F' N' B' X' T' D'; (try dsimp only); (try k_lift B'); (try k_fold))
  k_steps
  exact hret _ _ (by k_asm) (cb_drop (by k_asm) (by walk_at "sub_all"))
end

section -- S8
local macro_rules | `(tactic| walk_at "enter_def") => `(tactic| (k_dflt (refine' code_def ?k1 ?k2 ?k3 ?k4 ?k5 ?kA ?kF ?kK ?k6 ?k7 ?k8 ?k9 ?kB ?_ ?c2 ?c3 ?c4 ?c5; (case kA => exact rfl); (case kF => assumption); (case kK => assumption); (case k1 => k_asm); (case k2 => k_asm); (case k3 => k_asm); (case k4 => k_asm); (case k5 => k_asm); (case k6 => k_is); (case k7 => k_is); (case k8 => exact Nat.le_of_ble_eq_true rfl); (case k9 => first | exact BindsTo.of_eq rfl | exact binds_K (by k_in) rfl (by k_is) rfl rfl rfl); (case c5 => decide); (case kB => exact locs rfl); (case c2 => exact rfl); (case c3 => exact rfl); (case c4 => exact rfl); k_whole; intro g' L' h' FG' F' N' B' X' T'; (try dsimp only); (try k_fold))))
local macro_rules | `(tactic| walk_at "getAttr ref") => `(tactic| (k_here; k_dflt (refine' get_clsS ?k1 ?k2 ?k3 ?k4 ?k5 ?k6 ?k7 ?k8 ?k9 ?k10 ?_; (case k1 => k_asm); (case k2 => k_asm); (case k3 => k_inst); (case k4 => k_is); (case k5 => k_is); (case k6 => k_is); (case k7 => k_is); (case k8 => k_is); (case k9 => k_handed); (case k10 => decide +kernel); k_whole)))
local macro_rules | `(tactic| walk_at "getAttr ref") => `(tactic| (k_here; ((first | (with_reducible show wpAny _ _ (getAttr _ (PySem.Str.ofString "type") _) _ _ _) | (with_reducible show wpAny _ _ (getAttr _ (PySem.Str.ofString "subtype") _) _ _ _) | (with_reducible show wpAny _ _ (getAttr _ (PySem.Str.ofString "value") _) _ _ _))); k_dflt (refine' get_slot ?k1 ?k2 ?k3 ?k4 ?k5 ?k6 ?k7 ?k8 ?k9 ?k10 ?k11 ?_; (case k1 => k_asm); (case k2 => k_asm); (case k3 => k_inst); (case k4 => k_is); (case k5 => k_is); (case k6 => k_is); (case k7 => k_is); (case k8 => k_is); (case k9 => k_is); (case k10 => k_slotget); (case k11 => k_handed); k_whole)))
local macro_rules | `(tactic| walk_at "getAttr ref") => `(tactic| (k_here; (with_reducible show wpAny _ _ (getAttr (Value.ref 101) _ _) _ _ _); k_dflt (refine' cls_val ?k1 ?k2 ?k3 ?k4 ?k5 ?k6 ?_; (case k1 => k_asm); (case k2 => k_asm); (case k3 => k_is); (case k4 => k_is); (case k5 => k_is); (case k6 => k_handed); k_whole)))
local macro_rules | `(tactic| walk_at "getMethod ref") => `(tactic| (k_here; k_dflt (refine' method_cmS ?k1 ?k2 ?k3 ?k4 ?k5 ?k6 ?k7 ?k8 ?k9 ?k10 ?k11 ?k12 ?k13 ?_; (case k1 => k_asm); (case k2 => k_asm); (case k3 => k_asm); (case k4 => k_inst); (case k5 => k_is); (case k6 => k_is); (case k7 => k_is); (case k8 => k_is); (case k9 => k_is); (case k10 => k_is); (case k11 => k_is); (case k12 => decide +kernel); (case k13 => k_is); k_whole; intro q' h' F' N' l1; (try k_lt l1); (try k_sweep))))
local macro_rules | `(tactic| walk_at "own_mem") => `(tactic| first | with_reducible exact List.mem_cons_self | (with_reducible refine List.mem_cons_of_mem _ ?_; walk_at "own_mem") | with_reducible assumption)
local macro_rules | `(tactic| k_mem) => `(tactic| walk_at "own_mem")
local macro_rules | `(tactic| walk_at "callWith ref") => `(tactic| (k_here; k_dflt (refine' callWith_MKW ?k1 ?k2 ?k3 ?k4 ?k5 ?_; (case k1 => k_asm); (case k2 => k_asm); (case k3 => k_mem); (case k4 => k_is); (case k5 => exact rfl); k_whole)))
local macro_rules | `(tactic| k_all) => `(tactic| (intro p9 hp9; refine neN ?_; first | (have q9 := ktn_ltOf (by first | assumption | exact And.right (by assumption) | exact And.right (And.right (by assumption)) | exact And.right (And.right (And.right (by assumption)))) p9 hp9; (try dsimp only at q9 ⊢); omega) | (have q9 := (by assumption : ∀ p ∈ _, @LT.lt Nat _ p.1 _) p9 hp9; (try dsimp only at q9 ⊢); omega)))
local macro_rules | `(tactic| walk_at "call ref") => `(tactic| (k_here; (with_reducible show wpAny _ _ (call (Value.ref 101) [_, _, _]) _ _ _); k_dflt (refine' weaken (c_new ?kB ?kF ?kX ?kN ?kT ?kf ?kk ?_) ?h1 ?h2 ?h3 ?h4 ?h5; (case h3 => exact fun _ h => h); (case kB => k_asm); (case kF => k_asm); (case kX => k_asm); (case kN => k_asm); (case kT => k_asm); (case kf => exact rfl); (case kk => exact rfl); (case h1 => exact rfl); (case h2 => exact Nat.le_of_ble_eq_true rfl); (case h4 => exact rfl); (case h5 => exact Nat.le_of_ble_eq_true rfl); k_whole; intro y' d' h' tk' F' N' l1 l2; (try k_lt l1); (try k_lt2 l2); (try k_sweep))))
local macro_rules | `(tactic| walk_at "subscriptTail Name UnaryOp str int") => `(tactic| (refine item_strE (by assumption) (by decide) (by omega) (by omega) ?_))
local macro_rules | `(tactic| walk_at "compareOp In str str") => `(tactic| (refine in_strE (by assumption) ?_; (try dsimp only [Bool.not_true, Bool.not_false])))
local macro_rules | `(tactic| walk_at "sub_all") => `(tactic| first | (refine List.forall_mem_cons.mpr ⟨by k_mem, ?_⟩; walk_at "sub_all") | (intro p9 hp9; k_mem))
local macro_rules | `(tactic| walk_at "lt_all") => `(tactic| first | assumption | exact ktn_ltOf (by first | assumption | exact And.right (by assumption) | exact And.right (And.right (by assumption)) | exact And.right (And.right (And.right (by assumption)))))
local macro_rules | `(tactic| walk_at "getMethod ref") => `(tactic| (k_here; (with_reducible show wpAny _ _ (getMethod (Value.ref 36) _ _) _ _ _); k_dflt (refine' pat_method ?k1 ?k2 ?_; (case k1 => k_asm); (case k2 => k_asm); k_whole)))
local macro_rules | `(tactic| walk_at "call builtin:re.Pattern.match") => `(tactic| (k_here; k_dflt (refine' match_K true ?k1 ?k2 ?k3 ?k4 ?k5 ?_; (case k1 => k_asm); (case k2 => k_asm); (case k3 => k_asm); (case k4 => (have hz9 := (by assumption : _ ≤ (16 : Nat)); exact Nat.le_trans hz9 (by decide))); (case k5 => exact fun A E s Q h => (by assumption : RunIs true _) _ _ A E s Q h); k_whole; intro q' tu' h' a' b' F' N' l1 l2; (try k_lt l1); (try k_lt2 l2); (try k_sweep))))
local macro_rules | `(tactic| walk_at "truthy ref") => `(tactic| (k_here; k_dflt (refine' truthy_match ?k1 ?k2 ?_; (case k1 => k_asm); (case k2 => k_mem); k_whole)))
local macro_rules | `(tactic| walk_at "str_ok") => `(tactic| first | assumption | decide +kernel)
local macro_rules | `(tactic| walk_at "call ref") => `(tactic| (k_here; (with_reducible show wpAny _ _ (call (Value.ref 149) _) _ _ _); k_dflt (refine' weaken (c_three ?kB ?kF ?kX ?kN ?kT ?kf ?kk ?kx ?kd ?z1 ?z2 ?z3 ?_) ?h1 ?h2 ?h3 ?h4 ?h5; (case h3 => exact fun _ h => h); (case kB => k_asm); (case kF => k_asm); (case kX => k_asm); (case kN => k_asm); (case kT => k_asm); (case kf => exact rfl); (case kk => exact rfl); (case kx => k_mem); (case kd => k_mem); (case z1 => exact shaped3 (by walk_at "str_ok") (by walk_at "str_ok") (by walk_at "str_ok")); (case z2 => exact shaped3 (by walk_at "str_ok") (by walk_at "str_ok") (by walk_at "str_ok")); (case z3 => exact eqv3 _ _ _); (case h1 => exact rfl); (case h2 => exact Nat.le_of_ble_eq_true rfl); (case h4 => exact rfl); (case h5 => exact Nat.le_of_ble_eq_true rfl); k_whole; intro h' tk' F' N'; (try k_sweep))))
local macro_rules | `(tactic| walk_at "clo_end") => `(tactic| ((case h3 => exact fun _ h => h); (case kB => k_asm); (case kF => k_asm); (case kX => k_asm); (case kN => k_asm); (case kT => k_asm); (case kf => exact rfl); (case kk => exact rfl); (case kx => k_mem); (case kd => k_mem); (case h1 => exact rfl); (case h2 => exact Nat.le_of_ble_eq_true rfl); (case h4 => exact rfl); (case h5 => exact Nat.le_of_ble_eq_true rfl); k_whole; intro y' d' u1' u2' u3' h' tk' F' N' l1 l2; (try k_lt l1); (try k_lt2 l2); (try k_sweep)))
local macro_rules | `(tactic| walk_at "call ref") => `(tactic| (k_here; (with_reducible show wpAny _ _ (call (Value.ref 87) _) _ _ _); k_dflt (first
  | refine' weaken (clo_FUNC ?kB ?kF ?kX ?kN ?kT ?kf ?kk ?kx ?kd ?_) ?h1 ?h2 ?h3 ?h4 ?h5; walk_at "clo_end"
  | refine' weaken (clo_ARRAY ?kB ?kF ?kX ?kN ?kT ?kf ?kk ?kx ?kd ?_) ?h1 ?h2 ?h3 ?h4 ?h5; walk_at "clo_end"
  | refine' weaken (clo_PAREN ?kB ?kF ?kX ?kN ?kT ?kf ?kk ?kx ?kd ?_) ?h1 ?h2 ?h3 ?h4 ?h5; walk_at "clo_end")))
local macro_rules | `(tactic| walk_at "call builtin:re.Pattern.match") => `(tactic| (k_here; k_dflt (refine' match_K false ?k1 ?k2 ?k3 ?k4 ?k5 ?_; (case k1 => k_asm); (case k2 => k_asm); (case k3 => k_asm); (case k4 => first | decide | (have hz9 := (by assumption : _ ≤ (16 : Nat)); exact Nat.le_trans hz9 (by decide))); (case k5 => exact fun A E s Q h => (by first | assumption | exact run_open | exact run_curl | exact run_lruc : RunIs false _) _ _ A E s Q h); k_whole)))
set_option maxHeartbeats 8000000 in
theorem bar_T {w : World} {mean : ExcName → Option Value} {mg mb : Str → Option Value}
   {v c : Str} {t1 t2 : Tok}
   {cn : Str} {cs : Scope} {a : Addr} {ccd : Value} {base h₀ : Heap} {L : Addr} {m : Str → Option Value} {news : List (Addr × Obj)} {s : Shared} {Q E : Value → Shared → Prop}
    (XB : (Mine.hd.heap_39 w.params).In base) (TB : TopP mean mg mb base) (B : Below callerA base [] h₀) (F : Fr h₀ L s.heap m) (X : (Mine.hd.heap_39 w.params).In h₀) (N : News h₀ L s.heap news) (T : TopP mean mg mb h₀) (hk : cs.kind = .function)
    (hs1 : 1 ≤ v.length) (hs2 : v.length ≤ 16) (hit : Txt.item v (-1) = c) (hc : ([Str.ofString "{", Str.ofString "}", Str.ofString "(", Str.ofString ")"].any fun x => x == c) = true) (hrun : RunIs false v)
    (hret : ∀ (h' : Heap) (tk' : Nat), Fr h₀ L h' m → News h₀ L h' news → Q (.bool true) { s with heap := h', toks := tk' }) :
      wpAny (model PySem.Challenge.pw_fh5003_01 w) (callerA.deeper (envOf cn cs L a ccd)) (call (.ref 156) [.int 0 t1, .str v t2, .bool true]) Q E s := by
  refine wpAny_call ?_
  k_dflt (refine' code_defS0 ?k1 ?k2 ?k3 ?k4 ?k5 ?kA ?k6 ?k7 ?k8 ?k9 ?kB ?_ ?cK ?c2 ?c3 ?c4 ?c5; (case kA => exact rfl); (case k2 => k_asm); (case k1 => k_asm); (case k3 => k_asm); (case k4 => k_asm); (case k5 => k_asm); (case k6 => k_is); (case k7 => k_is); (case k8 => k_room); (case k9 => first | exact BindsTo.of_eq rfl | exact binds_K (by k_in) rfl (by k_is) rfl rfl rfl); (case kB => exact locs rfl); (case cK => assumption); (case c2 => exact rfl); (case c3 => exact rfl); (case c4 => exact rfl); (case c5 => decide); k_whole; intro g' L' h' FG' F' N' B' X' T' D'; (try dsimp only); (try k_lift B'); (try k_fold))
  k_steps
  exact hret _ _ (by k_asm) (cb_drop (by k_asm) (by walk_at "sub_all"))
end

section -- FM
section
open Builtin Builtin.Str
theorem field_man {prog : Program} {w : World} {A : Around} {E : Value → Shared → Prop} {s : Shared} {id : String} {a : Array Value} {byName : PySem.Str → Sem Value} {name : List Nat} {i : Nat} {v : Value} {num : Numbering} {Q : Value × Numbering → Shared → Prop}
    (hm : (name = [48] ∧ i = 0) ∨ (name = [49] ∧ i = 1) ∨ (name = [50] ∧ i = 2)) (hn : num = .unset ∨ num = .manual) (ha : a[i]? = some v)
    (h : Q (v, .manual) s) : wpAny (model prog w) A (fieldObject id (some a) byName name num) Q E s := by
  rcases hm with ⟨rfl, rfl⟩ | ⟨rfl, rfl⟩ | ⟨rfl, rfl⟩ <;> rcases hn with rfl | rfl <;> (
    unfold fieldObject
    refine wpAny_bind (wpAny_of_eq (a := some _) rfl ?_)
    refine wpAny_bind (wpAny_of_eq (a := (some _, .manual)) rfl ?_)
    simp only [ha, pure_bind]
    rw [KPc.range_list]
    exact wpAny_bind (wpAny_pure (wpAny_pure h)))
end
local macro_rules | `(tactic| kfm_field) => `(tactic| (
  refine wpAny_bind (field_man (by first | exact Or.inl ⟨rfl, rfl⟩ | exact Or.inr (Or.inl ⟨rfl, rfl⟩) | exact Or.inr (Or.inr ⟨rfl, rfl⟩)) (by first | exact Or.inl rfl | exact Or.inr rfl) (by rfl) ?_)
  refine wpAny_bind (wpAny_holding (wpAny_of_eq (a := _) rfl ?_))
  kpc_if
  refine wpAny_bind (wpAny_pure ?_)
  kfm_val
  refine wpAny_bind (wpAny_of_eq (a := some _) rfl ?_)
  refine wpAny_pure ?_
  refine KFm.after_field (by kpc_g) (by kpc_text) (by kpc_obj) (by first | assumption | kfm_len) (by kpc_obj) (by kfm_cat2) (by kfm_rest) ?_
  intro _ _))
set_option maxHeartbeats 4000000 in
theorem fmt3 {prog : Program} {w : World} {A : Around} {E : Value → Shared → Prop} {s : Shared} {Q : Value → Shared → Prop} {a b c : PySem.Str} {t t1 t2 t3 : Tok} (ha : a.length ≤ 16) (hb : b.length ≤ 16) (hc : c.length ≤ 16)
    (h : ∀ t' k, Q (.str (((((a ++ Str.ofString " ") ++ b) ++ Str.ofString " ") ++ c) ++ Str.ofString ":") t') { s with toks := k }) :
    wpAny (model prog w) A (call (.builtin "str.format") [.str (Str.ofString "{0} {1} {2}:") t, .str a t1, .str b t2, .str c t3]) Q E s := by
  refine' KFm.call_k ?kfmF ?kfmg ?kfmm ?_
  case kfmF => kfm_eq
  case kfmg => exact KFm.args_4 _ _ _ _
  case kfmm =>
    apply KPc.meets_of
    intro _ _ _ _ _ _ _
    unfold Builtin.«str.format»
    refine wpAny_bind (wpAny_of_eq (a := (_, _, _)) rfl ?_)
    refine wpAny_bind ?_
    unfold Builtin.Str.buildString
    refine wpAny_bind ?_
    rw [KPc.range_list]
    refine KFm.start ?_
    intro _ _
    refine KPc.turn ?_
    kpc_if
    kpc_check
    kfm_field
    kfm_turns
  exact h
end

section -- PL2
def okC (c : Nat) : Bool := decide (33 ≤ c) && decide (c < 127) && !(c == 95) && !(c == 110) && !(c == 78)
theorem okC_lt {c : Nat} (h : okC c = true) : c < 127 := by
  simp only [okC, Bool.and_eq_true, decide_eq_true_eq] at h; omega
theorem ch_dig : ∀ c : Nat, c < 127 → (Char.ofNat c).isDigit = isFig c := by decide +kernel
theorem ch_space : ∀ c : Nat, c < 127 → okC c = true → Float64.isSpace (Char.ofNat c) = false := by decide +kernel
theorem ch_us : ∀ c : Nat, c < 127 → okC c = true → Char.ofNat c ≠ '_' := by decide +kernel
theorem ch_low : ∀ c : Nat, c < 127 → okC c = true → (Char.ofNat c).toLower ≠ 'n' := by decide +kernel
theorem ch_minus : ∀ c : Nat, c < 127 → (Char.ofNat c = '-' ↔ c = 45) := by decide +kernel
theorem ch_plus : ∀ c : Nat, c < 127 → (Char.ofNat c = '+' ↔ c = 43) := by decide +kernel
theorem ch_dot : ∀ c : Nat, c < 127 → (Char.ofNat c = '.' ↔ c = 46) := by decide +kernel
theorem ch_e : ∀ c : Nat, c < 127 → (Char.ofNat c = 'e' ↔ c = 101) := by decide +kernel
theorem ch_E : ∀ c : Nat, c < 127 → (Char.ofNat c = 'E' ↔ c = 69) := by decide +kernel
def AllOk (l : List Nat) : Prop := ∀ c ∈ l, okC c = true
theorem AllOk.tail {c : Nat} {l : List Nat} (h : AllOk (c :: l)) : AllOk l := fun x hx => h x (List.mem_cons_of_mem _ hx)
theorem AllOk.head {c : Nat} {l : List Nat} (h : AllOk (c :: l)) : okC c = true := h c List.mem_cons_self
theorem AllOk.drop {l : List Nat} (h : AllOk l) (n : Nat) : AllOk (l.drop n) := fun x hx => h x (List.mem_of_mem_drop hx)
def dropSign : List Nat → List Nat
  | [] => []
  | c :: r => if c = 45 ∨ c = 43 then r else c :: r
theorem dropSign_cons (c : Nat) (r : List Nat) : dropSign (c :: r) = if c = 45 ∨ c = 43 then r else c :: r := rfl
theorem dropSign_ok {l : List Nat} (h : AllOk l) : AllOk (dropSign l) := by
  cases l with
  | nil => exact h
  | cons c r =>
    rw [dropSign_cons]
    split
    · exact h.tail
    · exact h
theorem readSign_eq {l : List Nat} (h : AllOk l) : (Float64.readSign (l.map Char.ofNat)).2 = (dropSign l).map Char.ofNat := by
  cases l with
  | nil => rfl
  | cons c r =>
    have hl := okC_lt h.head
    have h1 := ch_minus c hl
    have h2 := ch_plus c hl
    simp only [List.map_cons]
    rw [dropSign_cons]
    unfold Float64.readSign
    split
    · rename_i heq
      obtain ⟨ha, rfl⟩ := List.cons.inj heq
      rw [if_pos (Or.inl (h1.mp ha))]
    · rename_i heq
      obtain ⟨ha, rfl⟩ := List.cons.inj heq
      rw [if_pos (Or.inr (h2.mp ha))]
    · rename_i n1 n2
      rw [if_neg]
      · rfl
      · rintro (rfl | rfl)
        · exact n1 _ rfl
        · exact n2 _ rfl
theorem more_eq : ∀ {l : List Nat}, AllOk l → Float64.moreDigits (l.map Char.ofNat) = ((l.takeWhile isFig).map Char.ofNat, (l.dropWhile isFig).map Char.ofNat)
  | [], _ => rfl
  | c :: r, h => by
    have hl := okC_lt h.head
    have ih := more_eq h.tail
    have hu := ch_us c hl h.head
    have hd := ch_dig c hl
    simp only [List.map_cons]
    unfold Float64.moreDigits
    split
    · rename_i heq
      exact absurd (List.cons.inj heq).1 hu
    · rename_i heq
      obtain ⟨rfl, rfl⟩ := List.cons.inj heq
      rw [hd, ih]
      cases hf : isFig c <;> simp [hf]
    · rename_i heq; cases heq
theorem run_eq {l : List Nat} (h : AllOk l) : Float64.digitRun (l.map Char.ofNat) = ((l.takeWhile isFig).map Char.ofNat, (l.dropWhile isFig).map Char.ofNat) := by
  cases l with
  | nil => rfl
  | cons c r =>
    have hd := ch_dig c (okC_lt h.head)
    simp only [List.map_cons]
    unfold Float64.digitRun
    simp only [hd, more_eq h.tail]
    cases hf : isFig c <;> simp [hf]
theorem special_none {l : List Nat} (h : AllOk l) : Float64.readSpecial? (l.map Char.ofNat) = none := by
  have hn : ∀ t : List Nat, AllOk t → Float64.dropPrefix? "inf" (t.map Char.ofNat) = none ∧ Float64.dropPrefix? "nan" (t.map Char.ofNat) = none := by
    intro t ht
    have key : ∀ k : Nat, 'n' ∉ ((t.map Char.ofNat).take k).map Char.toLower := by
      intro k hk
      obtain ⟨x, hx, hxe⟩ := List.mem_map.mp hk
      obtain ⟨c, hc, rfl⟩ := List.mem_map.mp (List.mem_of_mem_take hx)
      exact ch_low c (okC_lt (ht c hc)) (ht c hc) hxe
    constructor
    · unfold Float64.dropPrefix?
      rw [if_neg]
      intro q
      rw [beq_iff_eq] at q
      exact key "inf".length (by rw [q]; decide)
    · unfold Float64.dropPrefix?
      rw [if_neg]
      intro q
      rw [beq_iff_eq] at q
      exact key "nan".length (by rw [q]; decide)
  unfold Float64.readSpecial?
  have e := readSign_eq h
  generalize Float64.readSign (l.map Char.ofNat) = p at e
  obtain ⟨n, t⟩ := p
  simp only at e
  subst e
  have := hn _ (dropSign_ok h)
  simp only [this.1, this.2, Option.map_none]
def expOk (l : List Nat) : Bool := !((dropSign l).takeWhile isFig).isEmpty && ((dropSign l).dropWhile isFig).isEmpty
def endOk (l : List Nat) : Bool := match l with
  | [] => true
  | c :: r => if c = 101 ∨ c = 69 then expOk r else false
def accepts (l : List Nat) : Bool :=
  let l1 := dropSign l
  let s1 := l1.dropWhile isFig
  match s1 with
  | [] => if (l1.takeWhile isFig).isEmpty = true then false else endOk s1
  | c :: r => if c = 46 then (if ((l1.takeWhile isFig).isEmpty && (r.takeWhile isFig).isEmpty) = true then false else endOk (r.dropWhile isFig))
    else (if (l1.takeWhile isFig).isEmpty = true then false else endOk s1)
theorem dropWhile_none {l : List Nat} {p : Char → Bool} (h : ∀ c ∈ l, p (Char.ofNat c) = false) : (l.map Char.ofNat).dropWhile p = l.map Char.ofNat := by
  cases l with
  | nil => rfl
  | cons c r => rw [List.map_cons, List.dropWhile_cons_of_neg (by rw [h c List.mem_cons_self]; decide)]
theorem exp_eq {l : List Nat} (h : AllOk l) (c : Nat) (k : Int) (neg : Bool) : (match Float64.readSign (l.map Char.ofNat) with
    | (eneg, r) => match Float64.digitRun r with
      | (d :: ds, []) => some (Float64.ofDecimal neg c (Float64.sgn eneg (Float64.natOf 10 (d :: ds)) - k))
      | _ => none).isSome = expOk l := by
  have e := readSign_eq h
  generalize Float64.readSign (l.map Char.ofNat) = p at e
  obtain ⟨eneg, t⟩ := p
  simp only at e
  subst e
  simp only [run_eq (dropSign_ok h)]
  unfold expOk
  cases h1 : (dropSign l).takeWhile isFig with
  | nil => simp
  | cons a b =>
    cases h2 : (dropSign l).dropWhile isFig with
    | nil => simp
    | cons a b => simp
theorem end_eq {l : List Nat} (h : AllOk l) (c : Nat) (k : Int) (neg : Bool) : (match l.map Char.ofNat with
    | [] => some (Float64.ofDecimal neg c (-k))
    | 'e' :: r | 'E' :: r =>
      let (eneg, r) := Float64.readSign r
      match Float64.digitRun r with
      | (d :: ds, []) => some (Float64.ofDecimal neg c (Float64.sgn eneg (Float64.natOf 10 (d :: ds)) - k))
      | _ => none
    | _ => none).isSome = endOk l := by
  cases l with
  | nil => rfl
  | cons x r =>
    have hl := okC_lt h.head
    have h1 := ch_e x hl
    have h2 := ch_E x hl
    have hx := exp_eq h.tail c k neg
    rw [List.map_cons]
    show _ = if x = 101 ∨ x = 69 then expOk r else false
    split
    · rename_i heq; cases heq
    · rename_i heq
      obtain ⟨ha, rfl⟩ := List.cons.inj heq
      rw [if_pos (Or.inl (h1.mp ha))]
      exact hx
    · rename_i heq
      obtain ⟨ha, rfl⟩ := List.cons.inj heq
      rw [if_pos (Or.inr (h2.mp ha))]
      exact hx
    · rename_i n0 n1 n2
      rw [if_neg]
      · rfl
      · rintro (q | q)
        · exact n1 _ (by rw [h1.mpr q])
        · exact n2 _ (by rw [h2.mpr q])
theorem parse_eq {l : List Nat} (h : AllOk l) : (Float64.parse? (l.map Char.ofNat)).isSome = accepts l := by
  have st : ((((l.map Char.ofNat).dropWhile Float64.isSpace).reverse.dropWhile Float64.isSpace).reverse) = l.map Char.ofNat := by
    rw [dropWhile_none fun c hc => ch_space c (okC_lt (h c hc)) (h c hc), ← List.map_reverse,
      dropWhile_none fun c hc => ch_space c (okC_lt (h c (List.mem_reverse.mp hc))) (h c (List.mem_reverse.mp hc)), ← List.map_reverse, List.reverse_reverse]
  unfold Float64.parse?
  simp only [st, special_none h]
  have e := readSign_eq h
  generalize Float64.readSign (l.map Char.ofNat) = p at e
  obtain ⟨neg, t⟩ := p
  simp only at e
  subst e
  have h1 := dropSign_ok h
  simp only [run_eq h1]
  unfold accepts
  simp only
  have h2 : AllOk ((dropSign l).dropWhile isFig) := fun x hx => h1 x ((List.dropWhile_sublist _).subset hx)
  generalize (dropSign l).dropWhile isFig = s1 at h2
  generalize (dropSign l).takeWhile isFig = wl
  have key : ∀ (p : List Char × List Char) (fr : List Char) (l2 : List Nat), AllOk l2 → p = (fr, l2.map Char.ofNat) → (if ((wl.map Char.ofNat).isEmpty && p.1.isEmpty) = true then none else (match p.2 with
    | [] => some (Float64.ofDecimal neg (Float64.natOf 10 (wl.map Char.ofNat ++ p.1)) (-(p.1.length : Int)))
    | 'e' :: r | 'E' :: r =>
      match Float64.digitRun (Float64.readSign r).2 with
      | (d :: ds, []) => some (Float64.ofDecimal neg (Float64.natOf 10 (wl.map Char.ofNat ++ p.1)) (Float64.sgn (Float64.readSign r).1 (Float64.natOf 10 (d :: ds)) - (p.1.length : Int)))
      | _ => none
    | _ => none)).isSome = if (wl.isEmpty && fr.isEmpty) = true then false else endOk l2 := by
    rintro p fr l2 h3 rfl
    rw [List.isEmpty_map]
    split
    · rfl
    · exact end_eq h3 _ _ _
  cases s1 with
  | nil => exact (key _ [] [] h2 rfl).trans (by simp)
  | cons x r =>
    have hl := okC_lt h2.head
    have hd := ch_dot x hl
    show _ = if x = 46 then (if (wl.isEmpty && (r.takeWhile isFig).isEmpty) = true then false else endOk (r.dropWhile isFig)) else (if wl.isEmpty = true then false else endOk (x :: r))
    by_cases hx : x = 46
    · subst hx
      rw [if_pos rfl]
      have h4 : AllOk (r.dropWhile isFig) := fun x hx => h2.tail x ((List.dropWhile_sublist _).subset hx)
      refine Eq.trans (key _ ((r.takeWhile isFig).map Char.ofNat) _ h4 ?_) (by rw [List.isEmpty_map])
      exact run_eq h2.tail
    · rw [if_neg hx]
      refine Eq.trans (key _ [] (x :: r) h2 ?_) (by simp)
      rw [List.map_cons]
      split
      · rename_i heq
        exact absurd (hd.mp (List.cons.inj heq).1) hx
      · rfl
end

section -- PL3
theorem o_dot : Str.ofString "." = ⟨#[46]⟩ := by decide +kernel
theorem o_e : Str.ofString "e" = ⟨#[101]⟩ := by decide +kernel
theorem o_E : Str.ofString "E" = ⟨#[69]⟩ := by decide +kernel
theorem o_p : Str.ofString "+" = ⟨#[43]⟩ := by decide +kernel
theorem o_m : Str.ofString "-" = ⟨#[45]⟩ := by decide +kernel
theorem chunk_is (v : Str) (p c : Nat) : (chunkI v (p : Int) == (⟨#[c]⟩ : Str)) = ((v.cps.toList.drop p).head? == some c) := by
  unfold chunkI chunk
  rw [Int.toNat_natCast]
  cases h : v.cps.toList.drop p with
  | nil =>
    rw [Bool.eq_iff_iff]
    simp
  | cons x r =>
    rw [Bool.eq_iff_iff]
    simp
theorem drop_fig (v : Str) (p : Nat) : v.cps.toList.drop (figEnd v p) = (v.cps.toList.drop p).dropWhile isFig := by
  unfold figEnd
  rw [← List.drop_drop]
  generalize v.cps.toList.drop p = r
  induction r with
  | nil => rfl
  | cons x r ih =>
    by_cases hx : isFig x = true
    · rw [List.takeWhile_cons_of_pos hx, List.dropWhile_cons_of_pos hx, List.length_cons, List.drop_succ_cons]; exact ih
    · rw [List.takeWhile_cons_of_neg hx, List.dropWhile_cons_of_neg hx]; rfl
theorem figI (v : Str) (p : Nat) : figEndI v (p : Int) = (figEnd v p : Nat) := by unfold figEndI; rw [Int.toNat_natCast]
def signN (v : Str) (p : Nat) : Nat := if ((v.cps.toList.drop p).head? == some 43 || (v.cps.toList.drop p).head? == some 45) = true then 1 else 0
theorem signI (v : Str) (p : Nat) : signAt v (p : Int) = (signN v p : Nat) := by
  unfold signAt signN
  rw [o_p, o_m, chunk_is, chunk_is]
  split <;> rfl
theorem drop_sign (v : Str) (p : Nat) : v.cps.toList.drop (p + signN v p) = dropSign (v.cps.toList.drop p) := by
  unfold signN
  rw [← List.drop_drop]
  cases v.cps.toList.drop p with
  | nil => simp [dropSign]
  | cons x r =>
    rw [dropSign_cons]
    by_cases h : x = 45 ∨ x = 43
    · rw [if_pos h, if_pos (by rcases h with rfl | rfl <;> simp)]; rfl
    · rw [if_neg h, if_neg (by simp; omega)]; rfl
def tailN (v : Str) (a2 : Int) : Bool :=
  if (chunkI v a2 == Str.ofString "e" || chunkI v a2 == Str.ofString "E") = true then
    let b1 := a2 + 1 + signAt v (a2 + 1)
    let b2 := figEndI v b1
    if b2 = b1 then false else (b2 == v.length)
  else (a2 == v.length)
theorem drop_nil_iff (v : Str) (p : Nat) (h : p ≤ v.length) : (v.cps.toList.drop p).isEmpty = ((p : Int) == (v.length : Int)) := by
  have e := len_toList v
  rw [Bool.eq_iff_iff]
  simp only [List.isEmpty_iff, List.drop_eq_nil_iff, beq_iff_eq]
  omega
theorem tail_eq (v : Str) (p : Nat) (h : p ≤ v.length) : tailN v (p : Int) = endOk (v.cps.toList.drop p) := by
  have el := len_toList v
  have hd := drop_nil_iff v p h
  unfold tailN
  rw [o_e, o_E, chunk_is, chunk_is]
  cases hr : v.cps.toList.drop p with
  | nil =>
    rw [hr] at hd
    rw [if_neg (by simp), ← hd]; rfl
  | cons x r =>
    rw [hr] at hd
    have h1 : p + 1 ≤ v.length := by
      have := congrArg List.length hr
      rw [List.length_drop, List.length_cons] at this
      omega
    have hr1 : v.cps.toList.drop (p + 1) = r := by rw [← List.drop_drop, hr]; rfl
    show _ = if x = 101 ∨ x = 69 then expOk r else false
    by_cases hx : x = 101 ∨ x = 69
    · rw [if_pos hx, if_pos (by rcases hx with rfl | rfl <;> simp)]
      have es := signI v (p + 1)
      have eb : ((p : Int) + 1 + signAt v ((p : Int) + 1)) = ((p + 1 + signN v (p + 1) : Nat) : Int) := by
        have : (p : Int) + 1 = ((p + 1 : Nat) : Int) := by omega
        rw [this, es]; omega
      have ds := drop_sign v (p + 1)
      rw [hr1] at ds
      simp only [eb]
      generalize p + 1 + signN v (p + 1) = b1 at ds
      rw [figI]
      have hb1 : b1 ≤ v.length ∨ v.length < b1 := by omega
      have ef := drop_fig v b1
      rw [ds] at ef
      unfold expOk
      rw [← ef]
      have efl : figEnd v b1 = b1 + ((dropSign r).takeWhile isFig).length := by unfold figEnd; rw [ds]
      rcases hb1 with hb1 | hb1
      · have hle := figEnd_le v b1 hb1
        rw [drop_nil_iff v _ hle.2]
        by_cases hz : ((figEnd v b1 : Nat) : Int) = (b1 : Int)
        · rw [if_pos hz]
          have : ((dropSign r).takeWhile isFig) = [] := List.length_eq_zero_iff.mp (by omega)
          rw [this]; rfl
        · rw [if_neg hz]
          have : ((dropSign r).takeWhile isFig).isEmpty = false := by
            cases hq : (dropSign r).takeWhile isFig with
            | nil => rw [hq] at efl; simp at efl; omega
            | cons _ _ => rfl
          rw [this]; rfl
      · have hn : dropSign r = [] := by rw [← ds]; exact List.drop_eq_nil_of_le (by omega)
        rw [hn] at efl ⊢
        rw [if_pos (by simp at efl; omega)]; rfl
    · rw [if_neg hx, if_neg (by simp; omega), ← hd]; rfl
theorem num_eq (v : Str) : numAt v (signAt v 0) = accepts v.cps.toList := by
  have el := len_toList v
  have es := signI v 0
  have ds := drop_sign v 0
  rw [List.drop_zero, Nat.zero_add] at ds
  have hs0 : signN v 0 ≤ v.length := by
    have := sign_le v
    rw [show (0 : Int) = ((0 : Nat) : Int) from rfl, es] at this
    omega
  rw [show (0 : Int) = ((0 : Nat) : Int) from rfl, es]
  generalize signN v 0 = a0 at ds hs0
  have hf := figEnd_le v a0 hs0
  have df := drop_fig v a0
  rw [ds] at df
  have lf : figEnd v a0 = a0 + ((dropSign v.cps.toList).takeWhile isFig).length := by unfold figEnd; rw [ds]
  have hw : ((figEnd v a0 : Nat) : Int) - (a0 : Int) = (((dropSign v.cps.toList).takeWhile isFig).length : Int) := by omega
  have N0 : numAt v (a0 : Int) = (if (chunkI v (figEndI v a0) == Str.ofString ".") = true then
      (if figEndI v a0 - a0 + figEndI v (figEndI v a0 + 1) - figEndI v a0 - 1 = 0 then false else tailN v (figEndI v (figEndI v a0 + 1)))
      else (if figEndI v a0 - a0 = 0 then false else tailN v (figEndI v a0))) := by
    unfold numAt tailN
    simp only
    split <;> rfl
  rw [N0, figI, o_dot, chunk_is, df]
  unfold accepts
  simp only
  generalize (dropSign v.cps.toList).takeWhile isFig = wl at *
  generalize hs1 : (dropSign v.cps.toList).dropWhile isFig = s1 at *
  have lenw : wl.isEmpty = decide ((wl.length : Int) = 0) := by cases wl <;> simp; omega
  cases s1 with
  | nil =>
    rw [if_neg (by simp), hw]
    show _ = if wl.isEmpty = true then false else endOk []
    rw [lenw, tail_eq v _ hf.2, df]
    by_cases hz : (wl.length : Int) = 0
    · rw [if_pos hz, if_pos (decide_eq_true hz)]
    · rw [if_neg hz, if_neg (by simp only [decide_eq_true_eq]; exact hz)]
  | cons x r =>
    show _ = if x = 46 then (if (wl.isEmpty && (r.takeWhile isFig).isEmpty) = true then false else endOk (r.dropWhile isFig)) else (if wl.isEmpty = true then false else endOk (x :: r))
    by_cases hx : x = 46
    · subst hx
      rw [if_pos (by simp), if_pos rfl]
      have h1 : figEnd v a0 + 1 ≤ v.length := by
        have := congrArg List.length df
        rw [List.length_drop, List.length_cons] at this
        omega
      have hr1 : v.cps.toList.drop (figEnd v a0 + 1) = r := by rw [← List.drop_drop, df]; rfl
      have hf2 := figEnd_le v _ h1
      have df2 := drop_fig v (figEnd v a0 + 1)
      rw [hr1] at df2
      have lf2 : figEnd v (figEnd v a0 + 1) = figEnd v a0 + 1 + (r.takeWhile isFig).length := by unfold figEnd at hr1 ⊢; rw [hr1]
      have e1 : ((figEnd v a0 : Nat) : Int) + 1 = ((figEnd v a0 + 1 : Nat) : Int) := by omega
      rw [e1, figI, tail_eq v _ hf2.2, df2]
      have hz : (((figEnd v a0 : Nat) : Int) - (a0 : Int) + ((figEnd v (figEnd v a0 + 1) : Nat) : Int) - ((figEnd v a0 : Nat) : Int) - 1 = 0) ↔ (wl.isEmpty && (r.takeWhile isFig).isEmpty) = true := by
        rw [Bool.and_eq_true, List.isEmpty_iff, List.isEmpty_iff, ← List.length_eq_zero_iff, ← List.length_eq_zero_iff]
        omega
      by_cases hc : (wl.isEmpty && (r.takeWhile isFig).isEmpty) = true
      · rw [if_pos hc, if_pos (hz.mpr hc)]
      · rw [if_neg hc, if_neg (fun q => hc (hz.mp q))]
    · rw [if_neg (by simp; exact hx), if_neg hx, hw]
      rw [lenw, tail_eq v _ hf.2, df]
      by_cases hz : (wl.length : Int) = 0
      · rw [if_pos hz, if_pos (decide_eq_true hz)]
      · rw [if_neg hz, if_neg (by simp only [decide_eq_true_eq]; exact hz)]
end

section -- PL4
theorem o_q : Str.ofString "\"" = ⟨#[34]⟩ := by decide +kernel
theorem o_h : Str.ofString "#" = ⟨#[35]⟩ := by decide +kernel
theorem starts_one (v : Str) (c : Nat) : Txt.startswith v ⟨#[c]⟩ = (chunkI v 0 == (⟨#[c]⟩ : Str)) := by
  have e := chunk_is v 0 c
  rw [show ((0 : Nat) : Int) = 0 from rfl, List.drop_zero] at e
  rw [e]
  unfold Txt.startswith
  rw [StrLaws.subAt_eq, List.drop_zero, len_toList v]
  have l1 : (⟨#[c]⟩ : Str).length = 1 := rfl
  rw [l1]
  cases v.cps.toList with
  | nil => rfl
  | cons x r =>
    rw [Bool.eq_iff_iff]
    simp
theorem parseText_eq {v : Str} (h : AllOk v.cps.toList) : (Num.parseText? v).isSome = numAt v (signAt v 0) := by
  unfold Num.parseText?
  have : v.cps.all (fun x => decide (x < 128)) = true := by
    rw [Array.all_eq_true_iff_forall_mem]
    intro x hx
    have := okC_lt (h x (Array.mem_toList_iff.mpr hx))
    exact decide_eq_true (by omega)
  rw [if_pos this, parse_eq h, num_eq]
theorem any_two (a b v : Str) : ([a, b].any fun x => x == v) = (v == a || v == b) := by
  rw [List.any_cons, List.any_cons, List.any_nil, Bool.or_false, Bool.beq_comm (a := a), Bool.beq_comm (a := b)]
theorem sub_eq {v : Str} (h : AllOk v.cps.toList) : subM v = subOf v := by
  unfold subM subOf
  rw [o_q, o_h, starts_one, starts_one, parseText_eq h]
  rw [any_two]
  cases (v == Str.ofString "TRUE") <;> cases (v == Str.ofString "FALSE") <;> rfl
theorem strOk_of {v : Str} (h : AllOk v.cps.toList) : PyData.strOk v = true := by
  unfold PyData.strOk
  rw [Array.all_eq_true_iff_forall_mem]
  intro x hx
  have := okC_lt (h x (Array.mem_toList_iff.mpr hx))
  exact decide_eq_true (by omega)
theorem app_list (v y : Str) : (v ++ y).cps.toList = v.cps.toList ++ y.cps.toList := by
  rw [Str.cps_append, Array.toList_append]
theorem app_ok {v y : Str} (h : AllOk v.cps.toList) (hy : AllOk y.cps.toList) : AllOk (v ++ y).cps.toList := by
  rw [app_list]
  intro c hc
  rcases List.mem_append.mp hc with hc | hc
  · exact h c hc
  · exact hy c hc
theorem item_last {x : Str} {l : List Nat} {c : Nat} (h : x.cps.toList = l ++ [c]) : Txt.item x (-1) = ⟨#[c]⟩ := by
  have hs : x.cps.size = l.length + 1 := by rw [← Array.length_toList, h]; simp
  have hl : x.length = l.length + 1 := hs
  unfold Txt.item Txt.charAt seqIndex?
  rw [hl]
  have e : x.cps[l.length]? = some c := by rw [← Array.getElem?_toList, h]; simp
  have a1 : (-1 : Int) < 0 := by decide
  simp only [a1, if_true]
  have a2 : (-1 : Int) + ((l.length + 1 : Nat) : Int) = (l.length : Int) := by omega
  rw [a2]
  have a3 : (0 ≤ (l.length : Int) ∧ (l.length : Int) < ((l.length + 1 : Nat) : Int)) := by omega
  rw [if_pos (by simp; omega), Option.bind_some]
  rw [Int.toNat_natCast, e]
  rfl
theorem not_in {x y : Str} {p q : Nat} (hx : x.cps.toList = [p, q]) {l : List Nat} {c : Nat} (hy : y.cps.toList = l ++ [c]) (hl : 1 ≤ l.length) (hc : c ≠ q) :
    (Builtin.Str.occurrences x y 0 x.length 1).isEmpty = true := by
  cases he : (Builtin.Str.occurrences x y 0 x.length 1).isEmpty with
  | true => rfl
  | false =>
    exfalso
    have h := (StrLaws.found_iff x y).mp (by rw [he]; rfl)
    obtain ⟨i, hi, hs⟩ := h
    have ly : y.length = l.length + 1 := by rw [len_toList, hy]; simp
    have lx : x.length = 2 := by rw [len_toList, hx]; rfl
    rw [ly, lx] at hi
    have i0 : i = 0 := by omega
    subst i0
    have l1 : l.length = 1 := by omega
    rw [StrLaws.subAt_eq, List.drop_zero, hx, hy, ly, l1, beq_iff_eq] at hs
    obtain ⟨a, rfl⟩ := List.length_eq_one_iff.mp l1
    simp at hs
    exact hc hs.2.symm
end

section -- PL5
theorem rep_ne (x y : Str) : ((((((Str.ofString "OPERAND" ++ Str.ofString " ") ++ x) ++ Str.ofString " ") ++ y) ++ Str.ofString ":") != ((((Str.ofString "OPERAND " ++ x) ++ Str.ofString " ") ++ y) ++ Str.ofString ":")) = false := by
  rw [show Str.ofString "OPERAND" ++ Str.ofString " " = Str.ofString "OPERAND " from by decide +kernel, bne_self_eq_false]
theorem l_ap : (Str.ofString "a(").cps.toList = [97, 40] := by decide +kernel
theorem l_ac : (Str.ofString "a{").cps.toList = [97, 123] := by decide +kernel
theorem l_x : (Str.ofString "x").cps.toList = [120] := by decide +kernel
theorem o_par : Str.ofString "(" = ⟨#[40]⟩ := by decide +kernel
theorem o_cur : Str.ofString "{" = ⟨#[123]⟩ := by decide +kernel
theorem o_x : Str.ofString "x" = ⟨#[120]⟩ := by decide +kernel
theorem l1 : (Str.ofString "{}").cps.toList = [123, 125] := by decide +kernel
theorem l2 : (Str.ofString "()").cps.toList = [40, 41] := by decide +kernel
theorem l3 : (Str.ofString ")}").cps.toList = [41, 125] := by decide +kernel
theorem li_ap (v : Str) : (v ++ Str.ofString "a(").cps.toList = (v.cps.toList ++ [97]) ++ [40] := by rw [app_list, l_ap]; simp
theorem li_ac (v : Str) : (v ++ Str.ofString "a{").cps.toList = (v.cps.toList ++ [97]) ++ [123] := by rw [app_list, l_ac]; simp
theorem it_ap (v : Str) : Txt.item (v ++ Str.ofString "a(") (-1) = Str.ofString "(" := by rw [o_par]; exact item_last (li_ap v)
theorem it_ac (v : Str) : Txt.item (v ++ Str.ofString "a{") (-1) = Str.ofString "{" := by rw [o_cur]; exact item_last (li_ac v)
theorem it_x (v : Str) : Txt.item (v ++ Str.ofString "x") (-1) = Str.ofString "x" := by
  have h : (v ++ Str.ofString "x").cps.toList = v.cps.toList ++ [120] := by rw [app_list, l_x]
  rw [item_last h, o_x]
theorem n1_ap (v : Str) : (Builtin.Str.occurrences (Str.ofString "{}") (v ++ Str.ofString "a(") 0 (Str.ofString "{}").length 1).isEmpty = true := not_in l1 (li_ap v) (by simp) (by decide)
theorem n2_ap (v : Str) : (Builtin.Str.occurrences (Str.ofString "()") (v ++ Str.ofString "a(") 0 (Str.ofString "()").length 1).isEmpty = true := not_in l2 (li_ap v) (by simp) (by decide)
theorem n3_ap (v : Str) : (Builtin.Str.occurrences (Str.ofString ")}") (v ++ Str.ofString "a(") 0 (Str.ofString ")}").length 1).isEmpty = true := not_in l3 (li_ap v) (by simp) (by decide)
theorem n1_ac (v : Str) : (Builtin.Str.occurrences (Str.ofString "{}") (v ++ Str.ofString "a{") 0 (Str.ofString "{}").length 1).isEmpty = true := not_in l1 (li_ac v) (by simp) (by decide)
theorem n2_ac (v : Str) : (Builtin.Str.occurrences (Str.ofString "()") (v ++ Str.ofString "a{") 0 (Str.ofString "()").length 1).isEmpty = true := not_in l2 (li_ac v) (by simp) (by decide)
theorem n3_ac (v : Str) : (Builtin.Str.occurrences (Str.ofString ")}") (v ++ Str.ofString "a{") 0 (Str.ofString ")}").length 1).isEmpty = true := not_in l3 (li_ac v) (by simp) (by decide)
theorem len_app (v y : Str) : (v ++ y).length = v.length + y.length := by rw [len_toList, app_list, List.length_append, ← len_toList, ← len_toList]
theorem len_ap : (Str.ofString "a(").length = 2 := by decide +kernel
theorem len_ac : (Str.ofString "a{").length = 2 := by decide +kernel
theorem len_x : (Str.ofString "x").length = 1 := by decide +kernel
theorem ok_ap : AllOk (Str.ofString "a(").cps.toList := by rw [l_ap]; intro c hc; simp at hc; rcases hc with rfl | rfl <;> decide
theorem ok_ac : AllOk (Str.ofString "a{").cps.toList := by rw [l_ac]; intro c hc; simp at hc; rcases hc with rfl | rfl <;> decide
theorem run_ap {v : Str} (h : AllOk v.cps.toList) (hl : v.length ≤ 8) : RunIs true (v ++ Str.ofString "a(") := by
  have hls := len_app v (Str.ofString "a(")
  rw [len_ap] at hls
  have hsz : (v ++ Str.ofString "a(").cps.size = v.length + 2 := hls
  have hli := li_ap v
  refine run_name (by omega) (by omega) (fun i hi => ?_) ?_
  · intro q
    have hok := app_ok h ok_ap
    have hm : (v ++ Str.ofString "a(").cps.getD i 0 ∈ (v ++ Str.ofString "a(").cps.toList := by
      rw [Array.getD_eq_getD_getElem?, Array.getElem?_eq_getElem hi]
      exact Array.getElem_mem_toList hi
    have := hok _ hm
    rw [q] at this
    revert this; decide
  · have e : (v ++ Str.ofString "a(").cps[(v ++ Str.ofString "a(").cps.size - 1]? = some 40 := by
      rw [← Array.getElem?_toList, hli, hsz]
      have : v.cps.toList.length = v.length := (len_toList v).symm
      simp [this]
    rw [Array.getD_eq_getD_getElem?, e]; rfl
end

section -- PL6
theorem sign_list : (Str.ofString "0189.eE+-A$:#T\"").cps.toList = [48, 49, 56, 57, 46, 101, 69, 43, 45, 65, 36, 58, 35, 84, 34] := by decide +kernel
theorem sign_len : (Str.ofString "0189.eE+-A$:#T\"").length = 15 := by decide +kernel
theorem sign_item {j : Int} (h0 : 0 ≤ j) (h1 : j < 15) : ∃ c, Txt.item (Str.ofString "0189.eE+-A$:#T\"") j = ⟨#[c]⟩ ∧ okC c = true := by
  refine ⟨_, item_some h0 (by rw [sign_len]; exact h1), ?_⟩
  rw [sign_list]
  have : j = 0 ∨ j = 1 ∨ j = 2 ∨ j = 3 ∨ j = 4 ∨ j = 5 ∨ j = 6 ∨ j = 7 ∨ j = 8 ∨ j = 9 ∨ j = 10 ∨ j = 11 ∨ j = 12 ∨ j = 13 ∨ j = 14 := by omega
  rcases this with rfl | rfl | rfl | rfl | rfl | rfl | rfl | rfl | rfl | rfl | rfl | rfl | rfl | rfl | rfl <;> decide
theorem word_step {cw : Str} {j : Int} (h0 : 0 ≤ j) (h1 : j < 15) (h : AllOk cw.cps.toList) : AllOk (cw ++ Txt.item (Str.ofString "0189.eE+-A$:#T\"") j).cps.toList ∧ (cw ++ Txt.item (Str.ofString "0189.eE+-A$:#T\"") j).length = cw.length + 1 := by
  obtain ⟨c, e, hc⟩ := sign_item h0 h1
  rw [e]
  refine ⟨app_ok h fun x hx => ?_, by rw [len_app]; rfl⟩
  have : x = c := by simpa using hx
  rw [this]; exact hc
theorem div_le {c d : Int} (h0 : 0 ≤ c) (h1 : c < 1000000000039) (hd : 0 < d) : 0 ≤ c.fdiv d ∧ c.fdiv d < 1000000000039 := by
  rw [Int.fdiv_eq_ediv_of_nonneg _ (by omega)]
  refine ⟨Int.ediv_nonneg h0 (by omega), Int.lt_of_le_of_lt (Int.ediv_le_self _ h0) h1⟩
theorem nil_ok : AllOk (Str.ofString "").cps.toList := by
  have : (Str.ofString "").cps.toList = [] := by decide +kernel
  rw [this]; intro _ h; cases h
theorem nil_len : (Str.ofString "").length = 0 := by decide +kernel
theorem small_9 {k : Int} (h0 : 0 ≤ k) (h1 : k < 9) : Builtin.Range.small 0 k 1 = true := by
  have : k = 0 ∨ k = 1 ∨ k = 2 ∨ k = 3 ∨ k = 4 ∨ k = 5 ∨ k = 6 ∨ k = 7 ∨ k = 8 := by omega
  rcases this with rfl | rfl | rfl | rfl | rfl | rfl | rfl | rfl | rfl <;> decide +kernel
theorem size_9 {k : Int} (h0 : 0 ≤ k) (h1 : k < 9) : Builtin.Range.rangeSize 0 k 1 = (k.toNat : Int) := by
  have : k = 0 ∨ k = 1 ∨ k = 2 ∨ k = 3 ∨ k = 4 ∨ k = 5 ∨ k = 6 ∨ k = 7 ∨ k = 8 := by omega
  rcases this with rfl | rfl | rfl | rfl | rfl | rfl | rfl | rfl | rfl <;> decide +kernel
end

section -- NC
abbrev tupO (x y : Str) (u1 u2 : Tok) : Obj := { cls := .type "tuple", data := .seq #[.str x u1, .str y u2] }
section
open LCp LCg
variable {prog : Program} {w : World} {A : Around} {E : Value → Shared → Prop} {s : Shared} {h₀ : Heap} {L : Addr} {m : Str → Option Value} {env : Env}

theorem fr_bare {C : Addr} {h : Heap} {m : Str → Option Value} (hn : h.Ns C m) : Fr { h with objs := #[] } C h m :=
  ⟨hn, fun b o e => by simp [Heap.get?] at e, Nat.zero_le _⟩

def SameTest (prog : Program) (w : World) (A : Around) (env : Env) (c : PySem.Expr) (x x₂ : Str) (scope : Scope) (cl : List (Str × Addr)) : Prop :=
  ∀ (g : Heap) (C : Addr) (a : Str) (u1 u2 : Tok) (r : Str → Option Value) (E' : Value → Shared → Prop) (s : Shared),
    Fr g C s.heap (fun z => if z = x₂ then some (.str a u2) else if z = x then some (.str a u1) else r z) →
    wpAny (model prog w) A (isTrue c (compEnvC scope cl C env) (eval c (compEnvC scope cl C env))) (fun ok s₃ => ok = false ∧ ∃ tk, s₃ = { s with toks := tk }) E' s

theorem names_block {elt iter c : PySem.Expr} {x x₂ : Str} {px px₂ tp : Pos} {tk} {scope : Scope} {cl : List (Str × Addr)} {pos : Pos} {s₂ : Shared} {I : Addr} {fp : List Addr} {n : Nat} {P : Nat → Value → Prop} {St : Nat → Heap → Prop} {news : List (Addr × Obj)}
    {RR : Value → Addr → Result → Shared → Prop}
    (W : Walks prog w A I fp [I] n P St)
    (hcell : ∀ y ∈ scope.names, y.2 ≠ .cell) (hkind : scope.kind = .function) (hx : scope.names.lookup x = some .local) (hx₂ : scope.names.lookup x₂ = some .local) (hh : A.handled = none) (hLI : ∀ i h, St i h → ∃ l j, h.IsListIter I l j) (hst : St 0 s₂.heap) (hfp : ∀ b ∈ fp, b < s₂.heap.objs.size)
    (F : Fr h₀ L s₂.heap m) (N : News h₀ L s₂.heap news) (hIL : L ≠ I) (hI₀ : h₀.get? I = none) (off : ∀ p ∈ news, p.1 ≠ I)
    (tst : SameTest prog w A env c x x₂ scope cl)
    (hp : ∀ i v, P i v → ∃ t y u1 u2, v = .ref t ∧ (t, tupO y y u1 u2) ∈ news)
    (hRR : ∀ D C h tk m', Fr h₀ L h m → News h₀ L h ((D, lst []) :: news) → h.Ns C m' → h₀.get? C = none → C ≠ L → C ≠ D → (∀ p ∈ news, p.1 ≠ C) → RR (.ref D) C (.ok .next) { s₂ with heap := h, toks := tk }) :
    wpAny (model prog w) A (newList []) (fun acc s₃ => wpAny (model prog w) A (newFunctionEnv scope env.globals cl [] env.qual none .none (some env)) (fun cenv s₄ =>
      codeAny (model prog w) A (.compStart (.ListComp elt [⟨.Tuple [.Name x px, .Name x₂ px₂] tk tp, iter, [c], 0⟩] scope pos) 0 (.ref I) acc { cenv with scope := relabel scope env }) (RR acc cenv.locals) s₄) E s₃) E s₂ := by
  refine wpAny_newObj_type (wpAny_newFunctionEnv hcell (by intro y hy; simp at hy) (fun h₁ hns₁ hsb₁ => ?_) hkind)
  dsimp only at hns₁ hsb₁ ⊢
  generalize hH2 : s₂.heap.push { cls := .type "list", dict := none, data := .seq ([] : List Value).toArray } = H2 at hns₁ hsb₁ ⊢
  have hC : H2.objs.size = s₂.heap.objs.size + 1 := by rw [← hH2, Heap.size_push]
  have hDC : s₂.heap.objs.size ≠ H2.objs.size := by rw [hC]; exact Nat.ne_of_lt (Nat.lt_succ_self _)
  have below : ∀ b, b < s₂.heap.objs.size → b ≠ H2.objs.size ∧ b ≠ s₂.heap.objs.size := fun b hb => ⟨by rw [hC]; exact Nat.ne_of_lt (Nat.lt_succ_of_lt hb), Nat.ne_of_lt hb⟩
  have hDf : s₂.heap.objs.size ∉ fp := fun hm => Nat.lt_irrefl _ (hfp _ hm)
  have hCf : H2.objs.size ∉ fp := fun hm => by have := hfp _ hm; rw [hC] at this; exact Nat.lt_irrefl _ (Nat.lt_of_succ_lt this)
  have hIlt : I < s₂.heap.objs.size := hfp I (W.sub I (List.mem_singleton.mpr rfl))
  have old : ∀ b o, s₂.heap.get? b = some o → h₁.get? b = some o := fun b o e => hsb₁.extBut b o (below b (Heap.lt_size e)).1 (Heap.get?_push_of_some _ (hH2 ▸ Heap.get?_push_of_some _ e))
  have hacc : h₁.get? s₂.heap.objs.size = some (lst []) := hsb₁.extBut _ _ hDC (Heap.get?_push_of_some _ (hH2 ▸ Heap.get?_push_size _ rfl))
  have hst₁ : St 0 h₁ := W.frame _ _ _ hst fun b _ o e => old b o e
  have fresh₀ : ∀ a, s₂.heap.objs.size ≤ a → h₀.get? a = none := fun a ha => by
    cases e : h₀.get? a with
    | none => rfl
    | some o' => exact absurd (Heap.lt_size (F.keep a o' e)) (Nat.not_lt.mpr ha)
  have hD₀ : h₀.get? s₂.heap.objs.size = none := fresh₀ _ (Nat.le_refl _)
  have hC₀ : h₀.get? H2.objs.size = none := fresh₀ _ (by rw [hC]; exact Nat.le_succ _)
  have hLlt : L < s₂.heap.objs.size := F.ns.lt
  have hDL : s₂.heap.objs.size ≠ L := Ne.symm (below L hLlt).2
  have hCL : H2.objs.size ≠ L := Ne.symm (below L hLlt).1
  have hCI : I ≠ H2.objs.size := (below I hIlt).1
  have hDI : I ≠ s₂.heap.objs.size := (below I hIlt).2
  have offC : ∀ p ∈ news, p.1 ≠ H2.objs.size := fun p hp => (below _ (Heap.lt_size (N p hp).1)).1
  have offD : ∀ p ∈ news, p.1 ≠ s₂.heap.objs.size := fun p hp => (below _ (Heap.lt_size (N p hp).1)).2
  have loop : ∀ s₃ : Shared, s₃ = { s₂ with heap := h₁, toks := s₂.toks + ([] : List (Str × Value)).length } →
      codeAny (model prog w) A (.compLoop (.ListComp elt [⟨.Tuple [.Name x px, .Name x₂ px₂] tk tp, iter, [c], 0⟩] scope pos) 0 (.ref I) (.ref s₂.heap.objs.size) (compEnvC scope cl H2.objs.size env))
        (RR (.ref s₂.heap.objs.size) H2.objs.size) s₃ := by
    rintro s₃ rfl
    refine kct_loop
      (fun k s' => ∃ h' tk i m', s' = { s₂ with heap := h', toks := tk } ∧ i ≤ n ∧ k = n + 1 - i ∧ St i h' ∧ Fr h₀ L h' m ∧ h'.Ns H2.objs.size m' ∧ News h₀ L h' ((s₂.heap.objs.size, lst []) :: news)) ?_ (n + 1)
      ⟨h₁, _, 0, _, rfl, Nat.zero_le _, rfl, hst₁, F.keeps old, hns₁, fun p hp => ?_⟩
    · rintro k s' ⟨h', tk, i, m', rfl, hi, rfl, hst', F', hn', N'⟩
      by_cases hlt : i < n
      · refine W.item i _ _ _ hlt hst' fun v h₂ tk₂ hPv hst₂ hk₂ => ?_
        obtain ⟨t, y, u1, u2, rfl, hmt⟩ := hp i v hPv
        have N₂ : News h₀ L h₂ ((s₂.heap.objs.size, lst []) :: news) := news_but N' hk₂ fun p hp => by
          rcases List.mem_cons.mp hp with rfl | hp
          · exact Ne.symm hDI
          · exact off p hp
        have ht : IsTup h₂ t #[.str y u1, .str y u2] := ⟨_, (N₂ _ (List.mem_cons_of_mem _ hmt)).1, rfl, _, rfl⟩
        obtain ⟨lI, jI, hLi⟩ := hLI _ _ hst₂
        refine wpAny_letOwnedTupleGo_listiter hLi ?_
        refine assign_Tuple_tuple hh ht rfl rfl fun h₅ he => ?_
        have he' : ∀ b o, h₂.get? b = some o → h₅.get? b = some o := fun b o e => he b o (Nat.ne_of_lt (Heap.lt_size e)) e
        refine assignInOrder_cons (wpAny_assign_Name (wpAny_storeName_local (lookup_relabel_local hx) ((hn'.at' fun o e => hk₂ _ o (by simpa using Ne.symm hCI) e).at' fun o e => he' _ o e) (fun h₆ hn₆ hs₆ => ?_) (by simp [compEnvC, relabel, hkind])))
        refine assignInOrder_cons (wpAny_assign_Name (wpAny_storeName_local (lookup_relabel_local hx₂) hn₆ (fun h₃ hn₃ hs₃ => ?_) (by simp [compEnvC, relabel, hkind])))
        refine assignInOrder_nil ?_
        have old3 : ∀ b o, b ≠ H2.objs.size → h₂.get? b = some o → h₃.get? b = some o := fun b o hb e => hs₃.extBut b o hb (hs₆.extBut b o hb (he' b o e))
        have hst₃ : St (i + 1) h₃ := W.frame _ _ _ hst₂ fun b hb o e => old3 b o (fun q => hCf (by rw [← q]; exact hb)) e
        have F₃ : Fr h₀ L h₃ m := (((fr_but F' hk₂ hIL hI₀).keeps he').change hs₆ hCL hC₀).change hs₃ hCL hC₀
        have N₃ : News h₀ L h₃ ((s₂.heap.objs.size, lst []) :: news) := fun p hp => by
          have z := N₂ p hp
          refine ⟨old3 _ _ ?_ z.1, z.2⟩
          rcases List.mem_cons.mp hp with rfl | hp
          · exact hDC
          · exact offC p hp
        refine wpAny_mono (tst _ _ _ _ _ _ _ _ (fr_bare hn₃)) (fun ok s₃ h₃' => ?_) fun _ _ e => e
        obtain ⟨rfl, tk', rfl⟩ := h₃'
        simp only [Bool.false_eq_true, if_false]
        exact ⟨n + 1 - (i + 1), by omega, h₃, tk', i + 1, _, rfl, hlt, rfl, hst₃, F₃, hn₃, N₃⟩
      · obtain rfl : i = n := Nat.le_antisymm hi (Nat.not_lt.mp hlt)
        refine W.done _ _ _ hst' fun h₂ tk₂ hk₂ => ?_
        exact hRR _ _ h₂ tk₂ _ (fr_but F' hk₂ hIL hI₀) (news_but N' hk₂ fun p hp => by
          rcases List.mem_cons.mp hp with rfl | hp
          · exact Ne.symm hDI
          · exact off p hp) (hn'.at' fun o e => hk₂ _ o (by simpa using Ne.symm hCI) e) hC₀ hCL (Ne.symm hDC) offC
    · rcases List.mem_cons.mp hp with rfl | hp
      · exact ⟨hacc, hDL, hD₀⟩
      · exact ⟨old _ _ (N p hp).1, (N p hp).2⟩
  exact codeAny_compStart_list (loop _ rfl) (W.self 0 _ _ _ hst₁ (loop _ rfl))

def SameSrc (A : Around) (h₀ : Heap) (L : Addr) (m : Str → Option Value) (Q : Value → Shared → Prop) (xv : Value) (s₁ : Shared) : Prop :=
  ∃ (ax : Addr) (its : List Value) (k : Nat) (news : List (Addr × Obj)), xv = .ref ax ∧ A.handled = none ∧ Fr h₀ L s₁.heap m ∧ News h₀ L s₁.heap news ∧ (ax, listOf its.toArray k) ∈ news ∧
    (∀ v ∈ its, ∃ t y u1 u2, v = .ref t ∧ (t, tupO y y u1 u2) ∈ news) ∧ (∀ D h tk, Fr h₀ L h m → News h₀ L h ((D, lst []) :: news) → Q (.ref D) { s₁ with heap := h, toks := tk })

theorem names_comp {elt iter c : PySem.Expr} {x x₂ : Str} {px px₂ tp : Pos} {tk} {scope : Scope} {cl : List (Str × Addr)} {pos : Pos} {Q : Value → Shared → Prop} (_F₀ : Fr h₀ L s.heap m)
    (hclos : closureFor scope env = pure cl) (hcell : ∀ y ∈ scope.names, y.2 ≠ .cell) (hkind : scope.kind = .function)
    (hnames : ∀ y ∈ scope.names, y.2 = .local → scope.names.lookup y.1 = some .local) (hx : scope.names.lookup x = some .local) (hx₂ : scope.names.lookup x₂ = some .local) (hxx : x ≠ x₂)
    (tst : SameTest prog w A env c x x₂ scope cl)
    (h : wpAny (model prog w) A (eval iter env) (SameSrc A h₀ L m Q) E s)
    (hs : ∀ x, foldedSetIterable iter env x = pure x := by intro _; rfl) :
    wpAny (model prog w) A (eval (.ListComp elt [⟨.Tuple [.Name x px, .Name x₂ px₂] tk tp, iter, [c], 0⟩] scope pos) env) Q E s := by
  rw [eval_ListComp]
  refine wpAny_comprehension_free (use := none) rfl hs hclos hkind hnames (wpAny_mono h (fun xv s₁ h₁ => ?_) fun _ _ e => e)
  obtain ⟨ax, its, k, news, rfl, hh, F, N, hm, hp, hQ⟩ := h₁
  have hl : s₁.heap.IsList ax its.toArray := ⟨_, (N _ hm).1, rfl, _, rfl⟩
  have hlt : ax < s₁.heap.objs.size := Heap.lt_size (N _ hm).1
  refine wpAny_pyIter_list hl ?_
  have up : ∀ b o, s₁.heap.get? b = some o → (s₁.heap.push { cls := .type "list_iterator", data := .fields #[.ref ax, .int 0 0] }).get? b = some o := fun b o e => Heap.get?_push_of_some _ e
  refine names_block (Walks.list hh s₁.heap.objs.size ax (Nat.ne_of_lt hlt) its.toArray) hcell hkind hx hx₂ hh (fun i h st => ⟨_, _, st.1⟩) ⟨⟨_, Heap.get?_push_size _ rfl, rfl, rfl⟩, hl.push _⟩ (fun b hb => ?_)
    (F.keeps up) (N.grown up) (Nat.ne_of_lt F.ns.lt) (next_is_new F) (fun p hp => Nat.ne_of_lt (Heap.lt_size (N p hp).1)) tst (fun i v e => hp v (by
      rw [List.getElem?_toArray] at e
      exact List.mem_of_getElem? e)) ?_
  · show b < (s₁.heap.push _).objs.size
    rw [Heap.size_push]
    rcases List.mem_cons.mp hb with rfl | hb
    · exact Nat.lt_succ_self _
    · rw [List.mem_singleton.mp hb]; exact Nat.lt_succ_of_lt hlt
  · intro D C h tk m' F' N' hn hC₀ hCL hCD offC
    refine ⟨m', hn, fun h'' hs'' => hQ D h'' tk (F'.change hs'' hCL hC₀) (fun p hp => ?_)⟩
    refine ⟨hs''.extBut _ _ ?_ (N' p hp).1, (N' p hp).2⟩
    rcases List.mem_cons.mp hp with rfl | hp
    · exact Ne.symm hCD
    · exact offC p hp
end
end

section -- CN
local macro_rules | `(tactic| walk_at "enter_def") => `(tactic| (k_dflt (refine' code_def ?k1 ?k2 ?k3 ?k4 ?k5 ?kA ?kF ?kK ?k6 ?k7 ?k8 ?k9 ?kB ?_ ?c2 ?c3 ?c4 ?c5; (case kA => exact rfl); (case kF => assumption); (case kK => assumption); (case k1 => k_asm); (case k2 => k_asm); (case k3 => k_asm); (case k4 => k_asm); (case k5 => k_asm); (case k6 => k_is); (case k7 => k_is); (case k8 => exact Nat.le_of_ble_eq_true rfl); (case k9 => first | exact BindsTo.of_eq rfl | exact binds_K (by k_in) rfl (by k_is) rfl rfl rfl); (case c5 => decide); (case kB => exact locs rfl); (case c2 => exact rfl); (case c3 => exact rfl); (case c4 => exact rfl); k_whole; intro g' L' h' FG' F' N' B' X' T'; (try dsimp only); (try k_fold))))
local macro_rules | `(tactic| walk_at "getAttr ref") => `(tactic| (k_here; k_dflt (refine' get_clsS ?k1 ?k2 ?k3 ?k4 ?k5 ?k6 ?k7 ?k8 ?k9 ?k10 ?_; (case k1 => k_asm); (case k2 => k_asm); (case k3 => k_inst); (case k4 => k_is); (case k5 => k_is); (case k6 => k_is); (case k7 => k_is); (case k8 => k_is); (case k9 => k_handed); (case k10 => decide +kernel); k_whole)))
local macro_rules | `(tactic| walk_at "getAttr ref") => `(tactic| (k_here; ((first | (with_reducible show wpAny _ _ (getAttr _ (PySem.Str.ofString "type") _) _ _ _) | (with_reducible show wpAny _ _ (getAttr _ (PySem.Str.ofString "subtype") _) _ _ _) | (with_reducible show wpAny _ _ (getAttr _ (PySem.Str.ofString "value") _) _ _ _))); k_dflt (refine' get_slot ?k1 ?k2 ?k3 ?k4 ?k5 ?k6 ?k7 ?k8 ?k9 ?k10 ?k11 ?_; (case k1 => k_asm); (case k2 => k_asm); (case k3 => k_inst); (case k4 => k_is); (case k5 => k_is); (case k6 => k_is); (case k7 => k_is); (case k8 => k_is); (case k9 => k_is); (case k10 => k_slotget); (case k11 => k_handed); k_whole)))
local macro_rules | `(tactic| walk_at "getAttr ref") => `(tactic| (k_here; (with_reducible show wpAny _ _ (getAttr (Value.ref 101) _ _) _ _ _); k_dflt (refine' cls_val ?k1 ?k2 ?k3 ?k4 ?k5 ?k6 ?_; (case k1 => k_asm); (case k2 => k_asm); (case k3 => k_is); (case k4 => k_is); (case k5 => k_is); (case k6 => k_handed); k_whole)))
local macro_rules | `(tactic| walk_at "getMethod ref") => `(tactic| (k_here; k_dflt (refine' method_cmS ?k1 ?k2 ?k3 ?k4 ?k5 ?k6 ?k7 ?k8 ?k9 ?k10 ?k11 ?k12 ?k13 ?_; (case k1 => k_asm); (case k2 => k_asm); (case k3 => k_asm); (case k4 => k_inst); (case k5 => k_is); (case k6 => k_is); (case k7 => k_is); (case k8 => k_is); (case k9 => k_is); (case k10 => k_is); (case k11 => k_is); (case k12 => decide +kernel); (case k13 => k_is); k_whole; intro q' h' F' N' l1; (try k_lt l1); (try k_sweep))))
local macro_rules | `(tactic| walk_at "own_mem") => `(tactic| first | with_reducible exact List.mem_cons_self | (with_reducible refine List.mem_cons_of_mem _ ?_; walk_at "own_mem") | with_reducible assumption)
local macro_rules | `(tactic| k_mem) => `(tactic| walk_at "own_mem")
local macro_rules | `(tactic| walk_at "callWith ref") => `(tactic| (k_here; k_dflt (refine' callWith_MKW ?k1 ?k2 ?k3 ?k4 ?k5 ?_; (case k1 => k_asm); (case k2 => k_asm); (case k3 => k_mem); (case k4 => k_is); (case k5 => exact rfl); k_whole)))
local macro_rules | `(tactic| k_all) => `(tactic| (intro p9 hp9; refine neN ?_; first | (have q9 := ktn_ltOf (by first | assumption | exact And.right (by assumption) | exact And.right (And.right (by assumption)) | exact And.right (And.right (And.right (by assumption)))) p9 hp9; (try dsimp only at q9 ⊢); omega) | (have q9 := (by assumption : ∀ p ∈ _, @LT.lt Nat _ p.1 _) p9 hp9; (try dsimp only at q9 ⊢); omega)))
local macro_rules | `(tactic| walk_at "newTuple") => `(tactic| (k_here; k_dflt (refine' kup_newTuple ?F ?N ?_ ?z; (case F => k_asm); (case N => k_asm); (case z => kmk_size)); intro D' h' F' N' l1; clear l1; (try k_sweep); (try dsimp only)))
theorem spl0 {α : Type} (x : List α) : x = [] ++ x := rfl
theorem spl1 {α : Type} {l n o : List α} (a : α) (h : l = n ++ o) : a :: l = (a :: n) ++ o := congrArg (List.cons a) h
theorem names_out {h₀ h' : Heap} {L : Addr} {l new news : List (Addr × Obj)} (N : News h₀ L h' l) (hs : l = new ++ news) : News h₀ L h' (new ++ news) := hs ▸ N
set_option maxHeartbeats 8000000 in
theorem c_names {w : World} {mean : ExcName → Option Value} {mg mb : Str → Option Value}
   {env : Env} {outer : List Env} {A₀ : Around} {base h₀ : Heap} {L : Addr} {m : Str → Option Value} {news : List (Addr × Obj)} {s : Shared} {Q E : Value → Shared → Prop}
    (B : Below A₀ base outer h₀) (F : Fr h₀ L s.heap m) (X : (Mine.hd.heap_39 w.params).In h₀) (N : News h₀ L s.heap news) (T : TopP mean mg mb h₀) (hf : env.frame = some L) (hk : env.scope.kind = .function)
    (hret : ∀ (ax : Addr) (its : List Value) (c : Nat) (new : List (Addr × Obj)) (h' : Heap) (tk' : Nat), Fr h₀ L h' m → News h₀ L h' (new ++ news) → (ax, listOf its.toArray c) ∈ new → its.length = 19 → (∀ v ∈ its, ∃ t x u1 u2, v = .ref t ∧ (t, tupO x x u1 u2) ∈ new) → Q (.ref ax) { s with heap := h', toks := tk' }) :
      wpAny (model PySem.Challenge.pw_fh5003_01 w) (atA 600 2000 env outer) (call (.ref 114) []) Q E s := by
  refine wpAny_call ?_
  walk_at "enter_def"
  k_steps
  refine hret _ [_, _, _, _, _, _, _, _, _, _, _, _, _, _, _, _, _, _, _] _ [_, _, _, _, _, _, _, _, _, _, _, _, _, _, _, _, _, _, _, _] _ _ (by assumption) (by assumption) (.head _) rfl ?_
  repeat (refine List.forall_mem_cons.mpr ⟨⟨_, _, _, _, rfl, by k_memK⟩, ?_⟩)
  exact List.forall_mem_nil _
end

section -- WC
section
open LCg
variable {prog : Program} {w : World} {A : Around} {s : Shared} {h₀ : Heap} {L : Addr} {m : Str → Option Value} {env : Env}
def EltP (Good : Value → Prop) (h₀ : Heap) (L : Addr) (m : Str → Option Value) (s : Shared) (all : List (Addr × Obj)) (y : Value) (s₂ : Shared) : Prop :=
  Good y ∧ ∃ h' tk', s₂ = { s with heap := h', toks := tk' } ∧ Fr h₀ L h' m ∧ News h₀ L h' all
theorem EltP.intro {Good : Value → Prop} {all : List (Addr × Obj)} {y : Value} {h' : Heap} {tk : Nat} (g : Good y) (F : Fr h₀ L h' m) (N : News h₀ L h' all) : EltP Good h₀ L m s all y { s with heap := h', toks := tk } := ⟨g, h', tk, rfl, F, N⟩
theorem comp_all {elt : Expr} {x : Str} {scope : Scope} {cl : List (Str × Addr)} {S : List (Addr × Obj) → Prop} {P : Nat → Value → Prop} {Fin : List Value → List (Addr × Obj) → Prop} {news : List (Addr × Obj)} {Good : Value → Prop} {n : Nat} (hS : S news)
    (he : ∀ i v I oI C oC D ys m₂ h tk (E' : Value → Shared → Prop), P i v → NsObj oC m₂ → m₂ x = some v → Fr h₀ L h m → News h₀ L h ((I, oI) :: (C, oC) :: (D, lst ys) :: news) →
      wpAny (model prog w) A (eval elt (compEnvC scope cl C env)) (EltP Good h₀ L m s ((I, oI) :: (C, oC) :: (D, lst ys) :: news)) E' { s with heap := h, toks := tk })
    (hf : ∀ ys, ys.length = n → (∀ y ∈ ys, Good y) → Fin ys news) : ∀ k i ys, ys.length + k = n → (∀ y ∈ ys, Good y) → CompRest prog w A h₀ L m env elt x scope cl s S P Fin k i ys news
  | 0, i, ys, hl, hg => CompRest.zero (hf ys hl hg)
  | k + 1, i, ys, hl, hg => CompRest.succ fun v I oI C oC D m₂ h tk E' hP hN hx F N off ne => wpAny_mono (he i v I oI C oC D ys m₂ h tk E' hP hN hx F N) (fun y s₂ hy => by
      obtain ⟨gy, h', tk', rfl, F', N'⟩ := hy
      refine CompEnd.intro F' N' news (fun p hp => hp) off hS (comp_all hS he hf k (i + 1) (ys ++ [y]) (by rw [List.length_append, List.length_singleton]; omega) fun z hz => ?_)
      rcases List.mem_append.mp hz with hz | hz
      · exact hg z hz
      · rw [List.mem_singleton.mp hz]; exact gy) fun _ _ e => e
end
end

section -- CW
local macro_rules | `(tactic| walk_at "enter_def") => `(tactic| (k_dflt (refine' code_def ?k1 ?k2 ?k3 ?k4 ?k5 ?kA ?kF ?kK ?k6 ?k7 ?k8 ?k9 ?kB ?_ ?c2 ?c3 ?c4 ?c5; (case kA => exact rfl); (case kF => assumption); (case kK => assumption); (case k1 => k_asm); (case k2 => k_asm); (case k3 => k_asm); (case k4 => k_asm); (case k5 => k_asm); (case k6 => k_is); (case k7 => k_is); (case k8 => exact Nat.le_of_ble_eq_true rfl); (case k9 => first | exact BindsTo.of_eq rfl | exact binds_K (by k_in) rfl (by k_is) rfl rfl rfl); (case c5 => decide); (case kB => exact locs rfl); (case c2 => exact rfl); (case c3 => exact rfl); (case c4 => exact rfl); k_whole; intro g' L' h' FG' F' N' B' X' T'; (try dsimp only); (try k_fold))))
local macro_rules | `(tactic| walk_at "getAttr ref") => `(tactic| (k_here; k_dflt (refine' get_clsS ?k1 ?k2 ?k3 ?k4 ?k5 ?k6 ?k7 ?k8 ?k9 ?k10 ?_; (case k1 => k_asm); (case k2 => k_asm); (case k3 => k_inst); (case k4 => k_is); (case k5 => k_is); (case k6 => k_is); (case k7 => k_is); (case k8 => k_is); (case k9 => k_handed); (case k10 => decide +kernel); k_whole)))
local macro_rules | `(tactic| walk_at "getAttr ref") => `(tactic| (k_here; ((first | (with_reducible show wpAny _ _ (getAttr _ (PySem.Str.ofString "type") _) _ _ _) | (with_reducible show wpAny _ _ (getAttr _ (PySem.Str.ofString "subtype") _) _ _ _) | (with_reducible show wpAny _ _ (getAttr _ (PySem.Str.ofString "value") _) _ _ _))); k_dflt (refine' get_slot ?k1 ?k2 ?k3 ?k4 ?k5 ?k6 ?k7 ?k8 ?k9 ?k10 ?k11 ?_; (case k1 => k_asm); (case k2 => k_asm); (case k3 => k_inst); (case k4 => k_is); (case k5 => k_is); (case k6 => k_is); (case k7 => k_is); (case k8 => k_is); (case k9 => k_is); (case k10 => k_slotget); (case k11 => k_handed); k_whole)))
local macro_rules | `(tactic| walk_at "getAttr ref") => `(tactic| (k_here; (with_reducible show wpAny _ _ (getAttr (Value.ref 101) _ _) _ _ _); k_dflt (refine' cls_val ?k1 ?k2 ?k3 ?k4 ?k5 ?k6 ?_; (case k1 => k_asm); (case k2 => k_asm); (case k3 => k_is); (case k4 => k_is); (case k5 => k_is); (case k6 => k_handed); k_whole)))
local macro_rules | `(tactic| walk_at "getMethod ref") => `(tactic| (k_here; k_dflt (refine' method_cmS ?k1 ?k2 ?k3 ?k4 ?k5 ?k6 ?k7 ?k8 ?k9 ?k10 ?k11 ?k12 ?k13 ?_; (case k1 => k_asm); (case k2 => k_asm); (case k3 => k_asm); (case k4 => k_inst); (case k5 => k_is); (case k6 => k_is); (case k7 => k_is); (case k8 => k_is); (case k9 => k_is); (case k10 => k_is); (case k11 => k_is); (case k12 => decide +kernel); (case k13 => k_is); k_whole; intro q' h' F' N' l1; (try k_lt l1); (try k_sweep))))
local macro_rules | `(tactic| walk_at "own_mem") => `(tactic| first | with_reducible exact List.mem_cons_self | (with_reducible refine List.mem_cons_of_mem _ ?_; walk_at "own_mem") | with_reducible assumption)
local macro_rules | `(tactic| k_mem) => `(tactic| walk_at "own_mem")
local macro_rules | `(tactic| walk_at "callWith ref") => `(tactic| (k_here; k_dflt (refine' callWith_MKW ?k1 ?k2 ?k3 ?k4 ?k5 ?_; (case k1 => k_asm); (case k2 => k_asm); (case k3 => k_mem); (case k4 => k_is); (case k5 => exact rfl); k_whole)))
local macro_rules | `(tactic| k_all) => `(tactic| (intro p9 hp9; refine neN ?_; first | (have q9 := ktn_ltOf (by first | assumption | exact And.right (by assumption) | exact And.right (And.right (by assumption)) | exact And.right (And.right (And.right (by assumption)))) p9 hp9; (try dsimp only at q9 ⊢); omega) | (have q9 := (by assumption : ∀ p ∈ _, @LT.lt Nat _ p.1 _) p9 hp9; (try dsimp only at q9 ⊢); omega)))
local macro_rules | `(tactic| walk_at "call ref") => `(tactic| (k_here; (with_reducible show wpAny _ _ (call (Value.ref 101) [_, _, _]) _ _ _); k_dflt (refine' weaken (c_new ?kB ?kF ?kX ?kN ?kT ?kf ?kk ?_) ?h1 ?h2 ?h3 ?h4 ?h5; (case h3 => exact fun _ h => h); (case kB => k_asm); (case kF => k_asm); (case kX => k_asm); (case kN => k_asm); (case kT => k_asm); (case kf => exact rfl); (case kk => exact rfl); (case h1 => exact rfl); (case h2 => exact Nat.le_of_ble_eq_true rfl); (case h4 => exact rfl); (case h5 => exact Nat.le_of_ble_eq_true rfl); k_whole; intro y' d' h' tk' F' N' l1 l2; (try k_lt l1); (try k_lt2 l2); (try k_sweep))))
local macro_rules | `(tactic| walk_at "subscriptTail Name UnaryOp str int") => `(tactic| (refine item_strE (by assumption) (by decide) (by omega) (by omega) ?_))
local macro_rules | `(tactic| walk_at "compareOp In str str") => `(tactic| (refine in_strE (by assumption) ?_; (try dsimp only [Bool.not_true, Bool.not_false])))
local macro_rules | `(tactic| walk_at "sub_all") => `(tactic| first | (refine List.forall_mem_cons.mpr ⟨by k_mem, ?_⟩; walk_at "sub_all") | (intro p9 hp9; k_mem))
local macro_rules | `(tactic| walk_at "lt_all") => `(tactic| first | assumption | exact ktn_ltOf (by first | assumption | exact And.right (by assumption) | exact And.right (And.right (by assumption)) | exact And.right (And.right (And.right (by assumption)))))
set_option maxHeartbeats 8000000 in
theorem c_word {w : World} {mean : ExcName → Option Value} {mg mb : Str → Option Value}
   {n : Int} {t : Tok}
   {env : Env} {outer : List Env} {A₀ : Around} {base h₀ : Heap} {L : Addr} {m : Str → Option Value} {news : List (Addr × Obj)} {s : Shared} {Q E : Value → Shared → Prop}
    (B : Below A₀ base outer h₀) (F : Fr h₀ L s.heap m) (X : (Mine.hd.heap_39 w.params).In h₀) (N : News h₀ L s.heap news) (T : TopP mean mg mb h₀) (hf : env.frame = some L) (hk : env.scope.kind = .function)
    (h0 : 0 ≤ n) (h1 : n < 1000000000039)
    (hret : ∀ (v : Str) (u : Tok) (h' : Heap) (tk' : Nat), v.length ≤ 8 → AllOk v.cps.toList → Fr h₀ L h' m → News h₀ L h' news → Q (.str v u) { s with heap := h', toks := tk' }) :
      wpAny (model PySem.Challenge.pw_fh5003_01 w) (atA 600 2000 env outer) (call (.ref 121) [.int n t]) Q E s := by
  refine wpAny_call ?_
  walk_at "enter_def"
  have hr0 : 0 ≤ n.fmod 9 := Int.fmod_nonneg_of_pos n (by decide)
  have hr1 : n.fmod 9 < 9 := Int.fmod_lt_of_pos n (by decide)
  iterate 16 walk1
  k_dflt (refine' kst_range (σ := Int × Tok × Str × Tok) (n := (n.fmod 9).toNat) (fun _ => ?nw) (fun c => [(Str.ofString "number", .int c.1 c.2.1), (Str.ofString "word", .str c.2.2.1 c.2.2.2)]) (fun c => 0 ≤ c.1 ∧ c.1 < 1000000000039 ∧ AllOk c.2.2.1.cps.toList) [Str.ofString "number", Str.ofString "word"] (fun pre c => c.2.2.1.length = pre.length) (n, t, Str.ofString "", _) ?w1 ?w2 ?w3 ?w4 ?w5 ?w6 ?w7 ?w8 ?w9 ?turn ?done)
  case w1 => exact rfl
  case w2 => k_asm
  case w3 => exact small_9 hr0 hr1
  case w4 => exact size_9 hr0 hr1
  case w5 => k_asm
  case w6 => k_asm
  case w7 => exact ⟨h0, h1, nil_ok⟩
  case w8 =>
    intro p hp
    simp only [List.mem_cons, List.not_mem_nil, or_false] at hp
    rcases hp with rfl | rfl <;> exact rfl
  case w9 => exact nil_len
  case done =>
    intro c u h tk hF hP F9 N9
    obtain ⟨c1, ct, cw, cu⟩ := c
    dsimp only at *
    have hlen : cw.length ≤ 8 := by
      rw [hP]
      simp only [rangeKs, List.length_map, List.length_range]
      omega
    obtain ⟨hF0, hF1, hF2⟩ := hF
    k_steps
    exact hret _ _ _ _ hlen hF2 (by k_asm) (by k_asm)
  case turn =>
    intro c pre k t9 u h tk own hk hpre hoff hF hP F9 N9
    obtain ⟨c1, ct, cw, cu⟩ := c
    dsimp only at *
    k_steps
    all_goals (
      rename_i Fq Nq
      obtain ⟨hF0, hF1, hF2⟩ := hF
      first
        | (refine' kst_end (c1.fdiv 9, _, cw ++ Txt.item (Str.ofString "0189.eE+-A$:#T\"") ((c1.fdiv 9).fmod 15), _) Fq Nq (by exact fun p hp => List.mem_append_left _ hp) (by exact fun p hp => List.mem_append_right _ hp) (by rfl) ⟨(div_le hF0 hF1 (by decide : (0:Int) < 9)).1, (div_le hF0 hF1 (by decide : (0:Int) < 9)).2, (word_step (Int.fmod_nonneg_of_pos _ (by decide)) (Int.fmod_lt_of_pos _ (by decide)) hF2).1⟩ ?q ?r ((word_step (Int.fmod_nonneg_of_pos _ (by decide)) (Int.fmod_lt_of_pos _ (by decide)) hF2).2.trans (by rw [hP, List.length_append]; rfl)); (case q => kst_all); (case r => (intro z hz hp hs; have a1 : z ≠ Str.ofString "number" := hp _ (.head _); have a2 : z ≠ Str.ofString "word" := hp _ (.tail _ (.head _)); rw [if_neg a2, if_neg a1, if_neg hz]; simp only [kstB]; rw [if_neg a1, if_neg a2, hs]; rfl)))
        | (refine' kst_end (c1.fdiv 15, _, cw ++ Txt.item (Str.ofString "0189.eE+-A$:#T\"") ((c1.fdiv 15).fmod 15), _) Fq Nq (by exact fun p hp => List.mem_append_left _ hp) (by exact fun p hp => List.mem_append_right _ hp) (by rfl) ⟨(div_le hF0 hF1 (by decide : (0:Int) < 15)).1, (div_le hF0 hF1 (by decide : (0:Int) < 15)).2, (word_step (Int.fmod_nonneg_of_pos _ (by decide)) (Int.fmod_lt_of_pos _ (by decide)) hF2).1⟩ ?q ?r ((word_step (Int.fmod_nonneg_of_pos _ (by decide)) (Int.fmod_lt_of_pos _ (by decide)) hF2).2.trans (by rw [hP, List.length_append]; rfl)); (case q => kst_all); (case r => (intro z hz hp hs; have a1 : z ≠ Str.ofString "number" := hp _ (.head _); have a2 : z ≠ Str.ofString "word" := hp _ (.tail _ (.head _)); rw [if_neg a2, if_neg a1, if_neg hz]; simp only [kstB]; rw [if_neg a1, if_neg a2, hs]; rfl))))
end

section -- LT
def lawOf (o : Option Obj) : List Stmt × Scope := match o with
  | some ⟨_, _, .func d, _⟩ => (match d.body with | .stmts l => (l, d.scope) | _ => ([], d.scope))
  | _ => ([], ⟨.function, [], false, false, []⟩)
def lawAll : { x : List Stmt × Scope // ∀ p : Params, lawOf (List.lookup 168 (Mine.hd.heap_39 p)) = x } := by
  refine ⟨?x, fun p => ?h⟩
  case h =>
    conv => lhs; whnf
def lawStmt (i : Nat) : Stmt := lawAll.1.1.getD i (.Pass ⟨0, 0, 0, 0⟩)
def lawRest (i : Nat) : List Stmt := lawAll.1.1.drop i
def lawScopeS : { x : Scope // ∀ p : Params, (lawOf (List.lookup 168 (Mine.hd.heap_39 p))).2 = x } := by
  refine ⟨?x, fun p => ?h⟩
  case h =>
    conv => lhs; whnf
def lawScope : Scope := lawScopeS.1
def loopBody (st : Stmt) : List Stmt := match st with | .For _ _ b _ _ => b | _ => []
def lawLoop (i : Nat) : List Stmt := loopBody (lawStmt i)
def PassP (h₀ : Heap) (L : Addr) (s : Shared) (news : List (Addr × Obj)) (m : Str → Option Value) (f : Flow) (s₂ : Shared) : Prop :=
  f = .next ∧ ∃ h' tk, s₂ = { s with heap := h', toks := tk } ∧ Fr h₀ L h' m ∧ News h₀ L h' news
theorem PassP.intro {h₀ : Heap} {L : Addr} {s : Shared} {news : List (Addr × Obj)} {m : Str → Option Value} {h' : Heap} {tk : Nat} (F : Fr h₀ L h' m) (N : News h₀ L h' news) :
    PassP h₀ L s news m .next { s with heap := h', toks := tk } := ⟨rfl, h', tk, rfl, F, N⟩
theorem execs_pass {M : Model} {A : Around} {h₀ : Heap} {L : Addr} {s : Shared} {news : List (Addr × Obj)} {m : Str → Option Value} {st : Stmt} {rest : List Stmt} {env : Env} {Q : Flow → Shared → Prop} {E : Value → Shared → Prop}
    (_F : Fr h₀ L s.heap m) (_N : News h₀ L s.heap news) (h1 : wpAny M A (exec st env) (PassP h₀ L s news m) E s)
    (h2 : ∀ h' tk, Fr h₀ L h' m → News h₀ L h' news → wpAny M A (execs rest env) Q E { s with heap := h', toks := tk }) :
    wpAny M A (execs (st :: rest) env) Q E s :=
  wpAny_execs_cons (wpAny_mono h1 (fun f s' h => by obtain ⟨rfl, h', tk, rfl, F, N⟩ := h; exact h2 h' tk F N) fun _ _ e => e)
def AnyP (h₀ : Heap) (L : Addr) (s : Shared) (f : Flow) (s₂ : Shared) : Prop :=
  f = .next ∧ ∃ h' tk m, s₂ = { s with heap := h', toks := tk } ∧ Fr h₀ L h' m
theorem AnyP.intro {h₀ : Heap} {L : Addr} {s : Shared} {m : Str → Option Value} {h' : Heap} {tk : Nat} (F : Fr h₀ L h' m) :
    AnyP h₀ L s .next { s with heap := h', toks := tk } := ⟨rfl, h', tk, m, rfl, F⟩
theorem execs_any {M : Model} {A : Around} {h₀ : Heap} {L : Addr} {s : Shared} {m : Str → Option Value} {st : Stmt} {rest : List Stmt} {env : Env} {Q : Flow → Shared → Prop} {E : Value → Shared → Prop}
    (_F : Fr h₀ L s.heap m) (h1 : wpAny M A (exec st env) (AnyP h₀ L s) E s)
    (h2 : ∀ h' tk m', Fr h₀ L h' m' → News h₀ L h' [] → wpAny M A (execs rest env) Q E { s with heap := h', toks := tk }) :
    wpAny M A (execs (st :: rest) env) Q E s :=
  wpAny_execs_cons (wpAny_mono h1 (fun f s' h => by obtain ⟨rfl, h', tk, m, rfl, F⟩ := h; exact h2 h' tk m F (fun _ h => nomatch h)) fun _ _ e => e)
def RetT (h₀ : Heap) (L : Addr) (s : Shared) (f : Flow) (s₂ : Shared) : Prop :=
  f = .ret (.bool true) ∧ ∃ h' tk m, s₂ = { s with heap := h', toks := tk } ∧ Fr h₀ L h' m
theorem RetT.intro {h₀ : Heap} {L : Addr} {s : Shared} {m : Str → Option Value} {h' : Heap} {tk : Nat} (F : Fr h₀ L h' m) :
    RetT h₀ L s (.ret (.bool true)) { s with heap := h', toks := tk } := ⟨rfl, h', tk, m, rfl, F⟩
end

section -- LW0
local macro_rules | `(tactic| walk_at "enter_def") => `(tactic| (k_dflt (refine' code_def ?k1 ?k2 ?k3 ?k4 ?k5 ?kA ?kF ?kK ?k6 ?k7 ?k8 ?k9 ?kB ?_ ?c2 ?c3 ?c4 ?c5; (case kA => exact rfl); (case kF => assumption); (case kK => assumption); (case k1 => k_asm); (case k2 => k_asm); (case k3 => k_asm); (case k4 => k_asm); (case k5 => k_asm); (case k6 => k_is); (case k7 => k_is); (case k8 => exact Nat.le_of_ble_eq_true rfl); (case k9 => first | exact BindsTo.of_eq rfl | exact binds_K (by k_in) rfl (by k_is) rfl rfl rfl); (case c5 => decide); (case kB => exact locs rfl); (case c2 => exact rfl); (case c3 => exact rfl); (case c4 => exact rfl); k_whole; intro g' L' h' FG' F' N' B' X' T'; (try dsimp only); (try k_fold))))
local macro_rules | `(tactic| walk_at "getAttr ref") => `(tactic| (k_here; k_dflt (refine' get_clsS ?k1 ?k2 ?k3 ?k4 ?k5 ?k6 ?k7 ?k8 ?k9 ?k10 ?_; (case k1 => k_asm); (case k2 => k_asm); (case k3 => k_inst); (case k4 => k_is); (case k5 => k_is); (case k6 => k_is); (case k7 => k_is); (case k8 => k_is); (case k9 => k_handed); (case k10 => decide +kernel); k_whole)))
local macro_rules | `(tactic| walk_at "getAttr ref") => `(tactic| (k_here; ((first | (with_reducible show wpAny _ _ (getAttr _ (PySem.Str.ofString "type") _) _ _ _) | (with_reducible show wpAny _ _ (getAttr _ (PySem.Str.ofString "subtype") _) _ _ _) | (with_reducible show wpAny _ _ (getAttr _ (PySem.Str.ofString "value") _) _ _ _))); k_dflt (refine' get_slot ?k1 ?k2 ?k3 ?k4 ?k5 ?k6 ?k7 ?k8 ?k9 ?k10 ?k11 ?_; (case k1 => k_asm); (case k2 => k_asm); (case k3 => k_inst); (case k4 => k_is); (case k5 => k_is); (case k6 => k_is); (case k7 => k_is); (case k8 => k_is); (case k9 => k_is); (case k10 => k_slotget); (case k11 => k_handed); k_whole)))
local macro_rules | `(tactic| walk_at "getAttr ref") => `(tactic| (k_here; (with_reducible show wpAny _ _ (getAttr (Value.ref 101) _ _) _ _ _); k_dflt (refine' cls_val ?k1 ?k2 ?k3 ?k4 ?k5 ?k6 ?_; (case k1 => k_asm); (case k2 => k_asm); (case k3 => k_is); (case k4 => k_is); (case k5 => k_is); (case k6 => k_handed); k_whole)))
local macro_rules | `(tactic| walk_at "getMethod ref") => `(tactic| (k_here; k_dflt (refine' method_cmS ?k1 ?k2 ?k3 ?k4 ?k5 ?k6 ?k7 ?k8 ?k9 ?k10 ?k11 ?k12 ?k13 ?_; (case k1 => k_asm); (case k2 => k_asm); (case k3 => k_asm); (case k4 => k_inst); (case k5 => k_is); (case k6 => k_is); (case k7 => k_is); (case k8 => k_is); (case k9 => k_is); (case k10 => k_is); (case k11 => k_is); (case k12 => decide +kernel); (case k13 => k_is); k_whole; intro q' h' F' N' l1; (try k_lt l1); (try k_sweep))))
local macro_rules | `(tactic| walk_at "own_mem") => `(tactic| first | with_reducible exact List.mem_cons_self | (with_reducible refine List.mem_cons_of_mem _ ?_; walk_at "own_mem") | with_reducible assumption)
local macro_rules | `(tactic| k_mem) => `(tactic| walk_at "own_mem")
local macro_rules | `(tactic| walk_at "callWith ref") => `(tactic| (k_here; k_dflt (refine' callWith_MKW ?k1 ?k2 ?k3 ?k4 ?k5 ?_; (case k1 => k_asm); (case k2 => k_asm); (case k3 => k_mem); (case k4 => k_is); (case k5 => exact rfl); k_whole)))
local macro_rules | `(tactic| k_all) => `(tactic| (intro p9 hp9; refine neN ?_; first | (have q9 := ktn_ltOf (by first | assumption | exact And.right (by assumption) | exact And.right (And.right (by assumption)) | exact And.right (And.right (And.right (by assumption)))) p9 hp9; (try dsimp only at q9 ⊢); omega) | (have q9 := (by assumption : ∀ p ∈ _, @LT.lt Nat _ p.1 _) p9 hp9; (try dsimp only at q9 ⊢); omega)))
local macro_rules | `(tactic| walk_at "call ref") => `(tactic| (k_here; (with_reducible show wpAny _ _ (call (Value.ref 101) [_, _, _]) _ _ _); k_dflt (refine' weaken (c_new ?kB ?kF ?kX ?kN ?kT ?kf ?kk ?_) ?h1 ?h2 ?h3 ?h4 ?h5; (case h3 => exact fun _ h => h); (case kB => k_asm); (case kF => k_asm); (case kX => k_asm); (case kN => k_asm); (case kT => k_asm); (case kf => exact rfl); (case kk => exact rfl); (case h1 => exact rfl); (case h2 => exact Nat.le_of_ble_eq_true rfl); (case h4 => exact rfl); (case h5 => exact Nat.le_of_ble_eq_true rfl); k_whole; intro y' d' h' tk' F' N' l1 l2; (try k_lt l1); (try k_lt2 l2); (try k_sweep))))
local macro_rules | `(tactic| walk_at "subscriptTail Name UnaryOp str int") => `(tactic| (refine item_strE (by assumption) (by decide) (by omega) (by omega) ?_))
local macro_rules | `(tactic| walk_at "compareOp In str str") => `(tactic| (refine in_strE (by assumption) ?_; (try dsimp only [Bool.not_true, Bool.not_false])))
local macro_rules | `(tactic| walk_at "sub_all") => `(tactic| first | (refine List.forall_mem_cons.mpr ⟨by k_mem, ?_⟩; walk_at "sub_all") | (intro p9 hp9; k_mem))
local macro_rules | `(tactic| walk_at "lt_all") => `(tactic| first | assumption | exact ktn_ltOf (by first | assumption | exact And.right (by assumption) | exact And.right (And.right (by assumption)) | exact And.right (And.right (And.right (by assumption)))))
theorem told_tst {w : World} {p p1 p2 : Pos} {scope : Scope} {A : Around} {env : Env} (hk : ∀ C : Addr, (compEnvC scope [] C env).scope.kind = .function) (h1 : ∀ C : Addr, (compEnvC scope [] C env).kindOf (Str.ofString "told") = some .local) (h2 : ∀ C : Addr, (compEnvC scope [] C env).kindOf (Str.ofString "due") = some .local) :
    SameTest PySem.Challenge.pw_fh5003_01 w A env (.Compare (.Name (Str.ofString "told") p1) [.NotEq] [.Name (Str.ofString "due") p2] p) (Str.ofString "told") (Str.ofString "due") scope [] := by
  intro g C a u1 u2 r E' s FC
  refine wpAny_isTrue_Compare1 ?_
  refine ldVarK FC.ns (by exact rfl) ?_ (hk C) (h1 C) (by decide)
  refine ldVarK FC.ns (by exact rfl) ?_ (hk C) (h2 C) (by decide)
  refine PyProof.Rows.ne_str ?_
  rw [bne_self_eq_false]
  walk1
  exact ⟨rfl, _, rfl⟩
local macro_rules | `(tactic| walk_at "isTrue Compare") => `(tactic| refine wpAny_isTrue_Compare1 ?_)
local macro_rules | `(tactic| walk_at "call ref") => `(tactic| (k_here; (with_reducible show wpAny _ _ (call (Value.ref 114) _ _) _ _ _); k_dflt (refine' weaken (c_names ?kB ?kF ?kX ?kN ?kT ?kf ?kk ?_) ?h1 ?h2 ?h3 ?h4 ?h5; (case h3 => exact fun _ h => h); (case kB => k_asm); (case kF => k_asm); (case kX => k_asm); (case kN => k_asm); (case kT => k_asm); (case kf => exact rfl); (case kk => exact rfl); (case h1 => exact rfl); (case h2 => exact Nat.le_of_ble_eq_true rfl); (case h4 => exact rfl); (case h5 => exact Nat.le_of_ble_eq_true rfl); k_whole; intro ax' its' c' new' h' tk' F' N' hm' hl' hp')))
local macro_rules | `(tactic| walk_at "eval ListComp") => `(tactic| (k_here; k_dflt (refine' names_comp ?kF ?a1 ?a2 ?a3 ?a4 ?a5 ?a6 ?a7 ?tst ?_ ?a8; (case kF => k_asm); (case a1 => exact rfl); (case a2 => decide); (case a3 => exact rfl); (case a4 => decide); (case a5 => exact rfl); (case a6 => exact rfl); (case a7 => decide); (case a8 => (intro _; rfl)); (case tst => exact told_tst (fun _ => rfl) (fun _ => rfl) (fun _ => rfl)))))
set_option maxHeartbeats 80000000 in
theorem law_st0 {w : World} {mean : ExcName → Option Value} {mg mb : Str → Option Value}
   {a : Addr} {ccd : Value} {h₀ : Heap} {L : Addr} {m : Str → Option Value} {s : Shared}
    (B : Below callerA h₀ [] h₀) (F : Fr h₀ L s.heap m) (X : (Mine.hd.heap_39 w.params).In h₀) (N : News h₀ L s.heap []) (T : TopP mean mg mb h₀) :
      wpAny (model PySem.Challenge.pw_fh5003_01 w) (callerA.deeper (envOf (Str.ofString "law") lawScope L a ccd)) (exec (lawStmt 0) (envOf (Str.ofString "law") lawScope L a ccd)) (PassP h₀ L s [] m) (fun _ _ => False) s := by
  conv in lawStmt 0 => whnf
  k_steps
  rename_i ax its c new h' tk' F' N' hm hl hp
  refine ⟨_, _, _, _, rfl, rfl, F', N', List.mem_append_left _ hm, (fun v hv => by obtain ⟨t, y, u1, u2, e, hy⟩ := hp v hv; exact ⟨t, y, u1, u2, e, List.mem_append_left _ hy⟩), ?_⟩
  intro D h2 tk2 F2 N2
  have N3 : News h₀ L h2 [(D, LCg.lst [])] := fun p hp => N2 p (by rw [List.mem_singleton.mp hp]; exact List.mem_cons_self)
  clear N2 N' hm hl hp F'
  k_steps
  exact PassP.intro (by assumption) (fun _ h => nomatch h)
end

section -- LW1
local macro_rules | `(tactic| walk_at "enter_def") => `(tactic| (k_dflt (refine' code_def ?k1 ?k2 ?k3 ?k4 ?k5 ?kA ?kF ?kK ?k6 ?k7 ?k8 ?k9 ?kB ?_ ?c2 ?c3 ?c4 ?c5; (case kA => exact rfl); (case kF => assumption); (case kK => assumption); (case k1 => k_asm); (case k2 => k_asm); (case k3 => k_asm); (case k4 => k_asm); (case k5 => k_asm); (case k6 => k_is); (case k7 => k_is); (case k8 => exact Nat.le_of_ble_eq_true rfl); (case k9 => first | exact BindsTo.of_eq rfl | exact binds_K (by k_in) rfl (by k_is) rfl rfl rfl); (case c5 => decide); (case kB => exact locs rfl); (case c2 => exact rfl); (case c3 => exact rfl); (case c4 => exact rfl); k_whole; intro g' L' h' FG' F' N' B' X' T'; (try dsimp only); (try k_fold))))
local macro_rules | `(tactic| walk_at "getAttr ref") => `(tactic| (k_here; k_dflt (refine' get_clsS ?k1 ?k2 ?k3 ?k4 ?k5 ?k6 ?k7 ?k8 ?k9 ?k10 ?_; (case k1 => k_asm); (case k2 => k_asm); (case k3 => k_inst); (case k4 => k_is); (case k5 => k_is); (case k6 => k_is); (case k7 => k_is); (case k8 => k_is); (case k9 => k_handed); (case k10 => decide +kernel); k_whole)))
local macro_rules | `(tactic| walk_at "getAttr ref") => `(tactic| (k_here; ((first | (with_reducible show wpAny _ _ (getAttr _ (PySem.Str.ofString "type") _) _ _ _) | (with_reducible show wpAny _ _ (getAttr _ (PySem.Str.ofString "subtype") _) _ _ _) | (with_reducible show wpAny _ _ (getAttr _ (PySem.Str.ofString "value") _) _ _ _))); k_dflt (refine' get_slot ?k1 ?k2 ?k3 ?k4 ?k5 ?k6 ?k7 ?k8 ?k9 ?k10 ?k11 ?_; (case k1 => k_asm); (case k2 => k_asm); (case k3 => k_inst); (case k4 => k_is); (case k5 => k_is); (case k6 => k_is); (case k7 => k_is); (case k8 => k_is); (case k9 => k_is); (case k10 => k_slotget); (case k11 => k_handed); k_whole)))
local macro_rules | `(tactic| walk_at "getAttr ref") => `(tactic| (k_here; (with_reducible show wpAny _ _ (getAttr (Value.ref 101) _ _) _ _ _); k_dflt (refine' cls_val ?k1 ?k2 ?k3 ?k4 ?k5 ?k6 ?_; (case k1 => k_asm); (case k2 => k_asm); (case k3 => k_is); (case k4 => k_is); (case k5 => k_is); (case k6 => k_handed); k_whole)))
local macro_rules | `(tactic| walk_at "getMethod ref") => `(tactic| (k_here; k_dflt (refine' method_cmS ?k1 ?k2 ?k3 ?k4 ?k5 ?k6 ?k7 ?k8 ?k9 ?k10 ?k11 ?k12 ?k13 ?_; (case k1 => k_asm); (case k2 => k_asm); (case k3 => k_asm); (case k4 => k_inst); (case k5 => k_is); (case k6 => k_is); (case k7 => k_is); (case k8 => k_is); (case k9 => k_is); (case k10 => k_is); (case k11 => k_is); (case k12 => decide +kernel); (case k13 => k_is); k_whole; intro q' h' F' N' l1; (try k_lt l1); (try k_sweep))))
local macro_rules | `(tactic| walk_at "own_mem") => `(tactic| first | with_reducible exact List.mem_cons_self | (with_reducible refine List.mem_cons_of_mem _ ?_; walk_at "own_mem") | with_reducible assumption)
local macro_rules | `(tactic| k_mem) => `(tactic| walk_at "own_mem")
local macro_rules | `(tactic| walk_at "callWith ref") => `(tactic| (k_here; k_dflt (refine' callWith_MKW ?k1 ?k2 ?k3 ?k4 ?k5 ?_; (case k1 => k_asm); (case k2 => k_asm); (case k3 => k_mem); (case k4 => k_is); (case k5 => exact rfl); k_whole)))
local macro_rules | `(tactic| k_all) => `(tactic| (intro p9 hp9; refine neN ?_; first | (have q9 := ktn_ltOf (by first | assumption | exact And.right (by assumption) | exact And.right (And.right (by assumption)) | exact And.right (And.right (And.right (by assumption)))) p9 hp9; (try dsimp only at q9 ⊢); omega) | (have q9 := (by assumption : ∀ p ∈ _, @LT.lt Nat _ p.1 _) p9 hp9; (try dsimp only at q9 ⊢); omega)))
local macro_rules | `(tactic| walk_at "call ref") => `(tactic| (k_here; (with_reducible show wpAny _ _ (call (Value.ref 101) [_, _, _]) _ _ _); k_dflt (refine' weaken (c_new ?kB ?kF ?kX ?kN ?kT ?kf ?kk ?_) ?h1 ?h2 ?h3 ?h4 ?h5; (case h3 => exact fun _ h => h); (case kB => k_asm); (case kF => k_asm); (case kX => k_asm); (case kN => k_asm); (case kT => k_asm); (case kf => exact rfl); (case kk => exact rfl); (case h1 => exact rfl); (case h2 => exact Nat.le_of_ble_eq_true rfl); (case h4 => exact rfl); (case h5 => exact Nat.le_of_ble_eq_true rfl); k_whole; intro y' d' h' tk' F' N' l1 l2; (try k_lt l1); (try k_lt2 l2); (try k_sweep))))
local macro_rules | `(tactic| walk_at "subscriptTail Name UnaryOp str int") => `(tactic| (refine item_strE (by assumption) (by decide) (by omega) (by omega) ?_))
local macro_rules | `(tactic| walk_at "compareOp In str str") => `(tactic| (refine in_strE (by assumption) ?_; (try dsimp only [Bool.not_true, Bool.not_false])))
local macro_rules | `(tactic| walk_at "sub_all") => `(tactic| first | (refine List.forall_mem_cons.mpr ⟨by k_mem, ?_⟩; walk_at "sub_all") | (intro p9 hp9; k_mem))
local macro_rules | `(tactic| walk_at "lt_all") => `(tactic| first | assumption | exact ktn_ltOf (by first | assumption | exact And.right (by assumption) | exact And.right (And.right (by assumption)) | exact And.right (And.right (And.right (by assumption)))))
def GoodV (v : Value) : Prop := ∃ x t, v = .str x t ∧ x.length ≤ 8 ∧ AllOk x.cps.toList
def WordsP (h₀ : Heap) (L : Addr) (s : Shared) (m : Str → Option Value) (f : Flow) (s₂ : Shared) : Prop :=
  f = .next ∧ ∃ (h' : Heap) (tk : Nat) (D : Addr) (vs : List Value) (k : Nat), s₂ = { s with heap := h', toks := tk } ∧ Fr h₀ L h' (fun y => if y = Str.ofString "words" then some (.ref D) else m y) ∧ News h₀ L h' [(D, listOf vs.toArray k)] ∧ (∀ v ∈ vs, GoodV v) ∧ vs.length ≤ 100
theorem allOk_of {l : List Nat} (h : l.all okC = true) : AllOk l := List.all_eq_true.mp h
theorem words_fixed {w : World} {h₀ : Heap} (X : (Mine.hd.heap_39 w.params).In h₀) : ∃ vs : List Value, h₀.IsList 107 vs.toArray ∧ (∀ v ∈ vs, GoodV v) ∧ vs.length ≤ 30 := by
  refine ⟨?vs, ⟨?o, X 107 ?o ?e, ?c, 0, ?d⟩, ?g, ?l⟩
  case e => conv => lhs; whnf
  case c => exact rfl
  case d => exact rfl
  case l => exact Nat.le_of_ble_eq_true rfl
  case g =>
    repeat (refine List.forall_mem_cons.mpr ⟨⟨_, _, rfl, by decide +kernel, allOk_of (by decide +kernel)⟩, ?_⟩)
    exact List.forall_mem_nil _
local macro_rules | `(tactic| walk_at "eval ListComp") => `(tactic| (k_here; k_dflt (refine LCg.ListComp_U (F₀ := by k_asm) (by rfl) (by decide) (by rfl) (by decide) (by rfl) ?_)))
local macro_rules | `(tactic| walk_at "call ref") => `(tactic| (k_here; (with_reducible show wpAny _ _ (call (Value.ref 121) [Value.int _ _] _) _ _ _); k_dflt (refine' weaken (c_word ?kB ?kF ?kX ?kN ?kT ?kf ?kk ?z1 ?z2 ?_) ?h1 ?h2 ?h3 ?h4 ?h5; (case h3 => exact fun _ h => h); (case kB => k_asm); (case kF => k_asm); (case kX => k_asm); (case kN => k_asm); (case kT => k_asm); (case kf => exact rfl); (case kk => exact rfl); (case h1 => exact rfl); (case h2 => exact Nat.le_of_ble_eq_true rfl); (case h4 => exact rfl); (case h5 => exact Nat.le_of_ble_eq_true rfl); (case z1 => exact Int.fmod_nonneg_of_pos _ (by decide)); (case z2 => exact Int.fmod_lt_of_pos _ (by decide)); k_whole; intro v' u' h' tk' hl' hg' F' N')))
set_option maxHeartbeats 80000000 in
theorem law_st1 {w : World} {mean : ExcName → Option Value} {mg mb : Str → Option Value}
   {a : Addr} {ccd : Value} {h₀ : Heap} {L : Addr} {m : Str → Option Value} {s : Shared} {q : Addr} {us : List Value} {ns : List Int}
    (B : Below callerA h₀ [] h₀) (F : Fr h₀ L s.heap (fun y => if y = Str.ofString "script" then some (.ref q) else m y)) (X : (Mine.hd.heap_39 w.params).In h₀) (N : News h₀ L s.heap []) (T : TopP mean mg mb h₀)
    (hL : h₀.IsList q us.toArray) (hI : IntsAre us ns) (hlen : ns.length ≤ 63) :
      wpAny (model PySem.Challenge.pw_fh5003_01 w) (callerA.deeper (envOf (Str.ofString "law") lawScope L a ccd)) (exec (lawStmt 1) (envOf (Str.ofString "law") lawScope L a ccd)) (WordsP h₀ L s (fun y => if y = Str.ofString "script" then some (.ref q) else m y)) (fun _ _ => False) s := by
  conv in lawStmt 1 => whnf
  iterate 11 walk1
  rename_i D1 ws h1 F1 N1 hI1 hC1 hL1 l1
  have hw : ws.toArray.size ≤ 63 := by rw [List.size_toArray, hI1.length]; omega
  refine LCg.CompSrc.ledger rfl F1 N1 List.mem_cons_self (Nat.le_trans hw (by rw [sizeLine_eq]; decide)) ?_
  intro g
  dsimp only
  refine comp_all (Good := GoodV) (n := ws.toArray.size) (.inr ⟨_, List.mem_cons_self, rfl, _, rfl⟩) ?he ?hf _ 0 [] (Nat.zero_add _) (fun _ h => nomatch h)
  case he =>
    intro i v I oI C oC D ys m₂ h tk E' hP hN hx Fq Nq
    rw [List.getElem?_toArray] at hP
    obtain ⟨n, t, rfl, _⟩ := hI1.at i v hP
    clear F1 N1
    k_steps
    rename_i v' u' h' tk' hl' hg' F' N'
    exact EltP.intro ⟨v', u', rfl, hl', hg'⟩ F' N'
  case hf =>
    intro ys hl hg
    intro D h tk F' N' o1
    obtain ⟨vs, hv1, hv2, hv3⟩ := words_fixed X
    clear F1 N1
    iterate 1 walk1
    dsimp only
    obtain ⟨o9, e9, r9⟩ := hv1
    refine kmk_add_lit (its := ys.toArray) (its2 := vs.toArray) (zs := ys ++ vs) F' N' ⟨_, (N' _ List.mem_cons_self).1, rfl, _, rfl⟩ ⟨o9, F'.keep _ _ e9, r9⟩ rfl ?_ (by
      have e1 : ys.toArray.toList.length = ys.length := rfl
      have e2 : vs.toArray.toList.length = vs.length := rfl
      rw [sizeLine_eq, e1, e2]
      omega)
    intro D2 h2 F2 N2 l2
    have N3 : News h₀ L h2 [(D2, listOf (ys ++ vs).toArray 0)] := fun p hp => N2 p (by rw [List.mem_singleton.mp hp]; exact List.mem_cons_self)
    clear N2 l2 F' N' o1
    dsimp only
    walk1
    rename_i h3 F3 N4
    refine ⟨rfl, h3, _, D2, ys ++ vs, 0, rfl, F3, N4, fun v hv => ?_, by rw [List.length_append]; omega⟩
    rcases List.mem_append.mp hv with hv | hv
    · exact hg v hv
    · exact hv2 v hv
end

section -- BC
local macro_rules | `(tactic| walk_at "enter_def") => `(tactic| (k_dflt (refine' code_def ?k1 ?k2 ?k3 ?k4 ?k5 ?kA ?kF ?kK ?k6 ?k7 ?k8 ?k9 ?kB ?_ ?c2 ?c3 ?c4 ?c5; (case kA => exact rfl); (case kF => assumption); (case kK => assumption); (case k1 => k_asm); (case k2 => k_asm); (case k3 => k_asm); (case k4 => k_asm); (case k5 => k_asm); (case k6 => k_is); (case k7 => k_is); (case k8 => exact Nat.le_of_ble_eq_true rfl); (case k9 => first | exact BindsTo.of_eq rfl | exact binds_K (by k_in) rfl (by k_is) rfl rfl rfl); (case c5 => decide); (case kB => exact locs rfl); (case c2 => exact rfl); (case c3 => exact rfl); (case c4 => exact rfl); k_whole; intro g' L' h' FG' F' N' B' X' T'; (try dsimp only); (try k_fold))))
local macro_rules | `(tactic| walk_at "getAttr ref") => `(tactic| (k_here; k_dflt (refine' get_clsS ?k1 ?k2 ?k3 ?k4 ?k5 ?k6 ?k7 ?k8 ?k9 ?k10 ?_; (case k1 => k_asm); (case k2 => k_asm); (case k3 => k_inst); (case k4 => k_is); (case k5 => k_is); (case k6 => k_is); (case k7 => k_is); (case k8 => k_is); (case k9 => k_handed); (case k10 => decide +kernel); k_whole)))
local macro_rules | `(tactic| walk_at "getAttr ref") => `(tactic| (k_here; ((first | (with_reducible show wpAny _ _ (getAttr _ (PySem.Str.ofString "type") _) _ _ _) | (with_reducible show wpAny _ _ (getAttr _ (PySem.Str.ofString "subtype") _) _ _ _) | (with_reducible show wpAny _ _ (getAttr _ (PySem.Str.ofString "value") _) _ _ _))); k_dflt (refine' get_slot ?k1 ?k2 ?k3 ?k4 ?k5 ?k6 ?k7 ?k8 ?k9 ?k10 ?k11 ?_; (case k1 => k_asm); (case k2 => k_asm); (case k3 => k_inst); (case k4 => k_is); (case k5 => k_is); (case k6 => k_is); (case k7 => k_is); (case k8 => k_is); (case k9 => k_is); (case k10 => k_slotget); (case k11 => k_handed); k_whole)))
local macro_rules | `(tactic| walk_at "getAttr ref") => `(tactic| (k_here; (with_reducible show wpAny _ _ (getAttr (Value.ref 101) _ _) _ _ _); k_dflt (refine' cls_val ?k1 ?k2 ?k3 ?k4 ?k5 ?k6 ?_; (case k1 => k_asm); (case k2 => k_asm); (case k3 => k_is); (case k4 => k_is); (case k5 => k_is); (case k6 => k_handed); k_whole)))
local macro_rules | `(tactic| walk_at "getMethod ref") => `(tactic| (k_here; k_dflt (refine' method_cmS ?k1 ?k2 ?k3 ?k4 ?k5 ?k6 ?k7 ?k8 ?k9 ?k10 ?k11 ?k12 ?k13 ?_; (case k1 => k_asm); (case k2 => k_asm); (case k3 => k_asm); (case k4 => k_inst); (case k5 => k_is); (case k6 => k_is); (case k7 => k_is); (case k8 => k_is); (case k9 => k_is); (case k10 => k_is); (case k11 => k_is); (case k12 => decide +kernel); (case k13 => k_is); k_whole; intro q' h' F' N' l1; (try k_lt l1); (try k_sweep))))
local macro_rules | `(tactic| walk_at "own_mem") => `(tactic| first | with_reducible exact List.mem_cons_self | (with_reducible refine List.mem_cons_of_mem _ ?_; walk_at "own_mem") | with_reducible assumption)
local macro_rules | `(tactic| k_mem) => `(tactic| walk_at "own_mem")
local macro_rules | `(tactic| walk_at "callWith ref") => `(tactic| (k_here; k_dflt (refine' callWith_MKW ?k1 ?k2 ?k3 ?k4 ?k5 ?_; (case k1 => k_asm); (case k2 => k_asm); (case k3 => k_mem); (case k4 => k_is); (case k5 => exact rfl); k_whole)))
local macro_rules | `(tactic| k_all) => `(tactic| (intro p9 hp9; refine neN ?_; first | (have q9 := ktn_ltOf (by first | assumption | exact And.right (by assumption) | exact And.right (And.right (by assumption)) | exact And.right (And.right (And.right (by assumption)))) p9 hp9; (try dsimp only at q9 ⊢); omega) | (have q9 := (by assumption : ∀ p ∈ _, @LT.lt Nat _ p.1 _) p9 hp9; (try dsimp only at q9 ⊢); omega)))
local macro_rules | `(tactic| walk_at "call ref") => `(tactic| (k_here; (with_reducible show wpAny _ _ (call (Value.ref 101) [_, _, _]) _ _ _); k_dflt (refine' weaken (c_new ?kB ?kF ?kX ?kN ?kT ?kf ?kk ?_) ?h1 ?h2 ?h3 ?h4 ?h5; (case h3 => exact fun _ h => h); (case kB => k_asm); (case kF => k_asm); (case kX => k_asm); (case kN => k_asm); (case kT => k_asm); (case kf => exact rfl); (case kk => exact rfl); (case h1 => exact rfl); (case h2 => exact Nat.le_of_ble_eq_true rfl); (case h4 => exact rfl); (case h5 => exact Nat.le_of_ble_eq_true rfl); k_whole; intro y' d' h' tk' F' N' l1 l2; (try k_lt l1); (try k_lt2 l2); (try k_sweep))))
local macro_rules | `(tactic| walk_at "subscriptTail Name UnaryOp str int") => `(tactic| (refine item_strE (by assumption) (by decide) (by omega) (by omega) ?_))
local macro_rules | `(tactic| walk_at "compareOp In str str") => `(tactic| (refine in_strE (by assumption) ?_; (try dsimp only [Bool.not_true, Bool.not_false])))
local macro_rules | `(tactic| walk_at "sub_all") => `(tactic| first | (refine List.forall_mem_cons.mpr ⟨by k_mem, ?_⟩; walk_at "sub_all") | (intro p9 hp9; k_mem))
local macro_rules | `(tactic| walk_at "lt_all") => `(tactic| first | assumption | exact ktn_ltOf (by first | assumption | exact And.right (by assumption) | exact And.right (And.right (by assumption)) | exact And.right (And.right (And.right (by assumption)))))
local macro_rules | `(tactic| walk_at "getMethod ref") => `(tactic| (k_here; (with_reducible show wpAny _ _ (getMethod (Value.ref 36) _ _) _ _ _); k_dflt (refine' pat_method ?k1 ?k2 ?_; (case k1 => k_asm); (case k2 => k_asm); k_whole)))
local macro_rules | `(tactic| walk_at "call builtin:re.Pattern.match") => `(tactic| (k_here; k_dflt (refine' match_K true ?k1 ?k2 ?k3 ?k4 ?k5 ?_; (case k1 => k_asm); (case k2 => k_asm); (case k3 => k_asm); (case k4 => (have hz9 := (by assumption : _ ≤ (16 : Nat)); exact Nat.le_trans hz9 (by decide))); (case k5 => exact fun A E s Q h => (by assumption : RunIs true _) _ _ A E s Q h); k_whole; intro q' tu' h' a' b' F' N' l1 l2; (try k_lt l1); (try k_lt2 l2); (try k_sweep))))
local macro_rules | `(tactic| walk_at "truthy ref") => `(tactic| (k_here; k_dflt (refine' truthy_match ?k1 ?k2 ?_; (case k1 => k_asm); (case k2 => k_mem); k_whole)))
local macro_rules | `(tactic| walk_at "str_ok") => `(tactic| first | assumption | decide +kernel)
local macro_rules | `(tactic| walk_at "call ref") => `(tactic| (k_here; (with_reducible show wpAny _ _ (call (Value.ref 149) _) _ _ _); k_dflt (refine' weaken (c_three ?kB ?kF ?kX ?kN ?kT ?kf ?kk ?kx ?kd ?z1 ?z2 ?z3 ?_) ?h1 ?h2 ?h3 ?h4 ?h5; (case h3 => exact fun _ h => h); (case kB => k_asm); (case kF => k_asm); (case kX => k_asm); (case kN => k_asm); (case kT => k_asm); (case kf => exact rfl); (case kk => exact rfl); (case kx => k_mem); (case kd => k_mem); (case z1 => exact shaped3 (by walk_at "str_ok") (by walk_at "str_ok") (by walk_at "str_ok")); (case z2 => exact shaped3 (by walk_at "str_ok") (by walk_at "str_ok") (by walk_at "str_ok")); (case z3 => exact eqv3 _ _ _); (case h1 => exact rfl); (case h2 => exact Nat.le_of_ble_eq_true rfl); (case h4 => exact rfl); (case h5 => exact Nat.le_of_ble_eq_true rfl); k_whole; intro h' tk' F' N'; (try k_sweep))))
local macro_rules | `(tactic| walk_at "clo_end") => `(tactic| ((case h3 => exact fun _ h => h); (case kB => k_asm); (case kF => k_asm); (case kX => k_asm); (case kN => k_asm); (case kT => k_asm); (case kf => exact rfl); (case kk => exact rfl); (case kx => k_mem); (case kd => k_mem); (case h1 => exact rfl); (case h2 => exact Nat.le_of_ble_eq_true rfl); (case h4 => exact rfl); (case h5 => exact Nat.le_of_ble_eq_true rfl); k_whole; intro y' d' u1' u2' u3' h' tk' F' N' l1 l2; (try k_lt l1); (try k_lt2 l2); (try k_sweep)))
local macro_rules | `(tactic| walk_at "call ref") => `(tactic| (k_here; (with_reducible show wpAny _ _ (call (Value.ref 87) _) _ _ _); k_dflt (first
  | refine' weaken (clo_FUNC ?kB ?kF ?kX ?kN ?kT ?kf ?kk ?kx ?kd ?_) ?h1 ?h2 ?h3 ?h4 ?h5; walk_at "clo_end"
  | refine' weaken (clo_ARRAY ?kB ?kF ?kX ?kN ?kT ?kf ?kk ?kx ?kd ?_) ?h1 ?h2 ?h3 ?h4 ?h5; walk_at "clo_end"
  | refine' weaken (clo_PAREN ?kB ?kF ?kX ?kN ?kT ?kf ?kk ?kx ?kd ?_) ?h1 ?h2 ?h3 ?h4 ?h5; walk_at "clo_end")))
theorem c_operand2 {w : World} {mean : ExcName → Option Value} {mg mb : Str → Option Value}
   {v : Str} {t : Tok} {q : Addr}
   {cn : Str} {cs : Scope} {a : Addr} {ccd : Value} {base h₀ : Heap} {L : Addr} {m : Str → Option Value} {news : List (Addr × Obj)} {s : Shared} {Q E : Value → Shared → Prop}
    (B : Below callerA base [] h₀) (F : Fr h₀ L s.heap m) (X : (Mine.hd.heap_39 w.params).In h₀) (N : News h₀ L s.heap news) (T : TopP mean mg mb h₀) (hk : cs.kind = .function)
    (hq : (q, methodObj (.ref 66) (.ref 101)) ∈ news)
    (hs2 : v.length ≤ 16) (hlay : PyData.layable0 (.str v) = true) (hok : AllOk v.cps.toList)
    (hret : ∀ (y dy : Addr) (u2 u3 : Tok) (h' : Heap) (tk' : Nat), Fr h₀ L h' m → News h₀ L h' ((y, tokO dy v (Str.ofString "OPERAND") (subOf v) t u2 u3) :: (dy, dictOf [] 0) :: news) → (∀ p ∈ news, p.1 < dy) → dy < y → Q (.ref y) { s with heap := h', toks := tk' }) :
      wpAny (model PySem.Challenge.pw_fh5003_01 w) (callerA.deeper (envOf cn cs L a ccd)) (call (.ref q) [.str v t] []) Q E s :=
  c_operand B F X N T hk hq hs2 hlay (by rw [sub_eq hok]; exact hret)
theorem rep_eq (x y : Str) : (((((Str.ofString "OPERAND" ++ Str.ofString " ") ++ x) ++ Str.ofString " ") ++ y) ++ Str.ofString ":") = ((((Str.ofString "OPERAND " ++ x) ++ Str.ofString " ") ++ y) ++ Str.ofString ":") := by
  rw [show Str.ofString "OPERAND" ++ Str.ofString " " = Str.ofString "OPERAND " from by decide +kernel]
theorem ne_same {prog : Program} {w : World} {A : Around} {E : Value → Shared → Prop} {s : Shared} {x y : Str} {t u : Tok} {Q : Value → Shared → Prop} (e : x = y) (h : Q (.bool false) s) : wpAny (model prog w) A (compareOp .NotEq (.str x t) (.str y u)) Q E s := by
  have e2 : (x != y) = false := by rw [e, bne_self_eq_false]
  exact PyProof.Rows.ne_str (by rw [e2]; exact h)
local macro_rules | `(tactic| walk_at "compareOp NotEq str str") => `(tactic| (k_here; (with_reducible refine ne_same (rep_eq _ _) ?_)))
local macro_rules | `(tactic| walk_at "call ref") => `(tactic| (k_here; (with_reducible show wpAny _ _ (call (Value.ref _) [Value.str _ _] _) _ _ _); k_dflt (first
  | (refine' weaken (sub_G ?kB ?kF ?kX ?kN ?kT ?kf ?kk ?kq ?z1 ?z2 ?z3 ?z4 ?z5 ?z6 ?_) ?h1 ?h2 ?h3 ?h4 ?h5; (case h3 => exact fun _ h => h); (case kB => k_asm); (case kF => k_asm); (case kX => k_asm); (case kN => k_asm); (case kT => k_asm); (case kf => exact rfl); (case kk => exact rfl); (case h1 => exact rfl); (case h2 => exact Nat.le_of_ble_eq_true rfl); (case h4 => exact rfl); (case h5 => exact Nat.le_of_ble_eq_true rfl); (case kq => k_mem); (case z1 => decide); (case z2 => decide); (case z3 => exact rfl); (case z4 => decide); (case z5 => decide +kernel); (case z6 => with_reducible exact run_shut))
  | (refine' weaken (sub_C ?kB ?kF ?kX ?kN ?kT ?kf ?kk ?kq ?z1 ?z2 ?z3 ?z4 ?z5 ?z6 ?_) ?h1 ?h2 ?h3 ?h4 ?h5; (case h3 => exact fun _ h => h); (case kB => k_asm); (case kF => k_asm); (case kX => k_asm); (case kN => k_asm); (case kT => k_asm); (case kf => exact rfl); (case kk => exact rfl); (case h1 => exact rfl); (case h2 => exact Nat.le_of_ble_eq_true rfl); (case h4 => exact rfl); (case h5 => exact Nat.le_of_ble_eq_true rfl); (case kq => k_mem); (case z1 => decide); (case z2 => decide); (case z3 => exact rfl); (case z4 => decide); (case z5 => decide +kernel); (case z6 => decide +kernel))
  | (refine' weaken (sub_D ?kB ?kF ?kX ?kN ?kT ?kf ?kk ?kq ?z1 ?z2 ?z3 ?z4 ?z5 ?_) ?h1 ?h2 ?h3 ?h4 ?h5; (case h3 => exact fun _ h => h); (case kB => k_asm); (case kF => k_asm); (case kX => k_asm); (case kN => k_asm); (case kT => k_asm); (case kf => exact rfl); (case kk => exact rfl); (case h1 => exact rfl); (case h2 => exact Nat.le_of_ble_eq_true rfl); (case h4 => exact rfl); (case h5 => exact Nat.le_of_ble_eq_true rfl); (case kq => k_mem); (case z1 => decide); (case z2 => decide); (case z3 => exact rfl); (case z4 => decide); (case z5 => decide +kernel))
  | (refine' weaken (sub_E ?kB ?kF ?kX ?kN ?kT ?kf ?kk ?kq ?z1 ?z2 ?z3 ?z4 ?z5 ?z6 ?z7 ?_) ?h1 ?h2 ?h3 ?h4 ?h5; (case h3 => exact fun _ h => h); (case kB => k_asm); (case kF => k_asm); (case kX => k_asm); (case kN => k_asm); (case kT => k_asm); (case kf => exact rfl); (case kk => exact rfl); (case h1 => exact rfl); (case h2 => exact Nat.le_of_ble_eq_true rfl); (case h4 => exact rfl); (case h5 => exact Nat.le_of_ble_eq_true rfl); (case kq => k_mem); (case z1 => decide); (case z2 => decide); (case z3 => exact rfl); (case z4 => decide); (case z5 => decide +kernel); (case z6 => decide +kernel); (case z7 => decide +kernel))
  | (refine' weaken (sub_F ?kB ?kF ?kX ?kN ?kT ?kf ?kk ?kq ?z1 ?z2 ?z3 ?z4 ?z5 ?z6 ?_) ?h1 ?h2 ?h3 ?h4 ?h5; (case h3 => exact fun _ h => h); (case kB => k_asm); (case kF => k_asm); (case kX => k_asm); (case kN => k_asm); (case kT => k_asm); (case kf => exact rfl); (case kk => exact rfl); (case h1 => exact rfl); (case h2 => exact Nat.le_of_ble_eq_true rfl); (case h4 => exact rfl); (case h5 => exact Nat.le_of_ble_eq_true rfl); (case kq => k_mem); (case z1 => decide); (case z2 => decide); (case z3 => exact rfl); (case z4 => decide); (case z5 => decide +kernel); (case z6 => decide +kernel))
  | (refine' weaken (sub_names ?kB ?kF ?kX ?kN ?kT ?kf ?kk ?kq ?z1 ?z2 ?z3 ?z4 ?z5 ?z6 ?z7 ?_) ?h1 ?h2 ?h3 ?h4 ?h5; (case h3 => exact fun _ h => h); (case kB => k_asm); (case kF => k_asm); (case kX => k_asm); (case kN => k_asm); (case kT => k_asm); (case kf => exact rfl); (case kk => exact rfl); (case h1 => exact rfl); (case h2 => exact Nat.le_of_ble_eq_true rfl); (case h4 => exact rfl); (case h5 => exact Nat.le_of_ble_eq_true rfl); (case kq => k_mem); (case z1 => assumption); (case z2 => assumption); (case z3 => first | assumption | exact rfl); (case z4 => decide +kernel); (case z5 => assumption); (case z6 => assumption); (case z7 => assumption))
  | (refine' weaken (sub_namesT ?kB ?kF ?kX ?kN ?kT ?kf ?kk ?kq ?z1 ?z2 ?z3 ?z4 ?z5 ?z6 ?_) ?h1 ?h2 ?h3 ?h4 ?h5; (case h3 => exact fun _ h => h); (case kB => k_asm); (case kF => k_asm); (case kX => k_asm); (case kN => k_asm); (case kT => k_asm); (case kf => exact rfl); (case kk => exact rfl); (case h1 => exact rfl); (case h2 => exact Nat.le_of_ble_eq_true rfl); (case h4 => exact rfl); (case h5 => exact Nat.le_of_ble_eq_true rfl); (case kq => k_mem); (case z1 => assumption); (case z2 => assumption); (case z3 => first | assumption | exact rfl); (case z4 => decide +kernel); (case z5 => assumption); (case z6 => assumption))); k_whole; intro y' d' u2' u3' h' tk' F' N' l1 l2; (try k_lt l1); (try k_lt2 l2); (try k_sweep)))
local macro_rules | `(tactic| walk_at "call ref") => `(tactic| (k_here; (with_reducible show wpAny _ _ (call (Value.ref 163) _) _ _ _); k_dflt (first
  | (refine' c_opened_FUNC ?kXB ?kTB ?kB ?kF ?kX ?kN ?kT ?kk ?kx ?kd ?z1 ?_; (case kXB => k_asm); (case kTB => k_asm); (case kB => k_asm); (case kF => k_asm); (case kX => k_asm); (case kN => k_asm); (case kT => k_asm); (case kk => exact rfl); (case kx => k_mem); (case kd => k_mem); (case z1 => walk_at "str_ok"))
  | (refine' c_opened_PAREN ?kXB ?kTB ?kB ?kF ?kX ?kN ?kT ?kk ?kx ?kd ?z1 ?_; (case kXB => k_asm); (case kTB => k_asm); (case kB => k_asm); (case kF => k_asm); (case kX => k_asm); (case kN => k_asm); (case kT => k_asm); (case kk => exact rfl); (case kx => k_mem); (case kd => k_mem); (case z1 => walk_at "str_ok"))
  | (refine' c_opened_ARRAY ?kXB ?kTB ?kB ?kF ?kX ?kN ?kT ?kk ?kx ?kd ?z1 ?_; (case kXB => k_asm); (case kTB => k_asm); (case kB => k_asm); (case kF => k_asm); (case kX => k_asm); (case kN => k_asm); (case kT => k_asm); (case kk => exact rfl); (case kx => k_mem); (case kd => k_mem); (case z1 => walk_at "str_ok"))); k_whole; intro h' tk' F' N'; (try k_sweep)))
local macro_rules | `(tactic| walk_at "call ref") => `(tactic| (k_here; (with_reducible show wpAny _ _ (call (Value.ref 156) _) _ _ _); k_dflt (first
  | (refine' bar_2 ?kXB ?kTB ?kB ?kF ?kX ?kN ?kT ?kk ?z1 ?z2 ?z3 ?_; (case kXB => k_asm); (case kTB => k_asm); (case kB => k_asm); (case kF => k_asm); (case kX => k_asm); (case kN => k_asm); (case kT => k_asm); (case kk => exact rfl); (case z1 => k_mem); (case z2 => k_mem); (case z3 => decide +kernel))
  | (refine' bar_1 ?kXB ?kTB ?kB ?kF ?kX ?kN ?kT ?kk ?z1 ?_; (case kXB => k_asm); (case kTB => k_asm); (case kB => k_asm); (case kF => k_asm); (case kX => k_asm); (case kN => k_asm); (case kT => k_asm); (case kk => exact rfl); (case z1 => decide +kernel))
  | (refine' bar_F ?kXB ?kTB ?kB ?kF ?kX ?kN ?kT ?kk ?z1 ?z2 ?z3 ?z4 ?_; (case kXB => k_asm); (case kTB => k_asm); (case kB => k_asm); (case kF => k_asm); (case kX => k_asm); (case kN => k_asm); (case kT => k_asm); (case kk => exact rfl); (case z1 => assumption); (case z2 => assumption); (case z3 => assumption); (case z4 => decide +kernel))
  | (refine' bar_T ?kXB ?kTB ?kB ?kF ?kX ?kN ?kT ?kk ?z1 ?z2 ?z3 ?z4 ?z5 ?_; (case kXB => k_asm); (case kTB => k_asm); (case kB => k_asm); (case kF => k_asm); (case kX => k_asm); (case kN => k_asm); (case kT => k_asm); (case kk => exact rfl); (case z1 => decide); (case z2 => decide); (case z3 => exact rfl); (case z4 => decide +kernel); (case z5 => first | with_reducible exact run_open | with_reducible exact run_curl | with_reducible exact run_lruc))); k_whole; intro h' tk' F' N'; (try k_sweep)))
local macro_rules | `(tactic| walk_at "call builtin:str.format") => `(tactic| (k_here; (with_reducible show wpAny _ _ (call (Value.builtin "str.format") _) _ _ _); k_dflt (refine' fmt3 ?z1 ?z2 ?z3 ?_; (case z1 => first | assumption | decide); (case z2 => first | assumption | decide); (case z3 => first | assumption | decide); k_whole; intro _ _)))
local macro_rules | `(tactic| walk_at "call ref") => `(tactic| (k_here; (with_reducible show wpAny _ _ (call (Value.ref 142) _) _ _ _); k_dflt (refine' weaken (c_subtype ?kB ?kF ?kX ?kN ?kT ?kf ?kk ?z1 ?_) ?h1 ?h2 ?h3 ?h4 ?h5; (case h3 => exact fun _ h => h); (case kB => k_asm); (case kF => k_asm); (case kX => k_asm); (case kN => k_asm); (case kT => k_asm); (case kf => exact rfl); (case kk => exact rfl); (case h1 => exact rfl); (case h2 => exact Nat.le_of_ble_eq_true rfl); (case h4 => exact rfl); (case h5 => exact Nat.le_of_ble_eq_true rfl); (case z1 => assumption)); k_whole; intro u' h' tk' F' N'; (try k_sweep)))
local macro_rules | `(tactic| walk_at "call ref") => `(tactic| (k_here; (with_reducible show wpAny _ (Around.deeper callerA _) (call (Value.ref _) [Value.str _ _] _) _ _ _); k_dflt (refine' c_operand2 ?kB ?kF ?kX ?kN ?kT ?kk ?kq ?z1 ?z2 ?z3 ?_; (case kB => k_asm); (case kF => k_asm); (case kX => k_asm); (case kN => k_asm); (case kT => k_asm); (case kk => exact rfl); (case kq => k_mem); (case z1 => assumption); (case z2 => assumption); (case z3 => assumption)); k_whole; intro y' d' u2' u3' h' tk' F' N' l1 l2; (try k_lt l1); (try k_lt2 l2); (try k_sweep)))
def BodP (h₀ : Heap) (L : Addr) (s : Shared) (news : List (Addr × Obj)) (f : Flow) (s₂ : Shared) : Prop :=
  f = .next ∧ ∃ h' tk m, s₂ = { s with heap := h', toks := tk } ∧ Fr h₀ L h' m ∧ News h₀ L h' news
set_option maxHeartbeats 80000000 in
theorem law_body {w : World} {mean : ExcName → Option Value} {mg mb : Str → Option Value} {v : Str} {tv : Tok}
   {a : Addr} {ccd : Value} {h₀ : Heap} {L : Addr} {m : Str → Option Value} {news : List (Addr × Obj)} {s : Shared}
    (B : Below callerA h₀ [] h₀) (F : Fr h₀ L s.heap (fun y => if y = Str.ofString "word" then some (.str v tv) else m y)) (X : (Mine.hd.heap_39 w.params).In h₀) (N : News h₀ L s.heap news) (T : TopP mean mg mb h₀)
    (hs8 : v.length ≤ 8) (hlay : PyData.layable0 (.str v) = true) (hok : AllOk v.cps.toList) (hso : PyData.strOk v = true) (hsb : PyData.strOk (subOf v) = true) (hsl : (subOf v).length ≤ 16) :
      wpAny (model PySem.Challenge.pw_fh5003_01 w) (callerA.deeper (envOf (Str.ofString "law") lawScope L a ccd)) (execs (lawLoop 2) (envOf (Str.ofString "law") lawScope L a ccd)) (BodP h₀ L s news) (fun _ _ => False) s := by
  conv in lawLoop 2 => whnf
  have hs2 : v.length ≤ 16 := Nat.le_trans hs8 (by decide)
  have p1 := it_ap v
  have p2 := it_ac v
  have p3 := it_x v
  have p4 := n1_ap v
  have p5 := n2_ap v
  have p6 := n3_ap v
  have p7 := n1_ac v
  have p8 := n2_ac v
  have p9 := n3_ac v
  have q1 : 1 ≤ (v ++ Str.ofString "a(").length := by rw [len_app, len_ap]; omega
  have q2 : (v ++ Str.ofString "a(").length ≤ 16 := by rw [len_app, len_ap]; omega
  have q3 : 1 ≤ (v ++ Str.ofString "a{").length := by rw [len_app, len_ac]; omega
  have q4 : (v ++ Str.ofString "a{").length ≤ 16 := by rw [len_app, len_ac]; omega
  have q5 : 1 ≤ (v ++ Str.ofString "x").length := by rw [len_app, len_x]; omega
  have q6 : (v ++ Str.ofString "x").length ≤ 16 := by rw [len_app, len_x]; omega
  have q7 := run_ap hok hs8
  have q8 := strOk_of (app_ok hok ok_ap)
  have q9 := strOk_of (app_ok hok ok_ac)
  k_steps
  all_goals first
    | exact ⟨rfl, _, _, _, rfl, by assumption, cb_drop (by k_asm) (by walk_at "sub_all")⟩
end

section -- LW2
theorem sub_size (v : Str) : (subOf v).length ≤ 16 := by
  unfold subOf
  repeat' split
  all_goals exact Nat.le_of_ble_eq_true rfl
theorem sub_strOk (v : Str) : PyData.strOk (subOf v) = true := by
  unfold subOf
  repeat' split
  all_goals decide +kernel
theorem lay_str {v : Str} (h : PyData.strOk v = true) (hl : v.length ≤ 8) : PyData.layable0 (.str v) = true := by
  unfold PyData.layable0
  refine (Bool.and_eq_true _ _).mpr ⟨(Bool.and_eq_true _ _).mpr ⟨by simpa only [PyData.canLay0] using h, decide_eq_true (by simp only [PyData.depth]; decide)⟩, decide_eq_true ?_⟩
  simp only [PyData.weight]
  exact Nat.le_trans hl (by decide)
theorem law_st2 {w : World} {mean : ExcName → Option Value} {mg mb : Str → Option Value}
   {a : Addr} {ccd : Value} {h₀ : Heap} {L : Addr} {m : Str → Option Value} {s : Shared} {D : Addr} {vs : List Value} {k : Nat}
    (B : Below callerA h₀ [] h₀) (F : Fr h₀ L s.heap (fun y => if y = Str.ofString "words" then some (.ref D) else m y)) (X : (Mine.hd.heap_39 w.params).In h₀) (N : News h₀ L s.heap [(D, listOf vs.toArray k)]) (T : TopP mean mg mb h₀)
    (hg : ∀ v ∈ vs, GoodV v) :
      wpAny (model PySem.Challenge.pw_fh5003_01 w) (callerA.deeper (envOf (Str.ofString "law") lawScope L a ccd)) (exec (lawStmt 2) (envOf (Str.ofString "law") lawScope L a ccd)) (AnyP h₀ L s) (fun _ _ => False) s := by
  have nD := N _ List.mem_cons_self
  have hls : s.heap.IsList D vs.toArray := ⟨_, nD.1, rfl, _, rfl⟩
  have hlt : D < s.heap.objs.size := Heap.lt_size nD.1
  have hne : D ≠ s.heap.objs.size := Nat.ne_of_lt hlt
  conv in lawStmt 2 => whnf
  refine' For_invVF F ?k1 ?k2 ?_
  case k1 => exact rfl
  case k2 => exact rfl
  refine ld F (by exact rfl) ?_
  refine wpAny_pyIter_list hls ?_
  refine loop_invN (news := []) (fun _ _ nx => nx = []) (Walks.list (by rfl) s.heap.objs.size D hne vs.toArray) ?_ ?_ (fun _ h => nomatch h) (fun _ h => nomatch h) ⟨⟨_, Heap.get?_push_size _ rfl, rfl, rfl⟩, hls.at fun o e => Heap.get?_push_of_some _ e⟩ (F.push _) (fun _ h => nomatch h) rfl ?_ ?_
  · intro hm
    rcases List.mem_cons.mp hm with e | hm
    · exact absurd F.ns.lt (e ▸ Nat.lt_irrefl _)
    · exact nD.2.1 (List.mem_singleton.mp hm).symm
  · intro b hb
    rw [List.mem_singleton.mp hb]
    exact next_is_new F
  · intro i v m₁ news₁ h tk own hi hP _ _ hJ F₁ N₁
    subst hJ
    rw [List.getElem?_toArray] at hP
    obtain ⟨x, t, rfl, h8, hok⟩ := hg v (List.mem_of_getElem? hP)
    refine wpAny_mono (law_body (s := { s with heap := h, toks := tk }) B F₁ X N₁ T h8 (lay_str (strOk_of hok) h8) hok (strOk_of hok) (sub_strOk x) (sub_size x)) (fun f s₂ hb => ?_) (fun _ _ e => e.elim)
    obtain ⟨rfl, h', tk', m', rfl, F', N'⟩ := hb
    exact ⟨h', tk', m', own, [], rfl, F', N', (fun _ h => nomatch h), (fun p hp => hp), rfl, rfl⟩
  · intro m₁ news₁ h tk hJ F₁ N₁
    exact AnyP.intro F₁
end

section -- L3
local macro_rules | `(tactic| walk_at "enter_def") => `(tactic| (k_dflt (refine' code_def ?k1 ?k2 ?k3 ?k4 ?k5 ?kA ?kF ?kK ?k6 ?k7 ?k8 ?k9 ?kB ?_ ?c2 ?c3 ?c4 ?c5; (case kA => exact rfl); (case kF => assumption); (case kK => assumption); (case k1 => k_asm); (case k2 => k_asm); (case k3 => k_asm); (case k4 => k_asm); (case k5 => k_asm); (case k6 => k_is); (case k7 => k_is); (case k8 => exact Nat.le_of_ble_eq_true rfl); (case k9 => first | exact BindsTo.of_eq rfl | exact binds_K (by k_in) rfl (by k_is) rfl rfl rfl); (case c5 => decide); (case kB => exact locs rfl); (case c2 => exact rfl); (case c3 => exact rfl); (case c4 => exact rfl); k_whole; intro g' L' h' FG' F' N' B' X' T'; (try dsimp only); (try k_fold))))
local macro_rules | `(tactic| walk_at "getAttr ref") => `(tactic| (k_here; k_dflt (refine' get_clsS ?k1 ?k2 ?k3 ?k4 ?k5 ?k6 ?k7 ?k8 ?k9 ?k10 ?_; (case k1 => k_asm); (case k2 => k_asm); (case k3 => k_inst); (case k4 => k_is); (case k5 => k_is); (case k6 => k_is); (case k7 => k_is); (case k8 => k_is); (case k9 => k_handed); (case k10 => decide +kernel); k_whole)))
local macro_rules | `(tactic| walk_at "getAttr ref") => `(tactic| (k_here; ((first | (with_reducible show wpAny _ _ (getAttr _ (PySem.Str.ofString "type") _) _ _ _) | (with_reducible show wpAny _ _ (getAttr _ (PySem.Str.ofString "subtype") _) _ _ _) | (with_reducible show wpAny _ _ (getAttr _ (PySem.Str.ofString "value") _) _ _ _))); k_dflt (refine' get_slot ?k1 ?k2 ?k3 ?k4 ?k5 ?k6 ?k7 ?k8 ?k9 ?k10 ?k11 ?_; (case k1 => k_asm); (case k2 => k_asm); (case k3 => k_inst); (case k4 => k_is); (case k5 => k_is); (case k6 => k_is); (case k7 => k_is); (case k8 => k_is); (case k9 => k_is); (case k10 => k_slotget); (case k11 => k_handed); k_whole)))
local macro_rules | `(tactic| walk_at "getAttr ref") => `(tactic| (k_here; (with_reducible show wpAny _ _ (getAttr (Value.ref 101) _ _) _ _ _); k_dflt (refine' cls_val ?k1 ?k2 ?k3 ?k4 ?k5 ?k6 ?_; (case k1 => k_asm); (case k2 => k_asm); (case k3 => k_is); (case k4 => k_is); (case k5 => k_is); (case k6 => k_handed); k_whole)))
local macro_rules | `(tactic| walk_at "getMethod ref") => `(tactic| (k_here; k_dflt (refine' method_cmS ?k1 ?k2 ?k3 ?k4 ?k5 ?k6 ?k7 ?k8 ?k9 ?k10 ?k11 ?k12 ?k13 ?_; (case k1 => k_asm); (case k2 => k_asm); (case k3 => k_asm); (case k4 => k_inst); (case k5 => k_is); (case k6 => k_is); (case k7 => k_is); (case k8 => k_is); (case k9 => k_is); (case k10 => k_is); (case k11 => k_is); (case k12 => decide +kernel); (case k13 => k_is); k_whole; intro q' h' F' N' l1; (try k_lt l1); (try k_sweep))))
local macro_rules | `(tactic| walk_at "own_mem") => `(tactic| first | with_reducible exact List.mem_cons_self | (with_reducible refine List.mem_cons_of_mem _ ?_; walk_at "own_mem") | with_reducible assumption)
local macro_rules | `(tactic| k_mem) => `(tactic| walk_at "own_mem")
local macro_rules | `(tactic| walk_at "callWith ref") => `(tactic| (k_here; k_dflt (refine' callWith_MKW ?k1 ?k2 ?k3 ?k4 ?k5 ?_; (case k1 => k_asm); (case k2 => k_asm); (case k3 => k_mem); (case k4 => k_is); (case k5 => exact rfl); k_whole)))
local macro_rules | `(tactic| k_all) => `(tactic| (intro p9 hp9; refine neN ?_; first | (have q9 := ktn_ltOf (by first | assumption | exact And.right (by assumption) | exact And.right (And.right (by assumption)) | exact And.right (And.right (And.right (by assumption)))) p9 hp9; (try dsimp only at q9 ⊢); omega) | (have q9 := (by assumption : ∀ p ∈ _, @LT.lt Nat _ p.1 _) p9 hp9; (try dsimp only at q9 ⊢); omega)))
local macro_rules | `(tactic| walk_at "call ref") => `(tactic| (k_here; (with_reducible show wpAny _ _ (call (Value.ref 101) [_, _, _]) _ _ _); k_dflt (refine' weaken (c_new ?kB ?kF ?kX ?kN ?kT ?kf ?kk ?_) ?h1 ?h2 ?h3 ?h4 ?h5; (case h3 => exact fun _ h => h); (case kB => k_asm); (case kF => k_asm); (case kX => k_asm); (case kN => k_asm); (case kT => k_asm); (case kf => exact rfl); (case kk => exact rfl); (case h1 => exact rfl); (case h2 => exact Nat.le_of_ble_eq_true rfl); (case h4 => exact rfl); (case h5 => exact Nat.le_of_ble_eq_true rfl); k_whole; intro y' d' h' tk' F' N' l1 l2; (try k_lt l1); (try k_lt2 l2); (try k_sweep))))
local macro_rules | `(tactic| walk_at "subscriptTail Name UnaryOp str int") => `(tactic| (refine item_strE (by assumption) (by decide) (by omega) (by omega) ?_))
local macro_rules | `(tactic| walk_at "compareOp In str str") => `(tactic| (refine in_strE (by assumption) ?_; (try dsimp only [Bool.not_true, Bool.not_false])))
local macro_rules | `(tactic| walk_at "sub_all") => `(tactic| first | (refine List.forall_mem_cons.mpr ⟨by k_mem, ?_⟩; walk_at "sub_all") | (intro p9 hp9; k_mem))
local macro_rules | `(tactic| walk_at "lt_all") => `(tactic| first | assumption | exact ktn_ltOf (by first | assumption | exact And.right (by assumption) | exact And.right (And.right (by assumption)) | exact And.right (And.right (And.right (by assumption)))))
local macro_rules | `(tactic| walk_at "getMethod ref") => `(tactic| (k_here; (with_reducible show wpAny _ _ (getMethod (Value.ref 36) _ _) _ _ _); k_dflt (refine' pat_method ?k1 ?k2 ?_; (case k1 => k_asm); (case k2 => k_asm); k_whole)))
local macro_rules | `(tactic| walk_at "call builtin:re.Pattern.match") => `(tactic| (k_here; k_dflt (refine' match_K true ?k1 ?k2 ?k3 ?k4 ?k5 ?_; (case k1 => k_asm); (case k2 => k_asm); (case k3 => k_asm); (case k4 => (have hz9 := (by assumption : _ ≤ (16 : Nat)); exact Nat.le_trans hz9 (by decide))); (case k5 => exact fun A E s Q h => (by assumption : RunIs true _) _ _ A E s Q h); k_whole; intro q' tu' h' a' b' F' N' l1 l2; (try k_lt l1); (try k_lt2 l2); (try k_sweep))))
local macro_rules | `(tactic| walk_at "truthy ref") => `(tactic| (k_here; k_dflt (refine' truthy_match ?k1 ?k2 ?_; (case k1 => k_asm); (case k2 => k_mem); k_whole)))
local macro_rules | `(tactic| walk_at "str_ok") => `(tactic| first | assumption | decide +kernel)
local macro_rules | `(tactic| walk_at "call ref") => `(tactic| (k_here; (with_reducible show wpAny _ _ (call (Value.ref 149) _) _ _ _); k_dflt (refine' weaken (c_three ?kB ?kF ?kX ?kN ?kT ?kf ?kk ?kx ?kd ?z1 ?z2 ?z3 ?_) ?h1 ?h2 ?h3 ?h4 ?h5; (case h3 => exact fun _ h => h); (case kB => k_asm); (case kF => k_asm); (case kX => k_asm); (case kN => k_asm); (case kT => k_asm); (case kf => exact rfl); (case kk => exact rfl); (case kx => k_mem); (case kd => k_mem); (case z1 => exact shaped3 (by walk_at "str_ok") (by walk_at "str_ok") (by walk_at "str_ok")); (case z2 => exact shaped3 (by walk_at "str_ok") (by walk_at "str_ok") (by walk_at "str_ok")); (case z3 => exact eqv3 _ _ _); (case h1 => exact rfl); (case h2 => exact Nat.le_of_ble_eq_true rfl); (case h4 => exact rfl); (case h5 => exact Nat.le_of_ble_eq_true rfl); k_whole; intro h' tk' F' N'; (try k_sweep))))
local macro_rules | `(tactic| walk_at "clo_end") => `(tactic| ((case h3 => exact fun _ h => h); (case kB => k_asm); (case kF => k_asm); (case kX => k_asm); (case kN => k_asm); (case kT => k_asm); (case kf => exact rfl); (case kk => exact rfl); (case kx => k_mem); (case kd => k_mem); (case h1 => exact rfl); (case h2 => exact Nat.le_of_ble_eq_true rfl); (case h4 => exact rfl); (case h5 => exact Nat.le_of_ble_eq_true rfl); k_whole; intro y' d' u1' u2' u3' h' tk' F' N' l1 l2; (try k_lt l1); (try k_lt2 l2); (try k_sweep)))
local macro_rules | `(tactic| walk_at "call ref") => `(tactic| (k_here; (with_reducible show wpAny _ _ (call (Value.ref 87) _) _ _ _); k_dflt (first
  | refine' weaken (clo_FUNC ?kB ?kF ?kX ?kN ?kT ?kf ?kk ?kx ?kd ?_) ?h1 ?h2 ?h3 ?h4 ?h5; walk_at "clo_end"
  | refine' weaken (clo_ARRAY ?kB ?kF ?kX ?kN ?kT ?kf ?kk ?kx ?kd ?_) ?h1 ?h2 ?h3 ?h4 ?h5; walk_at "clo_end"
  | refine' weaken (clo_PAREN ?kB ?kF ?kX ?kN ?kT ?kf ?kk ?kx ?kd ?_) ?h1 ?h2 ?h3 ?h4 ?h5; walk_at "clo_end")))
local macro_rules | `(tactic| walk_at "call ref") => `(tactic| (k_here; (with_reducible show wpAny _ _ (call (Value.ref _) [Value.str _ _] _) _ _ _); k_dflt (first
  | (refine' weaken (sub_G ?kB ?kF ?kX ?kN ?kT ?kf ?kk ?kq ?z1 ?z2 ?z3 ?z4 ?z5 ?z6 ?_) ?h1 ?h2 ?h3 ?h4 ?h5; (case h3 => exact fun _ h => h); (case kB => k_asm); (case kF => k_asm); (case kX => k_asm); (case kN => k_asm); (case kT => k_asm); (case kf => exact rfl); (case kk => exact rfl); (case h1 => exact rfl); (case h2 => exact Nat.le_of_ble_eq_true rfl); (case h4 => exact rfl); (case h5 => exact Nat.le_of_ble_eq_true rfl); (case kq => k_mem); (case z1 => decide); (case z2 => decide); (case z3 => exact rfl); (case z4 => decide); (case z5 => decide +kernel); (case z6 => with_reducible exact run_shut))
  | (refine' weaken (sub_C ?kB ?kF ?kX ?kN ?kT ?kf ?kk ?kq ?z1 ?z2 ?z3 ?z4 ?z5 ?z6 ?z7 ?_) ?h1 ?h2 ?h3 ?h4 ?h5; (case h3 => exact fun _ h => h); (case kB => k_asm); (case kF => k_asm); (case kX => k_asm); (case kN => k_asm); (case kT => k_asm); (case kf => exact rfl); (case kk => exact rfl); (case h1 => exact rfl); (case h2 => exact Nat.le_of_ble_eq_true rfl); (case h4 => exact rfl); (case h5 => exact Nat.le_of_ble_eq_true rfl); (case kq => k_mem); (case z1 => decide); (case z2 => decide); (case z3 => exact rfl); (case z4 => decide); (case z5 => decide +kernel); (case z6 => decide +kernel); (case z7 => decide +kernel))
  | (refine' weaken (sub_D ?kB ?kF ?kX ?kN ?kT ?kf ?kk ?kq ?z1 ?z2 ?z3 ?z4 ?z5 ?z6 ?_) ?h1 ?h2 ?h3 ?h4 ?h5; (case h3 => exact fun _ h => h); (case kB => k_asm); (case kF => k_asm); (case kX => k_asm); (case kN => k_asm); (case kT => k_asm); (case kf => exact rfl); (case kk => exact rfl); (case h1 => exact rfl); (case h2 => exact Nat.le_of_ble_eq_true rfl); (case h4 => exact rfl); (case h5 => exact Nat.le_of_ble_eq_true rfl); (case kq => k_mem); (case z1 => decide); (case z2 => decide); (case z3 => exact rfl); (case z4 => decide); (case z5 => decide +kernel); (case z6 => decide +kernel))
  | (refine' weaken (sub_E ?kB ?kF ?kX ?kN ?kT ?kf ?kk ?kq ?z1 ?z2 ?z3 ?z4 ?z5 ?z6 ?z7 ?_) ?h1 ?h2 ?h3 ?h4 ?h5; (case h3 => exact fun _ h => h); (case kB => k_asm); (case kF => k_asm); (case kX => k_asm); (case kN => k_asm); (case kT => k_asm); (case kf => exact rfl); (case kk => exact rfl); (case h1 => exact rfl); (case h2 => exact Nat.le_of_ble_eq_true rfl); (case h4 => exact rfl); (case h5 => exact Nat.le_of_ble_eq_true rfl); (case kq => k_mem); (case z1 => decide); (case z2 => decide); (case z3 => exact rfl); (case z4 => decide); (case z5 => decide +kernel); (case z6 => decide +kernel); (case z7 => decide +kernel))
  | (refine' weaken (sub_F ?kB ?kF ?kX ?kN ?kT ?kf ?kk ?kq ?z1 ?z2 ?z3 ?z4 ?z5 ?z6 ?_) ?h1 ?h2 ?h3 ?h4 ?h5; (case h3 => exact fun _ h => h); (case kB => k_asm); (case kF => k_asm); (case kX => k_asm); (case kN => k_asm); (case kT => k_asm); (case kf => exact rfl); (case kk => exact rfl); (case h1 => exact rfl); (case h2 => exact Nat.le_of_ble_eq_true rfl); (case h4 => exact rfl); (case h5 => exact Nat.le_of_ble_eq_true rfl); (case kq => k_mem); (case z1 => decide); (case z2 => decide); (case z3 => exact rfl); (case z4 => decide); (case z5 => decide +kernel); (case z6 => decide +kernel))
  | (refine' weaken (sub_names ?kB ?kF ?kX ?kN ?kT ?kf ?kk ?kq ?z1 ?z2 ?z3 ?z4 ?z5 ?z6 ?z7 ?_) ?h1 ?h2 ?h3 ?h4 ?h5; (case h3 => exact fun _ h => h); (case kB => k_asm); (case kF => k_asm); (case kX => k_asm); (case kN => k_asm); (case kT => k_asm); (case kf => exact rfl); (case kk => exact rfl); (case h1 => exact rfl); (case h2 => exact Nat.le_of_ble_eq_true rfl); (case h4 => exact rfl); (case h5 => exact Nat.le_of_ble_eq_true rfl); (case kq => k_mem); (case z1 => assumption); (case z2 => assumption); (case z3 => first | assumption | exact rfl); (case z4 => decide +kernel); (case z5 => assumption); (case z6 => assumption); (case z7 => assumption))
  | (refine' weaken (sub_namesT ?kB ?kF ?kX ?kN ?kT ?kf ?kk ?kq ?z1 ?z2 ?z3 ?z4 ?z5 ?z6 ?_) ?h1 ?h2 ?h3 ?h4 ?h5; (case h3 => exact fun _ h => h); (case kB => k_asm); (case kF => k_asm); (case kX => k_asm); (case kN => k_asm); (case kT => k_asm); (case kf => exact rfl); (case kk => exact rfl); (case h1 => exact rfl); (case h2 => exact Nat.le_of_ble_eq_true rfl); (case h4 => exact rfl); (case h5 => exact Nat.le_of_ble_eq_true rfl); (case kq => k_mem); (case z1 => assumption); (case z2 => assumption); (case z3 => first | assumption | exact rfl); (case z4 => decide +kernel); (case z5 => assumption); (case z6 => assumption))); k_whole; intro y' d' u2' u3' h' tk' F' N' l1 l2; (try k_lt l1); (try k_lt2 l2); (try k_sweep)))
local macro_rules | `(tactic| walk_at "call ref") => `(tactic| (k_here; (with_reducible show wpAny _ _ (call (Value.ref 163) _) _ _ _); k_dflt (first
  | (refine' c_opened_FUNC ?kXB ?kTB ?kB ?kF ?kX ?kN ?kT ?kk ?kx ?kd ?z1 ?_; (case kXB => k_asm); (case kTB => k_asm); (case kB => k_asm); (case kF => k_asm); (case kX => k_asm); (case kN => k_asm); (case kT => k_asm); (case kk => exact rfl); (case kx => k_mem); (case kd => k_mem); (case z1 => walk_at "str_ok"))
  | (refine' c_opened_PAREN ?kXB ?kTB ?kB ?kF ?kX ?kN ?kT ?kk ?kx ?kd ?z1 ?_; (case kXB => k_asm); (case kTB => k_asm); (case kB => k_asm); (case kF => k_asm); (case kX => k_asm); (case kN => k_asm); (case kT => k_asm); (case kk => exact rfl); (case kx => k_mem); (case kd => k_mem); (case z1 => walk_at "str_ok"))
  | (refine' c_opened_ARRAY ?kXB ?kTB ?kB ?kF ?kX ?kN ?kT ?kk ?kx ?kd ?z1 ?_; (case kXB => k_asm); (case kTB => k_asm); (case kB => k_asm); (case kF => k_asm); (case kX => k_asm); (case kN => k_asm); (case kT => k_asm); (case kk => exact rfl); (case kx => k_mem); (case kd => k_mem); (case z1 => walk_at "str_ok"))); k_whole; intro h' tk' F' N'; (try k_sweep)))
local macro_rules | `(tactic| walk_at "call ref") => `(tactic| (k_here; (with_reducible show wpAny _ _ (call (Value.ref 156) _) _ _ _); k_dflt (first
  | (refine' bar_2 ?kXB ?kTB ?kB ?kF ?kX ?kN ?kT ?kk ?z1 ?z2 ?z3 ?_; (case kXB => k_asm); (case kTB => k_asm); (case kB => k_asm); (case kF => k_asm); (case kX => k_asm); (case kN => k_asm); (case kT => k_asm); (case kk => exact rfl); (case z1 => k_mem); (case z2 => k_mem); (case z3 => decide +kernel))
  | (refine' bar_1 ?kXB ?kTB ?kB ?kF ?kX ?kN ?kT ?kk ?z1 ?_; (case kXB => k_asm); (case kTB => k_asm); (case kB => k_asm); (case kF => k_asm); (case kX => k_asm); (case kN => k_asm); (case kT => k_asm); (case kk => exact rfl); (case z1 => decide +kernel))
  | (refine' bar_F ?kXB ?kTB ?kB ?kF ?kX ?kN ?kT ?kk ?z1 ?z2 ?z3 ?z4 ?_; (case kXB => k_asm); (case kTB => k_asm); (case kB => k_asm); (case kF => k_asm); (case kX => k_asm); (case kN => k_asm); (case kT => k_asm); (case kk => exact rfl); (case z1 => assumption); (case z2 => assumption); (case z3 => assumption); (case z4 => decide +kernel))
  | (refine' bar_T ?kXB ?kTB ?kB ?kF ?kX ?kN ?kT ?kk ?z1 ?z2 ?z3 ?z4 ?z5 ?_; (case kXB => k_asm); (case kTB => k_asm); (case kB => k_asm); (case kF => k_asm); (case kX => k_asm); (case kN => k_asm); (case kT => k_asm); (case kk => exact rfl); (case z1 => decide); (case z2 => decide); (case z3 => exact rfl); (case z4 => decide +kernel); (case z5 => first | with_reducible exact run_open | with_reducible exact run_curl | with_reducible exact run_lruc))); k_whole; intro h' tk' F' N'; (try k_sweep)))
local macro_rules | `(tactic| walk_at "call builtin:str.format") => `(tactic| (k_here; (with_reducible show wpAny _ _ (call (Value.builtin "str.format") _) _ _ _); k_dflt (refine' fmt3 ?z1 ?z2 ?z3 ?_; (case z1 => first | assumption | decide); (case z2 => first | assumption | decide); (case z3 => first | assumption | decide); k_whole; intro _ _)))
local macro_rules | `(tactic| walk_at "newTuple") => `(tactic| (k_here; k_dflt (refine' kup_newTuple ?F ?N ?_ ?z; (case F => k_asm); (case N => k_asm); (case z => kmk_size)); intro D' h' F' N' l1; clear l1; (try k_sweep); (try dsimp only)))
set_option maxHeartbeats 80000000 in
theorem law_st3 {w : World} {mean : ExcName → Option Value} {mg mb : Str → Option Value}
   {a : Addr} {ccd : Value} {h₀ : Heap} {L : Addr} {m : Str → Option Value} {s : Shared}
    (B : Below callerA h₀ [] h₀) (F : Fr h₀ L s.heap m) (X : (Mine.hd.heap_39 w.params).In h₀) (N : News h₀ L s.heap []) (T : TopP mean mg mb h₀) :
      wpAny (model PySem.Challenge.pw_fh5003_01 w) (callerA.deeper (envOf (Str.ofString "law") lawScope L a ccd)) (exec (lawStmt 3) (envOf (Str.ofString "law") lawScope L a ccd)) (AnyP h₀ L s) (fun _ _ => False) s := by
  conv in lawStmt 3 => whnf
  k_steps
  all_goals first | exact AnyP.intro (by assumption) | exact (envOf (Str.ofString "law") lawScope L a ccd)
end

section -- L4
local macro_rules | `(tactic| walk_at "enter_def") => `(tactic| (k_dflt (refine' code_def ?k1 ?k2 ?k3 ?k4 ?k5 ?kA ?kF ?kK ?k6 ?k7 ?k8 ?k9 ?kB ?_ ?c2 ?c3 ?c4 ?c5; (case kA => exact rfl); (case kF => assumption); (case kK => assumption); (case k1 => k_asm); (case k2 => k_asm); (case k3 => k_asm); (case k4 => k_asm); (case k5 => k_asm); (case k6 => k_is); (case k7 => k_is); (case k8 => exact Nat.le_of_ble_eq_true rfl); (case k9 => first | exact BindsTo.of_eq rfl | exact binds_K (by k_in) rfl (by k_is) rfl rfl rfl); (case c5 => decide); (case kB => exact locs rfl); (case c2 => exact rfl); (case c3 => exact rfl); (case c4 => exact rfl); k_whole; intro g' L' h' FG' F' N' B' X' T'; (try dsimp only); (try k_fold))))
local macro_rules | `(tactic| walk_at "getAttr ref") => `(tactic| (k_here; k_dflt (refine' get_clsS ?k1 ?k2 ?k3 ?k4 ?k5 ?k6 ?k7 ?k8 ?k9 ?k10 ?_; (case k1 => k_asm); (case k2 => k_asm); (case k3 => k_inst); (case k4 => k_is); (case k5 => k_is); (case k6 => k_is); (case k7 => k_is); (case k8 => k_is); (case k9 => k_handed); (case k10 => decide +kernel); k_whole)))
local macro_rules | `(tactic| walk_at "getAttr ref") => `(tactic| (k_here; ((first | (with_reducible show wpAny _ _ (getAttr _ (PySem.Str.ofString "type") _) _ _ _) | (with_reducible show wpAny _ _ (getAttr _ (PySem.Str.ofString "subtype") _) _ _ _) | (with_reducible show wpAny _ _ (getAttr _ (PySem.Str.ofString "value") _) _ _ _))); k_dflt (refine' get_slot ?k1 ?k2 ?k3 ?k4 ?k5 ?k6 ?k7 ?k8 ?k9 ?k10 ?k11 ?_; (case k1 => k_asm); (case k2 => k_asm); (case k3 => k_inst); (case k4 => k_is); (case k5 => k_is); (case k6 => k_is); (case k7 => k_is); (case k8 => k_is); (case k9 => k_is); (case k10 => k_slotget); (case k11 => k_handed); k_whole)))
local macro_rules | `(tactic| walk_at "getAttr ref") => `(tactic| (k_here; (with_reducible show wpAny _ _ (getAttr (Value.ref 101) _ _) _ _ _); k_dflt (refine' cls_val ?k1 ?k2 ?k3 ?k4 ?k5 ?k6 ?_; (case k1 => k_asm); (case k2 => k_asm); (case k3 => k_is); (case k4 => k_is); (case k5 => k_is); (case k6 => k_handed); k_whole)))
local macro_rules | `(tactic| walk_at "getMethod ref") => `(tactic| (k_here; k_dflt (refine' method_cmS ?k1 ?k2 ?k3 ?k4 ?k5 ?k6 ?k7 ?k8 ?k9 ?k10 ?k11 ?k12 ?k13 ?_; (case k1 => k_asm); (case k2 => k_asm); (case k3 => k_asm); (case k4 => k_inst); (case k5 => k_is); (case k6 => k_is); (case k7 => k_is); (case k8 => k_is); (case k9 => k_is); (case k10 => k_is); (case k11 => k_is); (case k12 => decide +kernel); (case k13 => k_is); k_whole; intro q' h' F' N' l1; (try k_lt l1); (try k_sweep))))
local macro_rules | `(tactic| walk_at "own_mem") => `(tactic| first | with_reducible exact List.mem_cons_self | (with_reducible refine List.mem_cons_of_mem _ ?_; walk_at "own_mem") | with_reducible assumption)
local macro_rules | `(tactic| k_mem) => `(tactic| walk_at "own_mem")
local macro_rules | `(tactic| walk_at "callWith ref") => `(tactic| (k_here; k_dflt (refine' callWith_MKW ?k1 ?k2 ?k3 ?k4 ?k5 ?_; (case k1 => k_asm); (case k2 => k_asm); (case k3 => k_mem); (case k4 => k_is); (case k5 => exact rfl); k_whole)))
local macro_rules | `(tactic| k_all) => `(tactic| (intro p9 hp9; refine neN ?_; first | (have q9 := ktn_ltOf (by first | assumption | exact And.right (by assumption) | exact And.right (And.right (by assumption)) | exact And.right (And.right (And.right (by assumption)))) p9 hp9; (try dsimp only at q9 ⊢); omega) | (have q9 := (by assumption : ∀ p ∈ _, @LT.lt Nat _ p.1 _) p9 hp9; (try dsimp only at q9 ⊢); omega)))
local macro_rules | `(tactic| walk_at "call ref") => `(tactic| (k_here; (with_reducible show wpAny _ _ (call (Value.ref 101) [_, _, _]) _ _ _); k_dflt (refine' weaken (c_new ?kB ?kF ?kX ?kN ?kT ?kf ?kk ?_) ?h1 ?h2 ?h3 ?h4 ?h5; (case h3 => exact fun _ h => h); (case kB => k_asm); (case kF => k_asm); (case kX => k_asm); (case kN => k_asm); (case kT => k_asm); (case kf => exact rfl); (case kk => exact rfl); (case h1 => exact rfl); (case h2 => exact Nat.le_of_ble_eq_true rfl); (case h4 => exact rfl); (case h5 => exact Nat.le_of_ble_eq_true rfl); k_whole; intro y' d' h' tk' F' N' l1 l2; (try k_lt l1); (try k_lt2 l2); (try k_sweep))))
local macro_rules | `(tactic| walk_at "subscriptTail Name UnaryOp str int") => `(tactic| (refine item_strE (by assumption) (by decide) (by omega) (by omega) ?_))
local macro_rules | `(tactic| walk_at "compareOp In str str") => `(tactic| (refine in_strE (by assumption) ?_; (try dsimp only [Bool.not_true, Bool.not_false])))
local macro_rules | `(tactic| walk_at "sub_all") => `(tactic| first | (refine List.forall_mem_cons.mpr ⟨by k_mem, ?_⟩; walk_at "sub_all") | (intro p9 hp9; k_mem))
local macro_rules | `(tactic| walk_at "lt_all") => `(tactic| first | assumption | exact ktn_ltOf (by first | assumption | exact And.right (by assumption) | exact And.right (And.right (by assumption)) | exact And.right (And.right (And.right (by assumption)))))
local macro_rules | `(tactic| walk_at "getMethod ref") => `(tactic| (k_here; (with_reducible show wpAny _ _ (getMethod (Value.ref 36) _ _) _ _ _); k_dflt (refine' pat_method ?k1 ?k2 ?_; (case k1 => k_asm); (case k2 => k_asm); k_whole)))
local macro_rules | `(tactic| walk_at "call builtin:re.Pattern.match") => `(tactic| (k_here; k_dflt (refine' match_K true ?k1 ?k2 ?k3 ?k4 ?k5 ?_; (case k1 => k_asm); (case k2 => k_asm); (case k3 => k_asm); (case k4 => (have hz9 := (by assumption : _ ≤ (16 : Nat)); exact Nat.le_trans hz9 (by decide))); (case k5 => exact fun A E s Q h => (by assumption : RunIs true _) _ _ A E s Q h); k_whole; intro q' tu' h' a' b' F' N' l1 l2; (try k_lt l1); (try k_lt2 l2); (try k_sweep))))
local macro_rules | `(tactic| walk_at "truthy ref") => `(tactic| (k_here; k_dflt (refine' truthy_match ?k1 ?k2 ?_; (case k1 => k_asm); (case k2 => k_mem); k_whole)))
local macro_rules | `(tactic| walk_at "str_ok") => `(tactic| first | assumption | decide +kernel)
local macro_rules | `(tactic| walk_at "call ref") => `(tactic| (k_here; (with_reducible show wpAny _ _ (call (Value.ref 149) _) _ _ _); k_dflt (refine' weaken (c_three ?kB ?kF ?kX ?kN ?kT ?kf ?kk ?kx ?kd ?z1 ?z2 ?z3 ?_) ?h1 ?h2 ?h3 ?h4 ?h5; (case h3 => exact fun _ h => h); (case kB => k_asm); (case kF => k_asm); (case kX => k_asm); (case kN => k_asm); (case kT => k_asm); (case kf => exact rfl); (case kk => exact rfl); (case kx => k_mem); (case kd => k_mem); (case z1 => exact shaped3 (by walk_at "str_ok") (by walk_at "str_ok") (by walk_at "str_ok")); (case z2 => exact shaped3 (by walk_at "str_ok") (by walk_at "str_ok") (by walk_at "str_ok")); (case z3 => exact eqv3 _ _ _); (case h1 => exact rfl); (case h2 => exact Nat.le_of_ble_eq_true rfl); (case h4 => exact rfl); (case h5 => exact Nat.le_of_ble_eq_true rfl); k_whole; intro h' tk' F' N'; (try k_sweep))))
local macro_rules | `(tactic| walk_at "clo_end") => `(tactic| ((case h3 => exact fun _ h => h); (case kB => k_asm); (case kF => k_asm); (case kX => k_asm); (case kN => k_asm); (case kT => k_asm); (case kf => exact rfl); (case kk => exact rfl); (case kx => k_mem); (case kd => k_mem); (case h1 => exact rfl); (case h2 => exact Nat.le_of_ble_eq_true rfl); (case h4 => exact rfl); (case h5 => exact Nat.le_of_ble_eq_true rfl); k_whole; intro y' d' u1' u2' u3' h' tk' F' N' l1 l2; (try k_lt l1); (try k_lt2 l2); (try k_sweep)))
local macro_rules | `(tactic| walk_at "call ref") => `(tactic| (k_here; (with_reducible show wpAny _ _ (call (Value.ref 87) _) _ _ _); k_dflt (first
  | refine' weaken (clo_FUNC ?kB ?kF ?kX ?kN ?kT ?kf ?kk ?kx ?kd ?_) ?h1 ?h2 ?h3 ?h4 ?h5; walk_at "clo_end"
  | refine' weaken (clo_ARRAY ?kB ?kF ?kX ?kN ?kT ?kf ?kk ?kx ?kd ?_) ?h1 ?h2 ?h3 ?h4 ?h5; walk_at "clo_end"
  | refine' weaken (clo_PAREN ?kB ?kF ?kX ?kN ?kT ?kf ?kk ?kx ?kd ?_) ?h1 ?h2 ?h3 ?h4 ?h5; walk_at "clo_end")))
local macro_rules | `(tactic| walk_at "call ref") => `(tactic| (k_here; (with_reducible show wpAny _ _ (call (Value.ref _) [Value.str _ _] _) _ _ _); k_dflt (first
  | (refine' weaken (sub_G ?kB ?kF ?kX ?kN ?kT ?kf ?kk ?kq ?z1 ?z2 ?z3 ?z4 ?z5 ?z6 ?_) ?h1 ?h2 ?h3 ?h4 ?h5; (case h3 => exact fun _ h => h); (case kB => k_asm); (case kF => k_asm); (case kX => k_asm); (case kN => k_asm); (case kT => k_asm); (case kf => exact rfl); (case kk => exact rfl); (case h1 => exact rfl); (case h2 => exact Nat.le_of_ble_eq_true rfl); (case h4 => exact rfl); (case h5 => exact Nat.le_of_ble_eq_true rfl); (case kq => k_mem); (case z1 => decide); (case z2 => decide); (case z3 => exact rfl); (case z4 => decide); (case z5 => decide +kernel); (case z6 => with_reducible exact run_shut))
  | (refine' weaken (sub_C ?kB ?kF ?kX ?kN ?kT ?kf ?kk ?kq ?z1 ?z2 ?z3 ?z4 ?z5 ?z6 ?_) ?h1 ?h2 ?h3 ?h4 ?h5; (case h3 => exact fun _ h => h); (case kB => k_asm); (case kF => k_asm); (case kX => k_asm); (case kN => k_asm); (case kT => k_asm); (case kf => exact rfl); (case kk => exact rfl); (case h1 => exact rfl); (case h2 => exact Nat.le_of_ble_eq_true rfl); (case h4 => exact rfl); (case h5 => exact Nat.le_of_ble_eq_true rfl); (case kq => k_mem); (case z1 => decide); (case z2 => decide); (case z3 => exact rfl); (case z4 => decide); (case z5 => decide +kernel); (case z6 => decide +kernel))
  | (refine' weaken (sub_D ?kB ?kF ?kX ?kN ?kT ?kf ?kk ?kq ?z1 ?z2 ?z3 ?z4 ?z5 ?_) ?h1 ?h2 ?h3 ?h4 ?h5; (case h3 => exact fun _ h => h); (case kB => k_asm); (case kF => k_asm); (case kX => k_asm); (case kN => k_asm); (case kT => k_asm); (case kf => exact rfl); (case kk => exact rfl); (case h1 => exact rfl); (case h2 => exact Nat.le_of_ble_eq_true rfl); (case h4 => exact rfl); (case h5 => exact Nat.le_of_ble_eq_true rfl); (case kq => k_mem); (case z1 => decide); (case z2 => decide); (case z3 => exact rfl); (case z4 => decide); (case z5 => decide +kernel))
  | (refine' weaken (sub_E ?kB ?kF ?kX ?kN ?kT ?kf ?kk ?kq ?z1 ?z2 ?z3 ?z4 ?z5 ?z6 ?z7 ?_) ?h1 ?h2 ?h3 ?h4 ?h5; (case h3 => exact fun _ h => h); (case kB => k_asm); (case kF => k_asm); (case kX => k_asm); (case kN => k_asm); (case kT => k_asm); (case kf => exact rfl); (case kk => exact rfl); (case h1 => exact rfl); (case h2 => exact Nat.le_of_ble_eq_true rfl); (case h4 => exact rfl); (case h5 => exact Nat.le_of_ble_eq_true rfl); (case kq => k_mem); (case z1 => decide); (case z2 => decide); (case z3 => exact rfl); (case z4 => decide); (case z5 => decide +kernel); (case z6 => decide +kernel); (case z7 => decide +kernel))
  | (refine' weaken (sub_F ?kB ?kF ?kX ?kN ?kT ?kf ?kk ?kq ?z1 ?z2 ?z3 ?z4 ?z5 ?z6 ?_) ?h1 ?h2 ?h3 ?h4 ?h5; (case h3 => exact fun _ h => h); (case kB => k_asm); (case kF => k_asm); (case kX => k_asm); (case kN => k_asm); (case kT => k_asm); (case kf => exact rfl); (case kk => exact rfl); (case h1 => exact rfl); (case h2 => exact Nat.le_of_ble_eq_true rfl); (case h4 => exact rfl); (case h5 => exact Nat.le_of_ble_eq_true rfl); (case kq => k_mem); (case z1 => decide); (case z2 => decide); (case z3 => exact rfl); (case z4 => decide); (case z5 => decide +kernel); (case z6 => decide +kernel))
  | (refine' weaken (sub_names ?kB ?kF ?kX ?kN ?kT ?kf ?kk ?kq ?z1 ?z2 ?z3 ?z4 ?z5 ?z6 ?z7 ?_) ?h1 ?h2 ?h3 ?h4 ?h5; (case h3 => exact fun _ h => h); (case kB => k_asm); (case kF => k_asm); (case kX => k_asm); (case kN => k_asm); (case kT => k_asm); (case kf => exact rfl); (case kk => exact rfl); (case h1 => exact rfl); (case h2 => exact Nat.le_of_ble_eq_true rfl); (case h4 => exact rfl); (case h5 => exact Nat.le_of_ble_eq_true rfl); (case kq => k_mem); (case z1 => assumption); (case z2 => assumption); (case z3 => first | assumption | exact rfl); (case z4 => decide +kernel); (case z5 => assumption); (case z6 => assumption); (case z7 => assumption))
  | (refine' weaken (sub_namesT ?kB ?kF ?kX ?kN ?kT ?kf ?kk ?kq ?z1 ?z2 ?z3 ?z4 ?z5 ?z6 ?_) ?h1 ?h2 ?h3 ?h4 ?h5; (case h3 => exact fun _ h => h); (case kB => k_asm); (case kF => k_asm); (case kX => k_asm); (case kN => k_asm); (case kT => k_asm); (case kf => exact rfl); (case kk => exact rfl); (case h1 => exact rfl); (case h2 => exact Nat.le_of_ble_eq_true rfl); (case h4 => exact rfl); (case h5 => exact Nat.le_of_ble_eq_true rfl); (case kq => k_mem); (case z1 => assumption); (case z2 => assumption); (case z3 => first | assumption | exact rfl); (case z4 => decide +kernel); (case z5 => assumption); (case z6 => assumption))); k_whole; intro y' d' u2' u3' h' tk' F' N' l1 l2; (try k_lt l1); (try k_lt2 l2); (try k_sweep)))
local macro_rules | `(tactic| walk_at "call ref") => `(tactic| (k_here; (with_reducible show wpAny _ _ (call (Value.ref 163) _) _ _ _); k_dflt (first
  | (refine' c_opened_FUNC ?kXB ?kTB ?kB ?kF ?kX ?kN ?kT ?kk ?kx ?kd ?z1 ?_; (case kXB => k_asm); (case kTB => k_asm); (case kB => k_asm); (case kF => k_asm); (case kX => k_asm); (case kN => k_asm); (case kT => k_asm); (case kk => exact rfl); (case kx => k_mem); (case kd => k_mem); (case z1 => walk_at "str_ok"))
  | (refine' c_opened_PAREN ?kXB ?kTB ?kB ?kF ?kX ?kN ?kT ?kk ?kx ?kd ?z1 ?_; (case kXB => k_asm); (case kTB => k_asm); (case kB => k_asm); (case kF => k_asm); (case kX => k_asm); (case kN => k_asm); (case kT => k_asm); (case kk => exact rfl); (case kx => k_mem); (case kd => k_mem); (case z1 => walk_at "str_ok"))
  | (refine' c_opened_ARRAY ?kXB ?kTB ?kB ?kF ?kX ?kN ?kT ?kk ?kx ?kd ?z1 ?_; (case kXB => k_asm); (case kTB => k_asm); (case kB => k_asm); (case kF => k_asm); (case kX => k_asm); (case kN => k_asm); (case kT => k_asm); (case kk => exact rfl); (case kx => k_mem); (case kd => k_mem); (case z1 => walk_at "str_ok"))); k_whole; intro h' tk' F' N'; (try k_sweep)))
local macro_rules | `(tactic| walk_at "call ref") => `(tactic| (k_here; (with_reducible show wpAny _ _ (call (Value.ref 156) _) _ _ _); k_dflt (first
  | (refine' bar_2 ?kXB ?kTB ?kB ?kF ?kX ?kN ?kT ?kk ?z1 ?z2 ?z3 ?_; (case kXB => k_asm); (case kTB => k_asm); (case kB => k_asm); (case kF => k_asm); (case kX => k_asm); (case kN => k_asm); (case kT => k_asm); (case kk => exact rfl); (case z1 => k_mem); (case z2 => k_mem); (case z3 => decide +kernel))
  | (refine' bar_1 ?kXB ?kTB ?kB ?kF ?kX ?kN ?kT ?kk ?z1 ?_; (case kXB => k_asm); (case kTB => k_asm); (case kB => k_asm); (case kF => k_asm); (case kX => k_asm); (case kN => k_asm); (case kT => k_asm); (case kk => exact rfl); (case z1 => decide +kernel))
  | (refine' bar_F ?kXB ?kTB ?kB ?kF ?kX ?kN ?kT ?kk ?z1 ?z2 ?z3 ?z4 ?_; (case kXB => k_asm); (case kTB => k_asm); (case kB => k_asm); (case kF => k_asm); (case kX => k_asm); (case kN => k_asm); (case kT => k_asm); (case kk => exact rfl); (case z1 => assumption); (case z2 => assumption); (case z3 => assumption); (case z4 => decide +kernel))
  | (refine' bar_T ?kXB ?kTB ?kB ?kF ?kX ?kN ?kT ?kk ?z1 ?z2 ?z3 ?z4 ?z5 ?_; (case kXB => k_asm); (case kTB => k_asm); (case kB => k_asm); (case kF => k_asm); (case kX => k_asm); (case kN => k_asm); (case kT => k_asm); (case kk => exact rfl); (case z1 => decide); (case z2 => decide); (case z3 => exact rfl); (case z4 => decide +kernel); (case z5 => first | with_reducible exact run_open | with_reducible exact run_curl | with_reducible exact run_lruc))); k_whole; intro h' tk' F' N'; (try k_sweep)))
local macro_rules | `(tactic| walk_at "call builtin:str.format") => `(tactic| (k_here; (with_reducible show wpAny _ _ (call (Value.builtin "str.format") _) _ _ _); k_dflt (refine' fmt3 ?z1 ?z2 ?z3 ?_; (case z1 => first | assumption | decide); (case z2 => first | assumption | decide); (case z3 => first | assumption | decide); k_whole; intro _ _)))
local macro_rules | `(tactic| walk_at "newTuple") => `(tactic| (k_here; k_dflt (refine' kup_newTuple ?F ?N ?_ ?z; (case F => k_asm); (case N => k_asm); (case z => kmk_size)); intro D' h' F' N' l1; clear l1; (try k_sweep); (try dsimp only)))
set_option maxHeartbeats 80000000 in
theorem law_st4 {w : World} {mean : ExcName → Option Value} {mg mb : Str → Option Value}
   {a : Addr} {ccd : Value} {h₀ : Heap} {L : Addr} {m : Str → Option Value} {s : Shared}
    (B : Below callerA h₀ [] h₀) (F : Fr h₀ L s.heap m) (X : (Mine.hd.heap_39 w.params).In h₀) (N : News h₀ L s.heap []) (T : TopP mean mg mb h₀) :
      wpAny (model PySem.Challenge.pw_fh5003_01 w) (callerA.deeper (envOf (Str.ofString "law") lawScope L a ccd)) (exec (lawStmt 4) (envOf (Str.ofString "law") lawScope L a ccd)) (AnyP h₀ L s) (fun _ _ => False) s := by
  conv in lawStmt 4 => whnf
  k_steps
  all_goals first | exact AnyP.intro (by assumption) | exact (envOf (Str.ofString "law") lawScope L a ccd)
end

section -- L5
local macro_rules | `(tactic| walk_at "enter_def") => `(tactic| (k_dflt (refine' code_def ?k1 ?k2 ?k3 ?k4 ?k5 ?kA ?kF ?kK ?k6 ?k7 ?k8 ?k9 ?kB ?_ ?c2 ?c3 ?c4 ?c5; (case kA => exact rfl); (case kF => assumption); (case kK => assumption); (case k1 => k_asm); (case k2 => k_asm); (case k3 => k_asm); (case k4 => k_asm); (case k5 => k_asm); (case k6 => k_is); (case k7 => k_is); (case k8 => exact Nat.le_of_ble_eq_true rfl); (case k9 => first | exact BindsTo.of_eq rfl | exact binds_K (by k_in) rfl (by k_is) rfl rfl rfl); (case c5 => decide); (case kB => exact locs rfl); (case c2 => exact rfl); (case c3 => exact rfl); (case c4 => exact rfl); k_whole; intro g' L' h' FG' F' N' B' X' T'; (try dsimp only); (try k_fold))))
local macro_rules | `(tactic| walk_at "getAttr ref") => `(tactic| (k_here; k_dflt (refine' get_clsS ?k1 ?k2 ?k3 ?k4 ?k5 ?k6 ?k7 ?k8 ?k9 ?k10 ?_; (case k1 => k_asm); (case k2 => k_asm); (case k3 => k_inst); (case k4 => k_is); (case k5 => k_is); (case k6 => k_is); (case k7 => k_is); (case k8 => k_is); (case k9 => k_handed); (case k10 => decide +kernel); k_whole)))
local macro_rules | `(tactic| walk_at "getAttr ref") => `(tactic| (k_here; ((first | (with_reducible show wpAny _ _ (getAttr _ (PySem.Str.ofString "type") _) _ _ _) | (with_reducible show wpAny _ _ (getAttr _ (PySem.Str.ofString "subtype") _) _ _ _) | (with_reducible show wpAny _ _ (getAttr _ (PySem.Str.ofString "value") _) _ _ _))); k_dflt (refine' get_slot ?k1 ?k2 ?k3 ?k4 ?k5 ?k6 ?k7 ?k8 ?k9 ?k10 ?k11 ?_; (case k1 => k_asm); (case k2 => k_asm); (case k3 => k_inst); (case k4 => k_is); (case k5 => k_is); (case k6 => k_is); (case k7 => k_is); (case k8 => k_is); (case k9 => k_is); (case k10 => k_slotget); (case k11 => k_handed); k_whole)))
local macro_rules | `(tactic| walk_at "getAttr ref") => `(tactic| (k_here; (with_reducible show wpAny _ _ (getAttr (Value.ref 101) _ _) _ _ _); k_dflt (refine' cls_val ?k1 ?k2 ?k3 ?k4 ?k5 ?k6 ?_; (case k1 => k_asm); (case k2 => k_asm); (case k3 => k_is); (case k4 => k_is); (case k5 => k_is); (case k6 => k_handed); k_whole)))
local macro_rules | `(tactic| walk_at "getMethod ref") => `(tactic| (k_here; k_dflt (refine' method_cmS ?k1 ?k2 ?k3 ?k4 ?k5 ?k6 ?k7 ?k8 ?k9 ?k10 ?k11 ?k12 ?k13 ?_; (case k1 => k_asm); (case k2 => k_asm); (case k3 => k_asm); (case k4 => k_inst); (case k5 => k_is); (case k6 => k_is); (case k7 => k_is); (case k8 => k_is); (case k9 => k_is); (case k10 => k_is); (case k11 => k_is); (case k12 => decide +kernel); (case k13 => k_is); k_whole; intro q' h' F' N' l1; (try k_lt l1); (try k_sweep))))
local macro_rules | `(tactic| walk_at "own_mem") => `(tactic| first | with_reducible exact List.mem_cons_self | (with_reducible refine List.mem_cons_of_mem _ ?_; walk_at "own_mem") | with_reducible assumption)
local macro_rules | `(tactic| k_mem) => `(tactic| walk_at "own_mem")
local macro_rules | `(tactic| walk_at "callWith ref") => `(tactic| (k_here; k_dflt (refine' callWith_MKW ?k1 ?k2 ?k3 ?k4 ?k5 ?_; (case k1 => k_asm); (case k2 => k_asm); (case k3 => k_mem); (case k4 => k_is); (case k5 => exact rfl); k_whole)))
local macro_rules | `(tactic| k_all) => `(tactic| (intro p9 hp9; refine neN ?_; first | (have q9 := ktn_ltOf (by first | assumption | exact And.right (by assumption) | exact And.right (And.right (by assumption)) | exact And.right (And.right (And.right (by assumption)))) p9 hp9; (try dsimp only at q9 ⊢); omega) | (have q9 := (by assumption : ∀ p ∈ _, @LT.lt Nat _ p.1 _) p9 hp9; (try dsimp only at q9 ⊢); omega)))
local macro_rules | `(tactic| walk_at "call ref") => `(tactic| (k_here; (with_reducible show wpAny _ _ (call (Value.ref 101) [_, _, _]) _ _ _); k_dflt (refine' weaken (c_new ?kB ?kF ?kX ?kN ?kT ?kf ?kk ?_) ?h1 ?h2 ?h3 ?h4 ?h5; (case h3 => exact fun _ h => h); (case kB => k_asm); (case kF => k_asm); (case kX => k_asm); (case kN => k_asm); (case kT => k_asm); (case kf => exact rfl); (case kk => exact rfl); (case h1 => exact rfl); (case h2 => exact Nat.le_of_ble_eq_true rfl); (case h4 => exact rfl); (case h5 => exact Nat.le_of_ble_eq_true rfl); k_whole; intro y' d' h' tk' F' N' l1 l2; (try k_lt l1); (try k_lt2 l2); (try k_sweep))))
local macro_rules | `(tactic| walk_at "subscriptTail Name UnaryOp str int") => `(tactic| (refine item_strE (by assumption) (by decide) (by omega) (by omega) ?_))
local macro_rules | `(tactic| walk_at "compareOp In str str") => `(tactic| (refine in_strE (by assumption) ?_; (try dsimp only [Bool.not_true, Bool.not_false])))
local macro_rules | `(tactic| walk_at "sub_all") => `(tactic| first | (refine List.forall_mem_cons.mpr ⟨by k_mem, ?_⟩; walk_at "sub_all") | (intro p9 hp9; k_mem))
local macro_rules | `(tactic| walk_at "lt_all") => `(tactic| first | assumption | exact ktn_ltOf (by first | assumption | exact And.right (by assumption) | exact And.right (And.right (by assumption)) | exact And.right (And.right (And.right (by assumption)))))
local macro_rules | `(tactic| walk_at "getMethod ref") => `(tactic| (k_here; (with_reducible show wpAny _ _ (getMethod (Value.ref 36) _ _) _ _ _); k_dflt (refine' pat_method ?k1 ?k2 ?_; (case k1 => k_asm); (case k2 => k_asm); k_whole)))
local macro_rules | `(tactic| walk_at "call builtin:re.Pattern.match") => `(tactic| (k_here; k_dflt (refine' match_K true ?k1 ?k2 ?k3 ?k4 ?k5 ?_; (case k1 => k_asm); (case k2 => k_asm); (case k3 => k_asm); (case k4 => (have hz9 := (by assumption : _ ≤ (16 : Nat)); exact Nat.le_trans hz9 (by decide))); (case k5 => exact fun A E s Q h => (by assumption : RunIs true _) _ _ A E s Q h); k_whole; intro q' tu' h' a' b' F' N' l1 l2; (try k_lt l1); (try k_lt2 l2); (try k_sweep))))
local macro_rules | `(tactic| walk_at "truthy ref") => `(tactic| (k_here; k_dflt (refine' truthy_match ?k1 ?k2 ?_; (case k1 => k_asm); (case k2 => k_mem); k_whole)))
local macro_rules | `(tactic| walk_at "str_ok") => `(tactic| first | assumption | decide +kernel)
local macro_rules | `(tactic| walk_at "call ref") => `(tactic| (k_here; (with_reducible show wpAny _ _ (call (Value.ref 149) _) _ _ _); k_dflt (refine' weaken (c_three ?kB ?kF ?kX ?kN ?kT ?kf ?kk ?kx ?kd ?z1 ?z2 ?z3 ?_) ?h1 ?h2 ?h3 ?h4 ?h5; (case h3 => exact fun _ h => h); (case kB => k_asm); (case kF => k_asm); (case kX => k_asm); (case kN => k_asm); (case kT => k_asm); (case kf => exact rfl); (case kk => exact rfl); (case kx => k_mem); (case kd => k_mem); (case z1 => exact shaped3 (by walk_at "str_ok") (by walk_at "str_ok") (by walk_at "str_ok")); (case z2 => exact shaped3 (by walk_at "str_ok") (by walk_at "str_ok") (by walk_at "str_ok")); (case z3 => exact eqv3 _ _ _); (case h1 => exact rfl); (case h2 => exact Nat.le_of_ble_eq_true rfl); (case h4 => exact rfl); (case h5 => exact Nat.le_of_ble_eq_true rfl); k_whole; intro h' tk' F' N'; (try k_sweep))))
local macro_rules | `(tactic| walk_at "clo_end") => `(tactic| ((case h3 => exact fun _ h => h); (case kB => k_asm); (case kF => k_asm); (case kX => k_asm); (case kN => k_asm); (case kT => k_asm); (case kf => exact rfl); (case kk => exact rfl); (case kx => k_mem); (case kd => k_mem); (case h1 => exact rfl); (case h2 => exact Nat.le_of_ble_eq_true rfl); (case h4 => exact rfl); (case h5 => exact Nat.le_of_ble_eq_true rfl); k_whole; intro y' d' u1' u2' u3' h' tk' F' N' l1 l2; (try k_lt l1); (try k_lt2 l2); (try k_sweep)))
local macro_rules | `(tactic| walk_at "call ref") => `(tactic| (k_here; (with_reducible show wpAny _ _ (call (Value.ref 87) _) _ _ _); k_dflt (first
  | refine' weaken (clo_FUNC ?kB ?kF ?kX ?kN ?kT ?kf ?kk ?kx ?kd ?_) ?h1 ?h2 ?h3 ?h4 ?h5; walk_at "clo_end"
  | refine' weaken (clo_ARRAY ?kB ?kF ?kX ?kN ?kT ?kf ?kk ?kx ?kd ?_) ?h1 ?h2 ?h3 ?h4 ?h5; walk_at "clo_end"
  | refine' weaken (clo_PAREN ?kB ?kF ?kX ?kN ?kT ?kf ?kk ?kx ?kd ?_) ?h1 ?h2 ?h3 ?h4 ?h5; walk_at "clo_end")))
local macro_rules | `(tactic| walk_at "call ref") => `(tactic| (k_here; (with_reducible show wpAny _ _ (call (Value.ref _) [Value.str _ _] _) _ _ _); k_dflt (first
  | (refine' weaken (sub_G ?kB ?kF ?kX ?kN ?kT ?kf ?kk ?kq ?z1 ?z2 ?z3 ?z4 ?z5 ?z6 ?_) ?h1 ?h2 ?h3 ?h4 ?h5; (case h3 => exact fun _ h => h); (case kB => k_asm); (case kF => k_asm); (case kX => k_asm); (case kN => k_asm); (case kT => k_asm); (case kf => exact rfl); (case kk => exact rfl); (case h1 => exact rfl); (case h2 => exact Nat.le_of_ble_eq_true rfl); (case h4 => exact rfl); (case h5 => exact Nat.le_of_ble_eq_true rfl); (case kq => k_mem); (case z1 => decide); (case z2 => decide); (case z3 => exact rfl); (case z4 => decide); (case z5 => decide +kernel); (case z6 => with_reducible exact run_shut))
  | (refine' weaken (sub_C ?kB ?kF ?kX ?kN ?kT ?kf ?kk ?kq ?z1 ?z2 ?z3 ?z4 ?z5 ?z6 ?_) ?h1 ?h2 ?h3 ?h4 ?h5; (case h3 => exact fun _ h => h); (case kB => k_asm); (case kF => k_asm); (case kX => k_asm); (case kN => k_asm); (case kT => k_asm); (case kf => exact rfl); (case kk => exact rfl); (case h1 => exact rfl); (case h2 => exact Nat.le_of_ble_eq_true rfl); (case h4 => exact rfl); (case h5 => exact Nat.le_of_ble_eq_true rfl); (case kq => k_mem); (case z1 => decide); (case z2 => decide); (case z3 => exact rfl); (case z4 => decide); (case z5 => decide +kernel); (case z6 => decide +kernel))
  | (refine' weaken (sub_D ?kB ?kF ?kX ?kN ?kT ?kf ?kk ?kq ?z1 ?z2 ?z3 ?z4 ?z5 ?_) ?h1 ?h2 ?h3 ?h4 ?h5; (case h3 => exact fun _ h => h); (case kB => k_asm); (case kF => k_asm); (case kX => k_asm); (case kN => k_asm); (case kT => k_asm); (case kf => exact rfl); (case kk => exact rfl); (case h1 => exact rfl); (case h2 => exact Nat.le_of_ble_eq_true rfl); (case h4 => exact rfl); (case h5 => exact Nat.le_of_ble_eq_true rfl); (case kq => k_mem); (case z1 => decide); (case z2 => decide); (case z3 => exact rfl); (case z4 => decide); (case z5 => decide +kernel))
  | (refine' weaken (sub_E ?kB ?kF ?kX ?kN ?kT ?kf ?kk ?kq ?z1 ?z2 ?z3 ?z4 ?z5 ?z6 ?z7 ?_) ?h1 ?h2 ?h3 ?h4 ?h5; (case h3 => exact fun _ h => h); (case kB => k_asm); (case kF => k_asm); (case kX => k_asm); (case kN => k_asm); (case kT => k_asm); (case kf => exact rfl); (case kk => exact rfl); (case h1 => exact rfl); (case h2 => exact Nat.le_of_ble_eq_true rfl); (case h4 => exact rfl); (case h5 => exact Nat.le_of_ble_eq_true rfl); (case kq => k_mem); (case z1 => decide); (case z2 => decide); (case z3 => exact rfl); (case z4 => decide); (case z5 => decide +kernel); (case z6 => decide +kernel); (case z7 => decide +kernel))
  | (refine' weaken (sub_F ?kB ?kF ?kX ?kN ?kT ?kf ?kk ?kq ?z1 ?z2 ?z3 ?z4 ?z5 ?z6 ?_) ?h1 ?h2 ?h3 ?h4 ?h5; (case h3 => exact fun _ h => h); (case kB => k_asm); (case kF => k_asm); (case kX => k_asm); (case kN => k_asm); (case kT => k_asm); (case kf => exact rfl); (case kk => exact rfl); (case h1 => exact rfl); (case h2 => exact Nat.le_of_ble_eq_true rfl); (case h4 => exact rfl); (case h5 => exact Nat.le_of_ble_eq_true rfl); (case kq => k_mem); (case z1 => decide); (case z2 => decide); (case z3 => exact rfl); (case z4 => decide); (case z5 => decide +kernel); (case z6 => decide +kernel))
  | (refine' weaken (sub_names ?kB ?kF ?kX ?kN ?kT ?kf ?kk ?kq ?z1 ?z2 ?z3 ?z4 ?z5 ?z6 ?z7 ?_) ?h1 ?h2 ?h3 ?h4 ?h5; (case h3 => exact fun _ h => h); (case kB => k_asm); (case kF => k_asm); (case kX => k_asm); (case kN => k_asm); (case kT => k_asm); (case kf => exact rfl); (case kk => exact rfl); (case h1 => exact rfl); (case h2 => exact Nat.le_of_ble_eq_true rfl); (case h4 => exact rfl); (case h5 => exact Nat.le_of_ble_eq_true rfl); (case kq => k_mem); (case z1 => assumption); (case z2 => assumption); (case z3 => first | assumption | exact rfl); (case z4 => decide +kernel); (case z5 => assumption); (case z6 => assumption); (case z7 => assumption))
  | (refine' weaken (sub_namesT ?kB ?kF ?kX ?kN ?kT ?kf ?kk ?kq ?z1 ?z2 ?z3 ?z4 ?z5 ?z6 ?_) ?h1 ?h2 ?h3 ?h4 ?h5; (case h3 => exact fun _ h => h); (case kB => k_asm); (case kF => k_asm); (case kX => k_asm); (case kN => k_asm); (case kT => k_asm); (case kf => exact rfl); (case kk => exact rfl); (case h1 => exact rfl); (case h2 => exact Nat.le_of_ble_eq_true rfl); (case h4 => exact rfl); (case h5 => exact Nat.le_of_ble_eq_true rfl); (case kq => k_mem); (case z1 => assumption); (case z2 => assumption); (case z3 => first | assumption | exact rfl); (case z4 => decide +kernel); (case z5 => assumption); (case z6 => assumption))); k_whole; intro y' d' u2' u3' h' tk' F' N' l1 l2; (try k_lt l1); (try k_lt2 l2); (try k_sweep)))
local macro_rules | `(tactic| walk_at "call ref") => `(tactic| (k_here; (with_reducible show wpAny _ _ (call (Value.ref 163) _) _ _ _); k_dflt (first
  | (refine' c_opened_FUNC ?kXB ?kTB ?kB ?kF ?kX ?kN ?kT ?kk ?kx ?kd ?z1 ?_; (case kXB => k_asm); (case kTB => k_asm); (case kB => k_asm); (case kF => k_asm); (case kX => k_asm); (case kN => k_asm); (case kT => k_asm); (case kk => exact rfl); (case kx => k_mem); (case kd => k_mem); (case z1 => walk_at "str_ok"))
  | (refine' c_opened_PAREN ?kXB ?kTB ?kB ?kF ?kX ?kN ?kT ?kk ?kx ?kd ?z1 ?_; (case kXB => k_asm); (case kTB => k_asm); (case kB => k_asm); (case kF => k_asm); (case kX => k_asm); (case kN => k_asm); (case kT => k_asm); (case kk => exact rfl); (case kx => k_mem); (case kd => k_mem); (case z1 => walk_at "str_ok"))
  | (refine' c_opened_ARRAY ?kXB ?kTB ?kB ?kF ?kX ?kN ?kT ?kk ?kx ?kd ?z1 ?_; (case kXB => k_asm); (case kTB => k_asm); (case kB => k_asm); (case kF => k_asm); (case kX => k_asm); (case kN => k_asm); (case kT => k_asm); (case kk => exact rfl); (case kx => k_mem); (case kd => k_mem); (case z1 => walk_at "str_ok"))); k_whole; intro h' tk' F' N'; (try k_sweep)))
local macro_rules | `(tactic| walk_at "call ref") => `(tactic| (k_here; (with_reducible show wpAny _ _ (call (Value.ref 156) _) _ _ _); k_dflt (first
  | (refine' bar_2 ?kXB ?kTB ?kB ?kF ?kX ?kN ?kT ?kk ?z1 ?z2 ?z3 ?_; (case kXB => k_asm); (case kTB => k_asm); (case kB => k_asm); (case kF => k_asm); (case kX => k_asm); (case kN => k_asm); (case kT => k_asm); (case kk => exact rfl); (case z1 => k_mem); (case z2 => k_mem); (case z3 => decide +kernel))
  | (refine' bar_1 ?kXB ?kTB ?kB ?kF ?kX ?kN ?kT ?kk ?z1 ?_; (case kXB => k_asm); (case kTB => k_asm); (case kB => k_asm); (case kF => k_asm); (case kX => k_asm); (case kN => k_asm); (case kT => k_asm); (case kk => exact rfl); (case z1 => decide +kernel))
  | (refine' bar_F ?kXB ?kTB ?kB ?kF ?kX ?kN ?kT ?kk ?z1 ?z2 ?z3 ?z4 ?_; (case kXB => k_asm); (case kTB => k_asm); (case kB => k_asm); (case kF => k_asm); (case kX => k_asm); (case kN => k_asm); (case kT => k_asm); (case kk => exact rfl); (case z1 => assumption); (case z2 => assumption); (case z3 => assumption); (case z4 => decide +kernel))
  | (refine' bar_T ?kXB ?kTB ?kB ?kF ?kX ?kN ?kT ?kk ?z1 ?z2 ?z3 ?z4 ?z5 ?_; (case kXB => k_asm); (case kTB => k_asm); (case kB => k_asm); (case kF => k_asm); (case kX => k_asm); (case kN => k_asm); (case kT => k_asm); (case kk => exact rfl); (case z1 => decide); (case z2 => decide); (case z3 => exact rfl); (case z4 => decide +kernel); (case z5 => first | with_reducible exact run_open | with_reducible exact run_curl | with_reducible exact run_lruc))); k_whole; intro h' tk' F' N'; (try k_sweep)))
local macro_rules | `(tactic| walk_at "call builtin:str.format") => `(tactic| (k_here; (with_reducible show wpAny _ _ (call (Value.builtin "str.format") _) _ _ _); k_dflt (refine' fmt3 ?z1 ?z2 ?z3 ?_; (case z1 => first | assumption | decide); (case z2 => first | assumption | decide); (case z3 => first | assumption | decide); k_whole; intro _ _)))
set_option maxHeartbeats 80000000 in
theorem law_st5 {w : World} {mean : ExcName → Option Value} {mg mb : Str → Option Value}
   {a : Addr} {ccd : Value} {h₀ : Heap} {L : Addr} {m : Str → Option Value} {s : Shared}
    (B : Below callerA h₀ [] h₀) (F : Fr h₀ L s.heap m) (X : (Mine.hd.heap_39 w.params).In h₀) (N : News h₀ L s.heap []) (T : TopP mean mg mb h₀) :
      wpAny (model PySem.Challenge.pw_fh5003_01 w) (callerA.deeper (envOf (Str.ofString "law") lawScope L a ccd)) (exec (lawStmt 5) (envOf (Str.ofString "law") lawScope L a ccd)) (AnyP h₀ L s) (fun _ _ => False) s := by
  conv in lawStmt 5 => whnf
  k_steps
  all_goals first | exact AnyP.intro (by assumption) | exact (envOf (Str.ofString "law") lawScope L a ccd)
end

section -- L6
local macro_rules | `(tactic| walk_at "enter_def") => `(tactic| (k_dflt (refine' code_def ?k1 ?k2 ?k3 ?k4 ?k5 ?kA ?kF ?kK ?k6 ?k7 ?k8 ?k9 ?kB ?_ ?c2 ?c3 ?c4 ?c5; (case kA => exact rfl); (case kF => assumption); (case kK => assumption); (case k1 => k_asm); (case k2 => k_asm); (case k3 => k_asm); (case k4 => k_asm); (case k5 => k_asm); (case k6 => k_is); (case k7 => k_is); (case k8 => exact Nat.le_of_ble_eq_true rfl); (case k9 => first | exact BindsTo.of_eq rfl | exact binds_K (by k_in) rfl (by k_is) rfl rfl rfl); (case c5 => decide); (case kB => exact locs rfl); (case c2 => exact rfl); (case c3 => exact rfl); (case c4 => exact rfl); k_whole; intro g' L' h' FG' F' N' B' X' T'; (try dsimp only); (try k_fold))))
local macro_rules | `(tactic| walk_at "getAttr ref") => `(tactic| (k_here; k_dflt (refine' get_clsS ?k1 ?k2 ?k3 ?k4 ?k5 ?k6 ?k7 ?k8 ?k9 ?k10 ?_; (case k1 => k_asm); (case k2 => k_asm); (case k3 => k_inst); (case k4 => k_is); (case k5 => k_is); (case k6 => k_is); (case k7 => k_is); (case k8 => k_is); (case k9 => k_handed); (case k10 => decide +kernel); k_whole)))
local macro_rules | `(tactic| walk_at "getAttr ref") => `(tactic| (k_here; ((first | (with_reducible show wpAny _ _ (getAttr _ (PySem.Str.ofString "type") _) _ _ _) | (with_reducible show wpAny _ _ (getAttr _ (PySem.Str.ofString "subtype") _) _ _ _) | (with_reducible show wpAny _ _ (getAttr _ (PySem.Str.ofString "value") _) _ _ _))); k_dflt (refine' get_slot ?k1 ?k2 ?k3 ?k4 ?k5 ?k6 ?k7 ?k8 ?k9 ?k10 ?k11 ?_; (case k1 => k_asm); (case k2 => k_asm); (case k3 => k_inst); (case k4 => k_is); (case k5 => k_is); (case k6 => k_is); (case k7 => k_is); (case k8 => k_is); (case k9 => k_is); (case k10 => k_slotget); (case k11 => k_handed); k_whole)))
local macro_rules | `(tactic| walk_at "getAttr ref") => `(tactic| (k_here; (with_reducible show wpAny _ _ (getAttr (Value.ref 101) _ _) _ _ _); k_dflt (refine' cls_val ?k1 ?k2 ?k3 ?k4 ?k5 ?k6 ?_; (case k1 => k_asm); (case k2 => k_asm); (case k3 => k_is); (case k4 => k_is); (case k5 => k_is); (case k6 => k_handed); k_whole)))
local macro_rules | `(tactic| walk_at "getMethod ref") => `(tactic| (k_here; k_dflt (refine' method_cmS ?k1 ?k2 ?k3 ?k4 ?k5 ?k6 ?k7 ?k8 ?k9 ?k10 ?k11 ?k12 ?k13 ?_; (case k1 => k_asm); (case k2 => k_asm); (case k3 => k_asm); (case k4 => k_inst); (case k5 => k_is); (case k6 => k_is); (case k7 => k_is); (case k8 => k_is); (case k9 => k_is); (case k10 => k_is); (case k11 => k_is); (case k12 => decide +kernel); (case k13 => k_is); k_whole; intro q' h' F' N' l1; (try k_lt l1); (try k_sweep))))
local macro_rules | `(tactic| walk_at "own_mem") => `(tactic| first | with_reducible exact List.mem_cons_self | (with_reducible refine List.mem_cons_of_mem _ ?_; walk_at "own_mem") | with_reducible assumption)
local macro_rules | `(tactic| k_mem) => `(tactic| walk_at "own_mem")
local macro_rules | `(tactic| walk_at "callWith ref") => `(tactic| (k_here; k_dflt (refine' callWith_MKW ?k1 ?k2 ?k3 ?k4 ?k5 ?_; (case k1 => k_asm); (case k2 => k_asm); (case k3 => k_mem); (case k4 => k_is); (case k5 => exact rfl); k_whole)))
local macro_rules | `(tactic| k_all) => `(tactic| (intro p9 hp9; refine neN ?_; first | (have q9 := ktn_ltOf (by first | assumption | exact And.right (by assumption) | exact And.right (And.right (by assumption)) | exact And.right (And.right (And.right (by assumption)))) p9 hp9; (try dsimp only at q9 ⊢); omega) | (have q9 := (by assumption : ∀ p ∈ _, @LT.lt Nat _ p.1 _) p9 hp9; (try dsimp only at q9 ⊢); omega)))
local macro_rules | `(tactic| walk_at "call ref") => `(tactic| (k_here; (with_reducible show wpAny _ _ (call (Value.ref 101) [_, _, _]) _ _ _); k_dflt (refine' weaken (c_new ?kB ?kF ?kX ?kN ?kT ?kf ?kk ?_) ?h1 ?h2 ?h3 ?h4 ?h5; (case h3 => exact fun _ h => h); (case kB => k_asm); (case kF => k_asm); (case kX => k_asm); (case kN => k_asm); (case kT => k_asm); (case kf => exact rfl); (case kk => exact rfl); (case h1 => exact rfl); (case h2 => exact Nat.le_of_ble_eq_true rfl); (case h4 => exact rfl); (case h5 => exact Nat.le_of_ble_eq_true rfl); k_whole; intro y' d' h' tk' F' N' l1 l2; (try k_lt l1); (try k_lt2 l2); (try k_sweep))))
local macro_rules | `(tactic| walk_at "subscriptTail Name UnaryOp str int") => `(tactic| (refine item_strE (by assumption) (by decide) (by omega) (by omega) ?_))
local macro_rules | `(tactic| walk_at "compareOp In str str") => `(tactic| (refine in_strE (by assumption) ?_; (try dsimp only [Bool.not_true, Bool.not_false])))
local macro_rules | `(tactic| walk_at "sub_all") => `(tactic| first | (refine List.forall_mem_cons.mpr ⟨by k_mem, ?_⟩; walk_at "sub_all") | (intro p9 hp9; k_mem))
local macro_rules | `(tactic| walk_at "lt_all") => `(tactic| first | assumption | exact ktn_ltOf (by first | assumption | exact And.right (by assumption) | exact And.right (And.right (by assumption)) | exact And.right (And.right (And.right (by assumption)))))
local macro_rules | `(tactic| walk_at "getMethod ref") => `(tactic| (k_here; (with_reducible show wpAny _ _ (getMethod (Value.ref 36) _ _) _ _ _); k_dflt (refine' pat_method ?k1 ?k2 ?_; (case k1 => k_asm); (case k2 => k_asm); k_whole)))
local macro_rules | `(tactic| walk_at "call builtin:re.Pattern.match") => `(tactic| (k_here; k_dflt (refine' match_K true ?k1 ?k2 ?k3 ?k4 ?k5 ?_; (case k1 => k_asm); (case k2 => k_asm); (case k3 => k_asm); (case k4 => (have hz9 := (by assumption : _ ≤ (16 : Nat)); exact Nat.le_trans hz9 (by decide))); (case k5 => exact fun A E s Q h => (by assumption : RunIs true _) _ _ A E s Q h); k_whole; intro q' tu' h' a' b' F' N' l1 l2; (try k_lt l1); (try k_lt2 l2); (try k_sweep))))
local macro_rules | `(tactic| walk_at "truthy ref") => `(tactic| (k_here; k_dflt (refine' truthy_match ?k1 ?k2 ?_; (case k1 => k_asm); (case k2 => k_mem); k_whole)))
local macro_rules | `(tactic| walk_at "str_ok") => `(tactic| first | assumption | decide +kernel)
local macro_rules | `(tactic| walk_at "call ref") => `(tactic| (k_here; (with_reducible show wpAny _ _ (call (Value.ref 149) _) _ _ _); k_dflt (refine' weaken (c_three ?kB ?kF ?kX ?kN ?kT ?kf ?kk ?kx ?kd ?z1 ?z2 ?z3 ?_) ?h1 ?h2 ?h3 ?h4 ?h5; (case h3 => exact fun _ h => h); (case kB => k_asm); (case kF => k_asm); (case kX => k_asm); (case kN => k_asm); (case kT => k_asm); (case kf => exact rfl); (case kk => exact rfl); (case kx => k_mem); (case kd => k_mem); (case z1 => exact shaped3 (by walk_at "str_ok") (by walk_at "str_ok") (by walk_at "str_ok")); (case z2 => exact shaped3 (by walk_at "str_ok") (by walk_at "str_ok") (by walk_at "str_ok")); (case z3 => exact eqv3 _ _ _); (case h1 => exact rfl); (case h2 => exact Nat.le_of_ble_eq_true rfl); (case h4 => exact rfl); (case h5 => exact Nat.le_of_ble_eq_true rfl); k_whole; intro h' tk' F' N'; (try k_sweep))))
local macro_rules | `(tactic| walk_at "clo_end") => `(tactic| ((case h3 => exact fun _ h => h); (case kB => k_asm); (case kF => k_asm); (case kX => k_asm); (case kN => k_asm); (case kT => k_asm); (case kf => exact rfl); (case kk => exact rfl); (case kx => k_mem); (case kd => k_mem); (case h1 => exact rfl); (case h2 => exact Nat.le_of_ble_eq_true rfl); (case h4 => exact rfl); (case h5 => exact Nat.le_of_ble_eq_true rfl); k_whole; intro y' d' u1' u2' u3' h' tk' F' N' l1 l2; (try k_lt l1); (try k_lt2 l2); (try k_sweep)))
local macro_rules | `(tactic| walk_at "call ref") => `(tactic| (k_here; (with_reducible show wpAny _ _ (call (Value.ref 87) _) _ _ _); k_dflt (first
  | refine' weaken (clo_FUNC ?kB ?kF ?kX ?kN ?kT ?kf ?kk ?kx ?kd ?_) ?h1 ?h2 ?h3 ?h4 ?h5; walk_at "clo_end"
  | refine' weaken (clo_ARRAY ?kB ?kF ?kX ?kN ?kT ?kf ?kk ?kx ?kd ?_) ?h1 ?h2 ?h3 ?h4 ?h5; walk_at "clo_end"
  | refine' weaken (clo_PAREN ?kB ?kF ?kX ?kN ?kT ?kf ?kk ?kx ?kd ?_) ?h1 ?h2 ?h3 ?h4 ?h5; walk_at "clo_end")))
local macro_rules | `(tactic| walk_at "call ref") => `(tactic| (k_here; (with_reducible show wpAny _ _ (call (Value.ref _) [Value.str _ _] _) _ _ _); k_dflt (first
  | (refine' weaken (sub_G ?kB ?kF ?kX ?kN ?kT ?kf ?kk ?kq ?z1 ?z2 ?z3 ?z4 ?z5 ?z6 ?_) ?h1 ?h2 ?h3 ?h4 ?h5; (case h3 => exact fun _ h => h); (case kB => k_asm); (case kF => k_asm); (case kX => k_asm); (case kN => k_asm); (case kT => k_asm); (case kf => exact rfl); (case kk => exact rfl); (case h1 => exact rfl); (case h2 => exact Nat.le_of_ble_eq_true rfl); (case h4 => exact rfl); (case h5 => exact Nat.le_of_ble_eq_true rfl); (case kq => k_mem); (case z1 => decide); (case z2 => decide); (case z3 => exact rfl); (case z4 => decide); (case z5 => decide +kernel); (case z6 => with_reducible exact run_shut))
  | (refine' weaken (sub_C ?kB ?kF ?kX ?kN ?kT ?kf ?kk ?kq ?z1 ?z2 ?z3 ?z4 ?z5 ?z6 ?_) ?h1 ?h2 ?h3 ?h4 ?h5; (case h3 => exact fun _ h => h); (case kB => k_asm); (case kF => k_asm); (case kX => k_asm); (case kN => k_asm); (case kT => k_asm); (case kf => exact rfl); (case kk => exact rfl); (case h1 => exact rfl); (case h2 => exact Nat.le_of_ble_eq_true rfl); (case h4 => exact rfl); (case h5 => exact Nat.le_of_ble_eq_true rfl); (case kq => k_mem); (case z1 => decide); (case z2 => decide); (case z3 => exact rfl); (case z4 => decide); (case z5 => decide +kernel); (case z6 => decide +kernel))
  | (refine' weaken (sub_D ?kB ?kF ?kX ?kN ?kT ?kf ?kk ?kq ?z1 ?z2 ?z3 ?z4 ?z5 ?_) ?h1 ?h2 ?h3 ?h4 ?h5; (case h3 => exact fun _ h => h); (case kB => k_asm); (case kF => k_asm); (case kX => k_asm); (case kN => k_asm); (case kT => k_asm); (case kf => exact rfl); (case kk => exact rfl); (case h1 => exact rfl); (case h2 => exact Nat.le_of_ble_eq_true rfl); (case h4 => exact rfl); (case h5 => exact Nat.le_of_ble_eq_true rfl); (case kq => k_mem); (case z1 => decide); (case z2 => decide); (case z3 => exact rfl); (case z4 => decide); (case z5 => decide +kernel))
  | (refine' weaken (sub_E ?kB ?kF ?kX ?kN ?kT ?kf ?kk ?kq ?z1 ?z2 ?z3 ?z4 ?z5 ?z6 ?z7 ?_) ?h1 ?h2 ?h3 ?h4 ?h5; (case h3 => exact fun _ h => h); (case kB => k_asm); (case kF => k_asm); (case kX => k_asm); (case kN => k_asm); (case kT => k_asm); (case kf => exact rfl); (case kk => exact rfl); (case h1 => exact rfl); (case h2 => exact Nat.le_of_ble_eq_true rfl); (case h4 => exact rfl); (case h5 => exact Nat.le_of_ble_eq_true rfl); (case kq => k_mem); (case z1 => decide); (case z2 => decide); (case z3 => exact rfl); (case z4 => decide); (case z5 => decide +kernel); (case z6 => decide +kernel); (case z7 => decide +kernel))
  | (refine' weaken (sub_F ?kB ?kF ?kX ?kN ?kT ?kf ?kk ?kq ?z1 ?z2 ?z3 ?z4 ?z5 ?z6 ?_) ?h1 ?h2 ?h3 ?h4 ?h5; (case h3 => exact fun _ h => h); (case kB => k_asm); (case kF => k_asm); (case kX => k_asm); (case kN => k_asm); (case kT => k_asm); (case kf => exact rfl); (case kk => exact rfl); (case h1 => exact rfl); (case h2 => exact Nat.le_of_ble_eq_true rfl); (case h4 => exact rfl); (case h5 => exact Nat.le_of_ble_eq_true rfl); (case kq => k_mem); (case z1 => decide); (case z2 => decide); (case z3 => exact rfl); (case z4 => decide); (case z5 => decide +kernel); (case z6 => decide +kernel))
  | (refine' weaken (sub_names ?kB ?kF ?kX ?kN ?kT ?kf ?kk ?kq ?z1 ?z2 ?z3 ?z4 ?z5 ?z6 ?z7 ?_) ?h1 ?h2 ?h3 ?h4 ?h5; (case h3 => exact fun _ h => h); (case kB => k_asm); (case kF => k_asm); (case kX => k_asm); (case kN => k_asm); (case kT => k_asm); (case kf => exact rfl); (case kk => exact rfl); (case h1 => exact rfl); (case h2 => exact Nat.le_of_ble_eq_true rfl); (case h4 => exact rfl); (case h5 => exact Nat.le_of_ble_eq_true rfl); (case kq => k_mem); (case z1 => assumption); (case z2 => assumption); (case z3 => first | assumption | exact rfl); (case z4 => decide +kernel); (case z5 => assumption); (case z6 => assumption); (case z7 => assumption))
  | (refine' weaken (sub_namesT ?kB ?kF ?kX ?kN ?kT ?kf ?kk ?kq ?z1 ?z2 ?z3 ?z4 ?z5 ?z6 ?_) ?h1 ?h2 ?h3 ?h4 ?h5; (case h3 => exact fun _ h => h); (case kB => k_asm); (case kF => k_asm); (case kX => k_asm); (case kN => k_asm); (case kT => k_asm); (case kf => exact rfl); (case kk => exact rfl); (case h1 => exact rfl); (case h2 => exact Nat.le_of_ble_eq_true rfl); (case h4 => exact rfl); (case h5 => exact Nat.le_of_ble_eq_true rfl); (case kq => k_mem); (case z1 => assumption); (case z2 => assumption); (case z3 => first | assumption | exact rfl); (case z4 => decide +kernel); (case z5 => assumption); (case z6 => assumption))); k_whole; intro y' d' u2' u3' h' tk' F' N' l1 l2; (try k_lt l1); (try k_lt2 l2); (try k_sweep)))
local macro_rules | `(tactic| walk_at "call ref") => `(tactic| (k_here; (with_reducible show wpAny _ _ (call (Value.ref 163) _) _ _ _); k_dflt (first
  | (refine' c_opened_FUNC ?kXB ?kTB ?kB ?kF ?kX ?kN ?kT ?kk ?kx ?kd ?z1 ?_; (case kXB => k_asm); (case kTB => k_asm); (case kB => k_asm); (case kF => k_asm); (case kX => k_asm); (case kN => k_asm); (case kT => k_asm); (case kk => exact rfl); (case kx => k_mem); (case kd => k_mem); (case z1 => walk_at "str_ok"))
  | (refine' c_opened_PAREN ?kXB ?kTB ?kB ?kF ?kX ?kN ?kT ?kk ?kx ?kd ?z1 ?_; (case kXB => k_asm); (case kTB => k_asm); (case kB => k_asm); (case kF => k_asm); (case kX => k_asm); (case kN => k_asm); (case kT => k_asm); (case kk => exact rfl); (case kx => k_mem); (case kd => k_mem); (case z1 => walk_at "str_ok"))
  | (refine' c_opened_ARRAY ?kXB ?kTB ?kB ?kF ?kX ?kN ?kT ?kk ?kx ?kd ?z1 ?_; (case kXB => k_asm); (case kTB => k_asm); (case kB => k_asm); (case kF => k_asm); (case kX => k_asm); (case kN => k_asm); (case kT => k_asm); (case kk => exact rfl); (case kx => k_mem); (case kd => k_mem); (case z1 => walk_at "str_ok"))); k_whole; intro h' tk' F' N'; (try k_sweep)))
local macro_rules | `(tactic| walk_at "call ref") => `(tactic| (k_here; (with_reducible show wpAny _ _ (call (Value.ref 156) _) _ _ _); k_dflt (first
  | (refine' bar_2 ?kXB ?kTB ?kB ?kF ?kX ?kN ?kT ?kk ?z1 ?z2 ?z3 ?_; (case kXB => k_asm); (case kTB => k_asm); (case kB => k_asm); (case kF => k_asm); (case kX => k_asm); (case kN => k_asm); (case kT => k_asm); (case kk => exact rfl); (case z1 => k_mem); (case z2 => k_mem); (case z3 => decide +kernel))
  | (refine' bar_1 ?kXB ?kTB ?kB ?kF ?kX ?kN ?kT ?kk ?z1 ?_; (case kXB => k_asm); (case kTB => k_asm); (case kB => k_asm); (case kF => k_asm); (case kX => k_asm); (case kN => k_asm); (case kT => k_asm); (case kk => exact rfl); (case z1 => decide +kernel))
  | (refine' bar_F ?kXB ?kTB ?kB ?kF ?kX ?kN ?kT ?kk ?z1 ?z2 ?z3 ?z4 ?_; (case kXB => k_asm); (case kTB => k_asm); (case kB => k_asm); (case kF => k_asm); (case kX => k_asm); (case kN => k_asm); (case kT => k_asm); (case kk => exact rfl); (case z1 => assumption); (case z2 => assumption); (case z3 => assumption); (case z4 => decide +kernel))
  | (refine' bar_T ?kXB ?kTB ?kB ?kF ?kX ?kN ?kT ?kk ?z1 ?z2 ?z3 ?z4 ?z5 ?_; (case kXB => k_asm); (case kTB => k_asm); (case kB => k_asm); (case kF => k_asm); (case kX => k_asm); (case kN => k_asm); (case kT => k_asm); (case kk => exact rfl); (case z1 => decide); (case z2 => decide); (case z3 => exact rfl); (case z4 => decide +kernel); (case z5 => first | with_reducible exact run_open | with_reducible exact run_curl | with_reducible exact run_lruc))); k_whole; intro h' tk' F' N'; (try k_sweep)))
local macro_rules | `(tactic| walk_at "call builtin:str.format") => `(tactic| (k_here; (with_reducible show wpAny _ _ (call (Value.builtin "str.format") _) _ _ _); k_dflt (refine' fmt3 ?z1 ?z2 ?z3 ?_; (case z1 => first | assumption | decide); (case z2 => first | assumption | decide); (case z3 => first | assumption | decide); k_whole; intro _ _)))
set_option maxHeartbeats 80000000 in
theorem law_st6 {w : World} {mean : ExcName → Option Value} {mg mb : Str → Option Value}
   {a : Addr} {ccd : Value} {h₀ : Heap} {L : Addr} {m : Str → Option Value} {s : Shared}
    (B : Below callerA h₀ [] h₀) (F : Fr h₀ L s.heap m) (X : (Mine.hd.heap_39 w.params).In h₀) (N : News h₀ L s.heap []) (T : TopP mean mg mb h₀) :
      wpAny (model PySem.Challenge.pw_fh5003_01 w) (callerA.deeper (envOf (Str.ofString "law") lawScope L a ccd)) (exec (lawStmt 6) (envOf (Str.ofString "law") lawScope L a ccd)) (AnyP h₀ L s) (fun _ _ => False) s := by
  conv in lawStmt 6 => whnf
  k_steps
  all_goals first | exact AnyP.intro (by assumption) | exact (envOf (Str.ofString "law") lawScope L a ccd)
end

section -- L7
local macro_rules | `(tactic| walk_at "enter_def") => `(tactic| (k_dflt (refine' code_def ?k1 ?k2 ?k3 ?k4 ?k5 ?kA ?kF ?kK ?k6 ?k7 ?k8 ?k9 ?kB ?_ ?c2 ?c3 ?c4 ?c5; (case kA => exact rfl); (case kF => assumption); (case kK => assumption); (case k1 => k_asm); (case k2 => k_asm); (case k3 => k_asm); (case k4 => k_asm); (case k5 => k_asm); (case k6 => k_is); (case k7 => k_is); (case k8 => exact Nat.le_of_ble_eq_true rfl); (case k9 => first | exact BindsTo.of_eq rfl | exact binds_K (by k_in) rfl (by k_is) rfl rfl rfl); (case c5 => decide); (case kB => exact locs rfl); (case c2 => exact rfl); (case c3 => exact rfl); (case c4 => exact rfl); k_whole; intro g' L' h' FG' F' N' B' X' T'; (try dsimp only); (try k_fold))))
local macro_rules | `(tactic| walk_at "getAttr ref") => `(tactic| (k_here; k_dflt (refine' get_clsS ?k1 ?k2 ?k3 ?k4 ?k5 ?k6 ?k7 ?k8 ?k9 ?k10 ?_; (case k1 => k_asm); (case k2 => k_asm); (case k3 => k_inst); (case k4 => k_is); (case k5 => k_is); (case k6 => k_is); (case k7 => k_is); (case k8 => k_is); (case k9 => k_handed); (case k10 => decide +kernel); k_whole)))
local macro_rules | `(tactic| walk_at "getAttr ref") => `(tactic| (k_here; ((first | (with_reducible show wpAny _ _ (getAttr _ (PySem.Str.ofString "type") _) _ _ _) | (with_reducible show wpAny _ _ (getAttr _ (PySem.Str.ofString "subtype") _) _ _ _) | (with_reducible show wpAny _ _ (getAttr _ (PySem.Str.ofString "value") _) _ _ _))); k_dflt (refine' get_slot ?k1 ?k2 ?k3 ?k4 ?k5 ?k6 ?k7 ?k8 ?k9 ?k10 ?k11 ?_; (case k1 => k_asm); (case k2 => k_asm); (case k3 => k_inst); (case k4 => k_is); (case k5 => k_is); (case k6 => k_is); (case k7 => k_is); (case k8 => k_is); (case k9 => k_is); (case k10 => k_slotget); (case k11 => k_handed); k_whole)))
local macro_rules | `(tactic| walk_at "getAttr ref") => `(tactic| (k_here; (with_reducible show wpAny _ _ (getAttr (Value.ref 101) _ _) _ _ _); k_dflt (refine' cls_val ?k1 ?k2 ?k3 ?k4 ?k5 ?k6 ?_; (case k1 => k_asm); (case k2 => k_asm); (case k3 => k_is); (case k4 => k_is); (case k5 => k_is); (case k6 => k_handed); k_whole)))
local macro_rules | `(tactic| walk_at "getMethod ref") => `(tactic| (k_here; k_dflt (refine' method_cmS ?k1 ?k2 ?k3 ?k4 ?k5 ?k6 ?k7 ?k8 ?k9 ?k10 ?k11 ?k12 ?k13 ?_; (case k1 => k_asm); (case k2 => k_asm); (case k3 => k_asm); (case k4 => k_inst); (case k5 => k_is); (case k6 => k_is); (case k7 => k_is); (case k8 => k_is); (case k9 => k_is); (case k10 => k_is); (case k11 => k_is); (case k12 => decide +kernel); (case k13 => k_is); k_whole; intro q' h' F' N' l1; (try k_lt l1); (try k_sweep))))
local macro_rules | `(tactic| walk_at "own_mem") => `(tactic| first | with_reducible exact List.mem_cons_self | (with_reducible refine List.mem_cons_of_mem _ ?_; walk_at "own_mem") | with_reducible assumption)
local macro_rules | `(tactic| k_mem) => `(tactic| walk_at "own_mem")
local macro_rules | `(tactic| walk_at "callWith ref") => `(tactic| (k_here; k_dflt (refine' callWith_MKW ?k1 ?k2 ?k3 ?k4 ?k5 ?_; (case k1 => k_asm); (case k2 => k_asm); (case k3 => k_mem); (case k4 => k_is); (case k5 => exact rfl); k_whole)))
local macro_rules | `(tactic| k_all) => `(tactic| (intro p9 hp9; refine neN ?_; first | (have q9 := ktn_ltOf (by first | assumption | exact And.right (by assumption) | exact And.right (And.right (by assumption)) | exact And.right (And.right (And.right (by assumption)))) p9 hp9; (try dsimp only at q9 ⊢); omega) | (have q9 := (by assumption : ∀ p ∈ _, @LT.lt Nat _ p.1 _) p9 hp9; (try dsimp only at q9 ⊢); omega)))
local macro_rules | `(tactic| walk_at "call ref") => `(tactic| (k_here; (with_reducible show wpAny _ _ (call (Value.ref 101) [_, _, _]) _ _ _); k_dflt (refine' weaken (c_new ?kB ?kF ?kX ?kN ?kT ?kf ?kk ?_) ?h1 ?h2 ?h3 ?h4 ?h5; (case h3 => exact fun _ h => h); (case kB => k_asm); (case kF => k_asm); (case kX => k_asm); (case kN => k_asm); (case kT => k_asm); (case kf => exact rfl); (case kk => exact rfl); (case h1 => exact rfl); (case h2 => exact Nat.le_of_ble_eq_true rfl); (case h4 => exact rfl); (case h5 => exact Nat.le_of_ble_eq_true rfl); k_whole; intro y' d' h' tk' F' N' l1 l2; (try k_lt l1); (try k_lt2 l2); (try k_sweep))))
local macro_rules | `(tactic| walk_at "subscriptTail Name UnaryOp str int") => `(tactic| (refine item_strE (by assumption) (by decide) (by omega) (by omega) ?_))
local macro_rules | `(tactic| walk_at "compareOp In str str") => `(tactic| (refine in_strE (by assumption) ?_; (try dsimp only [Bool.not_true, Bool.not_false])))
local macro_rules | `(tactic| walk_at "sub_all") => `(tactic| first | (refine List.forall_mem_cons.mpr ⟨by k_mem, ?_⟩; walk_at "sub_all") | (intro p9 hp9; k_mem))
local macro_rules | `(tactic| walk_at "lt_all") => `(tactic| first | assumption | exact ktn_ltOf (by first | assumption | exact And.right (by assumption) | exact And.right (And.right (by assumption)) | exact And.right (And.right (And.right (by assumption)))))
local macro_rules | `(tactic| walk_at "getMethod ref") => `(tactic| (k_here; (with_reducible show wpAny _ _ (getMethod (Value.ref 36) _ _) _ _ _); k_dflt (refine' pat_method ?k1 ?k2 ?_; (case k1 => k_asm); (case k2 => k_asm); k_whole)))
local macro_rules | `(tactic| walk_at "call builtin:re.Pattern.match") => `(tactic| (k_here; k_dflt (refine' match_K true ?k1 ?k2 ?k3 ?k4 ?k5 ?_; (case k1 => k_asm); (case k2 => k_asm); (case k3 => k_asm); (case k4 => (have hz9 := (by assumption : _ ≤ (16 : Nat)); exact Nat.le_trans hz9 (by decide))); (case k5 => exact fun A E s Q h => (by assumption : RunIs true _) _ _ A E s Q h); k_whole; intro q' tu' h' a' b' F' N' l1 l2; (try k_lt l1); (try k_lt2 l2); (try k_sweep))))
local macro_rules | `(tactic| walk_at "truthy ref") => `(tactic| (k_here; k_dflt (refine' truthy_match ?k1 ?k2 ?_; (case k1 => k_asm); (case k2 => k_mem); k_whole)))
local macro_rules | `(tactic| walk_at "str_ok") => `(tactic| first | assumption | decide +kernel)
local macro_rules | `(tactic| walk_at "call ref") => `(tactic| (k_here; (with_reducible show wpAny _ _ (call (Value.ref 149) _) _ _ _); k_dflt (refine' weaken (c_three ?kB ?kF ?kX ?kN ?kT ?kf ?kk ?kx ?kd ?z1 ?z2 ?z3 ?_) ?h1 ?h2 ?h3 ?h4 ?h5; (case h3 => exact fun _ h => h); (case kB => k_asm); (case kF => k_asm); (case kX => k_asm); (case kN => k_asm); (case kT => k_asm); (case kf => exact rfl); (case kk => exact rfl); (case kx => k_mem); (case kd => k_mem); (case z1 => exact shaped3 (by walk_at "str_ok") (by walk_at "str_ok") (by walk_at "str_ok")); (case z2 => exact shaped3 (by walk_at "str_ok") (by walk_at "str_ok") (by walk_at "str_ok")); (case z3 => exact eqv3 _ _ _); (case h1 => exact rfl); (case h2 => exact Nat.le_of_ble_eq_true rfl); (case h4 => exact rfl); (case h5 => exact Nat.le_of_ble_eq_true rfl); k_whole; intro h' tk' F' N'; (try k_sweep))))
local macro_rules | `(tactic| walk_at "clo_end") => `(tactic| ((case h3 => exact fun _ h => h); (case kB => k_asm); (case kF => k_asm); (case kX => k_asm); (case kN => k_asm); (case kT => k_asm); (case kf => exact rfl); (case kk => exact rfl); (case kx => k_mem); (case kd => k_mem); (case h1 => exact rfl); (case h2 => exact Nat.le_of_ble_eq_true rfl); (case h4 => exact rfl); (case h5 => exact Nat.le_of_ble_eq_true rfl); k_whole; intro y' d' u1' u2' u3' h' tk' F' N' l1 l2; (try k_lt l1); (try k_lt2 l2); (try k_sweep)))
local macro_rules | `(tactic| walk_at "call ref") => `(tactic| (k_here; (with_reducible show wpAny _ _ (call (Value.ref 87) _) _ _ _); k_dflt (first
  | refine' weaken (clo_FUNC ?kB ?kF ?kX ?kN ?kT ?kf ?kk ?kx ?kd ?_) ?h1 ?h2 ?h3 ?h4 ?h5; walk_at "clo_end"
  | refine' weaken (clo_ARRAY ?kB ?kF ?kX ?kN ?kT ?kf ?kk ?kx ?kd ?_) ?h1 ?h2 ?h3 ?h4 ?h5; walk_at "clo_end"
  | refine' weaken (clo_PAREN ?kB ?kF ?kX ?kN ?kT ?kf ?kk ?kx ?kd ?_) ?h1 ?h2 ?h3 ?h4 ?h5; walk_at "clo_end")))
local macro_rules | `(tactic| walk_at "call ref") => `(tactic| (k_here; (with_reducible show wpAny _ _ (call (Value.ref _) [Value.str _ _] _) _ _ _); k_dflt (first
  | (refine' weaken (sub_G ?kB ?kF ?kX ?kN ?kT ?kf ?kk ?kq ?z1 ?z2 ?z3 ?z4 ?z5 ?z6 ?_) ?h1 ?h2 ?h3 ?h4 ?h5; (case h3 => exact fun _ h => h); (case kB => k_asm); (case kF => k_asm); (case kX => k_asm); (case kN => k_asm); (case kT => k_asm); (case kf => exact rfl); (case kk => exact rfl); (case h1 => exact rfl); (case h2 => exact Nat.le_of_ble_eq_true rfl); (case h4 => exact rfl); (case h5 => exact Nat.le_of_ble_eq_true rfl); (case kq => k_mem); (case z1 => decide); (case z2 => decide); (case z3 => exact rfl); (case z4 => decide); (case z5 => decide +kernel); (case z6 => with_reducible exact run_shut))
  | (refine' weaken (sub_C ?kB ?kF ?kX ?kN ?kT ?kf ?kk ?kq ?z1 ?z2 ?z3 ?z4 ?z5 ?z6 ?_) ?h1 ?h2 ?h3 ?h4 ?h5; (case h3 => exact fun _ h => h); (case kB => k_asm); (case kF => k_asm); (case kX => k_asm); (case kN => k_asm); (case kT => k_asm); (case kf => exact rfl); (case kk => exact rfl); (case h1 => exact rfl); (case h2 => exact Nat.le_of_ble_eq_true rfl); (case h4 => exact rfl); (case h5 => exact Nat.le_of_ble_eq_true rfl); (case kq => k_mem); (case z1 => decide); (case z2 => decide); (case z3 => exact rfl); (case z4 => decide); (case z5 => decide +kernel); (case z6 => decide +kernel))
  | (refine' weaken (sub_D ?kB ?kF ?kX ?kN ?kT ?kf ?kk ?kq ?z1 ?z2 ?z3 ?z4 ?z5 ?_) ?h1 ?h2 ?h3 ?h4 ?h5; (case h3 => exact fun _ h => h); (case kB => k_asm); (case kF => k_asm); (case kX => k_asm); (case kN => k_asm); (case kT => k_asm); (case kf => exact rfl); (case kk => exact rfl); (case h1 => exact rfl); (case h2 => exact Nat.le_of_ble_eq_true rfl); (case h4 => exact rfl); (case h5 => exact Nat.le_of_ble_eq_true rfl); (case kq => k_mem); (case z1 => decide); (case z2 => decide); (case z3 => exact rfl); (case z4 => decide); (case z5 => decide +kernel))
  | (refine' weaken (sub_E ?kB ?kF ?kX ?kN ?kT ?kf ?kk ?kq ?z1 ?z2 ?z3 ?z4 ?z5 ?z6 ?z7 ?_) ?h1 ?h2 ?h3 ?h4 ?h5; (case h3 => exact fun _ h => h); (case kB => k_asm); (case kF => k_asm); (case kX => k_asm); (case kN => k_asm); (case kT => k_asm); (case kf => exact rfl); (case kk => exact rfl); (case h1 => exact rfl); (case h2 => exact Nat.le_of_ble_eq_true rfl); (case h4 => exact rfl); (case h5 => exact Nat.le_of_ble_eq_true rfl); (case kq => k_mem); (case z1 => decide); (case z2 => decide); (case z3 => exact rfl); (case z4 => decide); (case z5 => decide +kernel); (case z6 => decide +kernel); (case z7 => decide +kernel))
  | (refine' weaken (sub_F ?kB ?kF ?kX ?kN ?kT ?kf ?kk ?kq ?z1 ?z2 ?z3 ?z4 ?z5 ?z6 ?_) ?h1 ?h2 ?h3 ?h4 ?h5; (case h3 => exact fun _ h => h); (case kB => k_asm); (case kF => k_asm); (case kX => k_asm); (case kN => k_asm); (case kT => k_asm); (case kf => exact rfl); (case kk => exact rfl); (case h1 => exact rfl); (case h2 => exact Nat.le_of_ble_eq_true rfl); (case h4 => exact rfl); (case h5 => exact Nat.le_of_ble_eq_true rfl); (case kq => k_mem); (case z1 => decide); (case z2 => decide); (case z3 => exact rfl); (case z4 => decide); (case z5 => decide +kernel); (case z6 => decide +kernel))
  | (refine' weaken (sub_names ?kB ?kF ?kX ?kN ?kT ?kf ?kk ?kq ?z1 ?z2 ?z3 ?z4 ?z5 ?z6 ?z7 ?_) ?h1 ?h2 ?h3 ?h4 ?h5; (case h3 => exact fun _ h => h); (case kB => k_asm); (case kF => k_asm); (case kX => k_asm); (case kN => k_asm); (case kT => k_asm); (case kf => exact rfl); (case kk => exact rfl); (case h1 => exact rfl); (case h2 => exact Nat.le_of_ble_eq_true rfl); (case h4 => exact rfl); (case h5 => exact Nat.le_of_ble_eq_true rfl); (case kq => k_mem); (case z1 => assumption); (case z2 => assumption); (case z3 => first | assumption | exact rfl); (case z4 => decide +kernel); (case z5 => assumption); (case z6 => assumption); (case z7 => assumption))
  | (refine' weaken (sub_namesT ?kB ?kF ?kX ?kN ?kT ?kf ?kk ?kq ?z1 ?z2 ?z3 ?z4 ?z5 ?z6 ?_) ?h1 ?h2 ?h3 ?h4 ?h5; (case h3 => exact fun _ h => h); (case kB => k_asm); (case kF => k_asm); (case kX => k_asm); (case kN => k_asm); (case kT => k_asm); (case kf => exact rfl); (case kk => exact rfl); (case h1 => exact rfl); (case h2 => exact Nat.le_of_ble_eq_true rfl); (case h4 => exact rfl); (case h5 => exact Nat.le_of_ble_eq_true rfl); (case kq => k_mem); (case z1 => assumption); (case z2 => assumption); (case z3 => first | assumption | exact rfl); (case z4 => decide +kernel); (case z5 => assumption); (case z6 => assumption))); k_whole; intro y' d' u2' u3' h' tk' F' N' l1 l2; (try k_lt l1); (try k_lt2 l2); (try k_sweep)))
local macro_rules | `(tactic| walk_at "call ref") => `(tactic| (k_here; (with_reducible show wpAny _ _ (call (Value.ref 163) _) _ _ _); k_dflt (first
  | (refine' c_opened_FUNC ?kXB ?kTB ?kB ?kF ?kX ?kN ?kT ?kk ?kx ?kd ?z1 ?_; (case kXB => k_asm); (case kTB => k_asm); (case kB => k_asm); (case kF => k_asm); (case kX => k_asm); (case kN => k_asm); (case kT => k_asm); (case kk => exact rfl); (case kx => k_mem); (case kd => k_mem); (case z1 => walk_at "str_ok"))
  | (refine' c_opened_PAREN ?kXB ?kTB ?kB ?kF ?kX ?kN ?kT ?kk ?kx ?kd ?z1 ?_; (case kXB => k_asm); (case kTB => k_asm); (case kB => k_asm); (case kF => k_asm); (case kX => k_asm); (case kN => k_asm); (case kT => k_asm); (case kk => exact rfl); (case kx => k_mem); (case kd => k_mem); (case z1 => walk_at "str_ok"))
  | (refine' c_opened_ARRAY ?kXB ?kTB ?kB ?kF ?kX ?kN ?kT ?kk ?kx ?kd ?z1 ?_; (case kXB => k_asm); (case kTB => k_asm); (case kB => k_asm); (case kF => k_asm); (case kX => k_asm); (case kN => k_asm); (case kT => k_asm); (case kk => exact rfl); (case kx => k_mem); (case kd => k_mem); (case z1 => walk_at "str_ok"))); k_whole; intro h' tk' F' N'; (try k_sweep)))
local macro_rules | `(tactic| walk_at "call ref") => `(tactic| (k_here; (with_reducible show wpAny _ _ (call (Value.ref 156) _) _ _ _); k_dflt (first
  | (refine' bar_2 ?kXB ?kTB ?kB ?kF ?kX ?kN ?kT ?kk ?z1 ?z2 ?z3 ?_; (case kXB => k_asm); (case kTB => k_asm); (case kB => k_asm); (case kF => k_asm); (case kX => k_asm); (case kN => k_asm); (case kT => k_asm); (case kk => exact rfl); (case z1 => k_mem); (case z2 => k_mem); (case z3 => decide +kernel))
  | (refine' bar_1 ?kXB ?kTB ?kB ?kF ?kX ?kN ?kT ?kk ?z1 ?_; (case kXB => k_asm); (case kTB => k_asm); (case kB => k_asm); (case kF => k_asm); (case kX => k_asm); (case kN => k_asm); (case kT => k_asm); (case kk => exact rfl); (case z1 => decide +kernel))
  | (refine' bar_F ?kXB ?kTB ?kB ?kF ?kX ?kN ?kT ?kk ?z1 ?z2 ?z3 ?z4 ?_; (case kXB => k_asm); (case kTB => k_asm); (case kB => k_asm); (case kF => k_asm); (case kX => k_asm); (case kN => k_asm); (case kT => k_asm); (case kk => exact rfl); (case z1 => assumption); (case z2 => assumption); (case z3 => assumption); (case z4 => decide +kernel))
  | (refine' bar_T ?kXB ?kTB ?kB ?kF ?kX ?kN ?kT ?kk ?z1 ?z2 ?z3 ?z4 ?z5 ?_; (case kXB => k_asm); (case kTB => k_asm); (case kB => k_asm); (case kF => k_asm); (case kX => k_asm); (case kN => k_asm); (case kT => k_asm); (case kk => exact rfl); (case z1 => decide); (case z2 => decide); (case z3 => exact rfl); (case z4 => decide +kernel); (case z5 => first | with_reducible exact run_open | with_reducible exact run_curl | with_reducible exact run_lruc))); k_whole; intro h' tk' F' N'; (try k_sweep)))
local macro_rules | `(tactic| walk_at "call builtin:str.format") => `(tactic| (k_here; (with_reducible show wpAny _ _ (call (Value.builtin "str.format") _) _ _ _); k_dflt (refine' fmt3 ?z1 ?z2 ?z3 ?_; (case z1 => first | assumption | decide); (case z2 => first | assumption | decide); (case z3 => first | assumption | decide); k_whole; intro _ _)))
set_option maxHeartbeats 80000000 in
theorem law_st7 {w : World} {mean : ExcName → Option Value} {mg mb : Str → Option Value}
   {a : Addr} {ccd : Value} {h₀ : Heap} {L : Addr} {m : Str → Option Value} {s : Shared}
    (B : Below callerA h₀ [] h₀) (F : Fr h₀ L s.heap m) (X : (Mine.hd.heap_39 w.params).In h₀) (N : News h₀ L s.heap []) (T : TopP mean mg mb h₀) :
      wpAny (model PySem.Challenge.pw_fh5003_01 w) (callerA.deeper (envOf (Str.ofString "law") lawScope L a ccd)) (exec (lawStmt 7) (envOf (Str.ofString "law") lawScope L a ccd)) (AnyP h₀ L s) (fun _ _ => False) s := by
  conv in lawStmt 7 => whnf
  k_steps
  all_goals first | exact AnyP.intro (by assumption) | exact (envOf (Str.ofString "law") lawScope L a ccd)
end

section -- L8
local macro_rules | `(tactic| walk_at "enter_def") => `(tactic| (k_dflt (refine' code_def ?k1 ?k2 ?k3 ?k4 ?k5 ?kA ?kF ?kK ?k6 ?k7 ?k8 ?k9 ?kB ?_ ?c2 ?c3 ?c4 ?c5; (case kA => exact rfl); (case kF => assumption); (case kK => assumption); (case k1 => k_asm); (case k2 => k_asm); (case k3 => k_asm); (case k4 => k_asm); (case k5 => k_asm); (case k6 => k_is); (case k7 => k_is); (case k8 => exact Nat.le_of_ble_eq_true rfl); (case k9 => first | exact BindsTo.of_eq rfl | exact binds_K (by k_in) rfl (by k_is) rfl rfl rfl); (case c5 => decide); (case kB => exact locs rfl); (case c2 => exact rfl); (case c3 => exact rfl); (case c4 => exact rfl); k_whole; intro g' L' h' FG' F' N' B' X' T'; (try dsimp only); (try k_fold))))
local macro_rules | `(tactic| walk_at "getAttr ref") => `(tactic| (k_here; k_dflt (refine' get_clsS ?k1 ?k2 ?k3 ?k4 ?k5 ?k6 ?k7 ?k8 ?k9 ?k10 ?_; (case k1 => k_asm); (case k2 => k_asm); (case k3 => k_inst); (case k4 => k_is); (case k5 => k_is); (case k6 => k_is); (case k7 => k_is); (case k8 => k_is); (case k9 => k_handed); (case k10 => decide +kernel); k_whole)))
local macro_rules | `(tactic| walk_at "getAttr ref") => `(tactic| (k_here; ((first | (with_reducible show wpAny _ _ (getAttr _ (PySem.Str.ofString "type") _) _ _ _) | (with_reducible show wpAny _ _ (getAttr _ (PySem.Str.ofString "subtype") _) _ _ _) | (with_reducible show wpAny _ _ (getAttr _ (PySem.Str.ofString "value") _) _ _ _))); k_dflt (refine' get_slot ?k1 ?k2 ?k3 ?k4 ?k5 ?k6 ?k7 ?k8 ?k9 ?k10 ?k11 ?_; (case k1 => k_asm); (case k2 => k_asm); (case k3 => k_inst); (case k4 => k_is); (case k5 => k_is); (case k6 => k_is); (case k7 => k_is); (case k8 => k_is); (case k9 => k_is); (case k10 => k_slotget); (case k11 => k_handed); k_whole)))
local macro_rules | `(tactic| walk_at "getAttr ref") => `(tactic| (k_here; (with_reducible show wpAny _ _ (getAttr (Value.ref 101) _ _) _ _ _); k_dflt (refine' cls_val ?k1 ?k2 ?k3 ?k4 ?k5 ?k6 ?_; (case k1 => k_asm); (case k2 => k_asm); (case k3 => k_is); (case k4 => k_is); (case k5 => k_is); (case k6 => k_handed); k_whole)))
local macro_rules | `(tactic| walk_at "getMethod ref") => `(tactic| (k_here; k_dflt (refine' method_cmS ?k1 ?k2 ?k3 ?k4 ?k5 ?k6 ?k7 ?k8 ?k9 ?k10 ?k11 ?k12 ?k13 ?_; (case k1 => k_asm); (case k2 => k_asm); (case k3 => k_asm); (case k4 => k_inst); (case k5 => k_is); (case k6 => k_is); (case k7 => k_is); (case k8 => k_is); (case k9 => k_is); (case k10 => k_is); (case k11 => k_is); (case k12 => decide +kernel); (case k13 => k_is); k_whole; intro q' h' F' N' l1; (try k_lt l1); (try k_sweep))))
local macro_rules | `(tactic| walk_at "own_mem") => `(tactic| first | with_reducible exact List.mem_cons_self | (with_reducible refine List.mem_cons_of_mem _ ?_; walk_at "own_mem") | with_reducible assumption)
local macro_rules | `(tactic| k_mem) => `(tactic| walk_at "own_mem")
local macro_rules | `(tactic| walk_at "callWith ref") => `(tactic| (k_here; k_dflt (refine' callWith_MKW ?k1 ?k2 ?k3 ?k4 ?k5 ?_; (case k1 => k_asm); (case k2 => k_asm); (case k3 => k_mem); (case k4 => k_is); (case k5 => exact rfl); k_whole)))
local macro_rules | `(tactic| k_all) => `(tactic| (intro p9 hp9; refine neN ?_; first | (have q9 := ktn_ltOf (by first | assumption | exact And.right (by assumption) | exact And.right (And.right (by assumption)) | exact And.right (And.right (And.right (by assumption)))) p9 hp9; (try dsimp only at q9 ⊢); omega) | (have q9 := (by assumption : ∀ p ∈ _, @LT.lt Nat _ p.1 _) p9 hp9; (try dsimp only at q9 ⊢); omega)))
local macro_rules | `(tactic| walk_at "call ref") => `(tactic| (k_here; (with_reducible show wpAny _ _ (call (Value.ref 101) [_, _, _]) _ _ _); k_dflt (refine' weaken (c_new ?kB ?kF ?kX ?kN ?kT ?kf ?kk ?_) ?h1 ?h2 ?h3 ?h4 ?h5; (case h3 => exact fun _ h => h); (case kB => k_asm); (case kF => k_asm); (case kX => k_asm); (case kN => k_asm); (case kT => k_asm); (case kf => exact rfl); (case kk => exact rfl); (case h1 => exact rfl); (case h2 => exact Nat.le_of_ble_eq_true rfl); (case h4 => exact rfl); (case h5 => exact Nat.le_of_ble_eq_true rfl); k_whole; intro y' d' h' tk' F' N' l1 l2; (try k_lt l1); (try k_lt2 l2); (try k_sweep))))
local macro_rules | `(tactic| walk_at "subscriptTail Name UnaryOp str int") => `(tactic| (refine item_strE (by assumption) (by decide) (by omega) (by omega) ?_))
local macro_rules | `(tactic| walk_at "compareOp In str str") => `(tactic| (refine in_strE (by assumption) ?_; (try dsimp only [Bool.not_true, Bool.not_false])))
local macro_rules | `(tactic| walk_at "sub_all") => `(tactic| first | (refine List.forall_mem_cons.mpr ⟨by k_mem, ?_⟩; walk_at "sub_all") | (intro p9 hp9; k_mem))
local macro_rules | `(tactic| walk_at "lt_all") => `(tactic| first | assumption | exact ktn_ltOf (by first | assumption | exact And.right (by assumption) | exact And.right (And.right (by assumption)) | exact And.right (And.right (And.right (by assumption)))))
local macro_rules | `(tactic| walk_at "getMethod ref") => `(tactic| (k_here; (with_reducible show wpAny _ _ (getMethod (Value.ref 36) _ _) _ _ _); k_dflt (refine' pat_method ?k1 ?k2 ?_; (case k1 => k_asm); (case k2 => k_asm); k_whole)))
local macro_rules | `(tactic| walk_at "call builtin:re.Pattern.match") => `(tactic| (k_here; k_dflt (refine' match_K true ?k1 ?k2 ?k3 ?k4 ?k5 ?_; (case k1 => k_asm); (case k2 => k_asm); (case k3 => k_asm); (case k4 => (have hz9 := (by assumption : _ ≤ (16 : Nat)); exact Nat.le_trans hz9 (by decide))); (case k5 => exact fun A E s Q h => (by assumption : RunIs true _) _ _ A E s Q h); k_whole; intro q' tu' h' a' b' F' N' l1 l2; (try k_lt l1); (try k_lt2 l2); (try k_sweep))))
local macro_rules | `(tactic| walk_at "truthy ref") => `(tactic| (k_here; k_dflt (refine' truthy_match ?k1 ?k2 ?_; (case k1 => k_asm); (case k2 => k_mem); k_whole)))
local macro_rules | `(tactic| walk_at "str_ok") => `(tactic| first | assumption | decide +kernel)
local macro_rules | `(tactic| walk_at "call ref") => `(tactic| (k_here; (with_reducible show wpAny _ _ (call (Value.ref 149) _) _ _ _); k_dflt (refine' weaken (c_three ?kB ?kF ?kX ?kN ?kT ?kf ?kk ?kx ?kd ?z1 ?z2 ?z3 ?_) ?h1 ?h2 ?h3 ?h4 ?h5; (case h3 => exact fun _ h => h); (case kB => k_asm); (case kF => k_asm); (case kX => k_asm); (case kN => k_asm); (case kT => k_asm); (case kf => exact rfl); (case kk => exact rfl); (case kx => k_mem); (case kd => k_mem); (case z1 => exact shaped3 (by walk_at "str_ok") (by walk_at "str_ok") (by walk_at "str_ok")); (case z2 => exact shaped3 (by walk_at "str_ok") (by walk_at "str_ok") (by walk_at "str_ok")); (case z3 => exact eqv3 _ _ _); (case h1 => exact rfl); (case h2 => exact Nat.le_of_ble_eq_true rfl); (case h4 => exact rfl); (case h5 => exact Nat.le_of_ble_eq_true rfl); k_whole; intro h' tk' F' N'; (try k_sweep))))
local macro_rules | `(tactic| walk_at "clo_end") => `(tactic| ((case h3 => exact fun _ h => h); (case kB => k_asm); (case kF => k_asm); (case kX => k_asm); (case kN => k_asm); (case kT => k_asm); (case kf => exact rfl); (case kk => exact rfl); (case kx => k_mem); (case kd => k_mem); (case h1 => exact rfl); (case h2 => exact Nat.le_of_ble_eq_true rfl); (case h4 => exact rfl); (case h5 => exact Nat.le_of_ble_eq_true rfl); k_whole; intro y' d' u1' u2' u3' h' tk' F' N' l1 l2; (try k_lt l1); (try k_lt2 l2); (try k_sweep)))
local macro_rules | `(tactic| walk_at "call ref") => `(tactic| (k_here; (with_reducible show wpAny _ _ (call (Value.ref 87) _) _ _ _); k_dflt (first
  | refine' weaken (clo_FUNC ?kB ?kF ?kX ?kN ?kT ?kf ?kk ?kx ?kd ?_) ?h1 ?h2 ?h3 ?h4 ?h5; walk_at "clo_end"
  | refine' weaken (clo_ARRAY ?kB ?kF ?kX ?kN ?kT ?kf ?kk ?kx ?kd ?_) ?h1 ?h2 ?h3 ?h4 ?h5; walk_at "clo_end"
  | refine' weaken (clo_PAREN ?kB ?kF ?kX ?kN ?kT ?kf ?kk ?kx ?kd ?_) ?h1 ?h2 ?h3 ?h4 ?h5; walk_at "clo_end")))
local macro_rules | `(tactic| walk_at "call ref") => `(tactic| (k_here; (with_reducible show wpAny _ _ (call (Value.ref _) [Value.str _ _] _) _ _ _); k_dflt (first
  | (refine' weaken (sub_G ?kB ?kF ?kX ?kN ?kT ?kf ?kk ?kq ?z1 ?z2 ?z3 ?z4 ?z5 ?z6 ?_) ?h1 ?h2 ?h3 ?h4 ?h5; (case h3 => exact fun _ h => h); (case kB => k_asm); (case kF => k_asm); (case kX => k_asm); (case kN => k_asm); (case kT => k_asm); (case kf => exact rfl); (case kk => exact rfl); (case h1 => exact rfl); (case h2 => exact Nat.le_of_ble_eq_true rfl); (case h4 => exact rfl); (case h5 => exact Nat.le_of_ble_eq_true rfl); (case kq => k_mem); (case z1 => decide); (case z2 => decide); (case z3 => exact rfl); (case z4 => decide); (case z5 => decide +kernel); (case z6 => with_reducible exact run_shut))
  | (refine' weaken (sub_C ?kB ?kF ?kX ?kN ?kT ?kf ?kk ?kq ?z1 ?z2 ?z3 ?z4 ?z5 ?z6 ?_) ?h1 ?h2 ?h3 ?h4 ?h5; (case h3 => exact fun _ h => h); (case kB => k_asm); (case kF => k_asm); (case kX => k_asm); (case kN => k_asm); (case kT => k_asm); (case kf => exact rfl); (case kk => exact rfl); (case h1 => exact rfl); (case h2 => exact Nat.le_of_ble_eq_true rfl); (case h4 => exact rfl); (case h5 => exact Nat.le_of_ble_eq_true rfl); (case kq => k_mem); (case z1 => decide); (case z2 => decide); (case z3 => exact rfl); (case z4 => decide); (case z5 => decide +kernel); (case z6 => decide +kernel))
  | (refine' weaken (sub_D ?kB ?kF ?kX ?kN ?kT ?kf ?kk ?kq ?z1 ?z2 ?z3 ?z4 ?z5 ?_) ?h1 ?h2 ?h3 ?h4 ?h5; (case h3 => exact fun _ h => h); (case kB => k_asm); (case kF => k_asm); (case kX => k_asm); (case kN => k_asm); (case kT => k_asm); (case kf => exact rfl); (case kk => exact rfl); (case h1 => exact rfl); (case h2 => exact Nat.le_of_ble_eq_true rfl); (case h4 => exact rfl); (case h5 => exact Nat.le_of_ble_eq_true rfl); (case kq => k_mem); (case z1 => decide); (case z2 => decide); (case z3 => exact rfl); (case z4 => decide); (case z5 => decide +kernel))
  | (refine' weaken (sub_E ?kB ?kF ?kX ?kN ?kT ?kf ?kk ?kq ?z1 ?z2 ?z3 ?z4 ?z5 ?z6 ?z7 ?_) ?h1 ?h2 ?h3 ?h4 ?h5; (case h3 => exact fun _ h => h); (case kB => k_asm); (case kF => k_asm); (case kX => k_asm); (case kN => k_asm); (case kT => k_asm); (case kf => exact rfl); (case kk => exact rfl); (case h1 => exact rfl); (case h2 => exact Nat.le_of_ble_eq_true rfl); (case h4 => exact rfl); (case h5 => exact Nat.le_of_ble_eq_true rfl); (case kq => k_mem); (case z1 => decide); (case z2 => decide); (case z3 => exact rfl); (case z4 => decide); (case z5 => decide +kernel); (case z6 => decide +kernel); (case z7 => decide +kernel))
  | (refine' weaken (sub_F ?kB ?kF ?kX ?kN ?kT ?kf ?kk ?kq ?z1 ?z2 ?z3 ?z4 ?z5 ?z6 ?_) ?h1 ?h2 ?h3 ?h4 ?h5; (case h3 => exact fun _ h => h); (case kB => k_asm); (case kF => k_asm); (case kX => k_asm); (case kN => k_asm); (case kT => k_asm); (case kf => exact rfl); (case kk => exact rfl); (case h1 => exact rfl); (case h2 => exact Nat.le_of_ble_eq_true rfl); (case h4 => exact rfl); (case h5 => exact Nat.le_of_ble_eq_true rfl); (case kq => k_mem); (case z1 => decide); (case z2 => decide); (case z3 => exact rfl); (case z4 => decide); (case z5 => decide +kernel); (case z6 => decide +kernel))
  | (refine' weaken (sub_names ?kB ?kF ?kX ?kN ?kT ?kf ?kk ?kq ?z1 ?z2 ?z3 ?z4 ?z5 ?z6 ?z7 ?_) ?h1 ?h2 ?h3 ?h4 ?h5; (case h3 => exact fun _ h => h); (case kB => k_asm); (case kF => k_asm); (case kX => k_asm); (case kN => k_asm); (case kT => k_asm); (case kf => exact rfl); (case kk => exact rfl); (case h1 => exact rfl); (case h2 => exact Nat.le_of_ble_eq_true rfl); (case h4 => exact rfl); (case h5 => exact Nat.le_of_ble_eq_true rfl); (case kq => k_mem); (case z1 => assumption); (case z2 => assumption); (case z3 => first | assumption | exact rfl); (case z4 => decide +kernel); (case z5 => assumption); (case z6 => assumption); (case z7 => assumption))
  | (refine' weaken (sub_namesT ?kB ?kF ?kX ?kN ?kT ?kf ?kk ?kq ?z1 ?z2 ?z3 ?z4 ?z5 ?z6 ?_) ?h1 ?h2 ?h3 ?h4 ?h5; (case h3 => exact fun _ h => h); (case kB => k_asm); (case kF => k_asm); (case kX => k_asm); (case kN => k_asm); (case kT => k_asm); (case kf => exact rfl); (case kk => exact rfl); (case h1 => exact rfl); (case h2 => exact Nat.le_of_ble_eq_true rfl); (case h4 => exact rfl); (case h5 => exact Nat.le_of_ble_eq_true rfl); (case kq => k_mem); (case z1 => assumption); (case z2 => assumption); (case z3 => first | assumption | exact rfl); (case z4 => decide +kernel); (case z5 => assumption); (case z6 => assumption))); k_whole; intro y' d' u2' u3' h' tk' F' N' l1 l2; (try k_lt l1); (try k_lt2 l2); (try k_sweep)))
local macro_rules | `(tactic| walk_at "call ref") => `(tactic| (k_here; (with_reducible show wpAny _ _ (call (Value.ref 163) _) _ _ _); k_dflt (first
  | (refine' c_opened_FUNC ?kXB ?kTB ?kB ?kF ?kX ?kN ?kT ?kk ?kx ?kd ?z1 ?_; (case kXB => k_asm); (case kTB => k_asm); (case kB => k_asm); (case kF => k_asm); (case kX => k_asm); (case kN => k_asm); (case kT => k_asm); (case kk => exact rfl); (case kx => k_mem); (case kd => k_mem); (case z1 => walk_at "str_ok"))
  | (refine' c_opened_PAREN ?kXB ?kTB ?kB ?kF ?kX ?kN ?kT ?kk ?kx ?kd ?z1 ?_; (case kXB => k_asm); (case kTB => k_asm); (case kB => k_asm); (case kF => k_asm); (case kX => k_asm); (case kN => k_asm); (case kT => k_asm); (case kk => exact rfl); (case kx => k_mem); (case kd => k_mem); (case z1 => walk_at "str_ok"))
  | (refine' c_opened_ARRAY ?kXB ?kTB ?kB ?kF ?kX ?kN ?kT ?kk ?kx ?kd ?z1 ?_; (case kXB => k_asm); (case kTB => k_asm); (case kB => k_asm); (case kF => k_asm); (case kX => k_asm); (case kN => k_asm); (case kT => k_asm); (case kk => exact rfl); (case kx => k_mem); (case kd => k_mem); (case z1 => walk_at "str_ok"))); k_whole; intro h' tk' F' N'; (try k_sweep)))
local macro_rules | `(tactic| walk_at "call ref") => `(tactic| (k_here; (with_reducible show wpAny _ _ (call (Value.ref 156) _) _ _ _); k_dflt (first
  | (refine' bar_2 ?kXB ?kTB ?kB ?kF ?kX ?kN ?kT ?kk ?z1 ?z2 ?z3 ?_; (case kXB => k_asm); (case kTB => k_asm); (case kB => k_asm); (case kF => k_asm); (case kX => k_asm); (case kN => k_asm); (case kT => k_asm); (case kk => exact rfl); (case z1 => k_mem); (case z2 => k_mem); (case z3 => decide +kernel))
  | (refine' bar_1 ?kXB ?kTB ?kB ?kF ?kX ?kN ?kT ?kk ?z1 ?_; (case kXB => k_asm); (case kTB => k_asm); (case kB => k_asm); (case kF => k_asm); (case kX => k_asm); (case kN => k_asm); (case kT => k_asm); (case kk => exact rfl); (case z1 => decide +kernel))
  | (refine' bar_F ?kXB ?kTB ?kB ?kF ?kX ?kN ?kT ?kk ?z1 ?z2 ?z3 ?z4 ?_; (case kXB => k_asm); (case kTB => k_asm); (case kB => k_asm); (case kF => k_asm); (case kX => k_asm); (case kN => k_asm); (case kT => k_asm); (case kk => exact rfl); (case z1 => assumption); (case z2 => assumption); (case z3 => assumption); (case z4 => decide +kernel))
  | (refine' bar_T ?kXB ?kTB ?kB ?kF ?kX ?kN ?kT ?kk ?z1 ?z2 ?z3 ?z4 ?z5 ?_; (case kXB => k_asm); (case kTB => k_asm); (case kB => k_asm); (case kF => k_asm); (case kX => k_asm); (case kN => k_asm); (case kT => k_asm); (case kk => exact rfl); (case z1 => decide); (case z2 => decide); (case z3 => exact rfl); (case z4 => decide +kernel); (case z5 => first | with_reducible exact run_open | with_reducible exact run_curl | with_reducible exact run_lruc))); k_whole; intro h' tk' F' N'; (try k_sweep)))
local macro_rules | `(tactic| walk_at "call builtin:str.format") => `(tactic| (k_here; (with_reducible show wpAny _ _ (call (Value.builtin "str.format") _) _ _ _); k_dflt (refine' fmt3 ?z1 ?z2 ?z3 ?_; (case z1 => first | assumption | decide); (case z2 => first | assumption | decide); (case z3 => first | assumption | decide); k_whole; intro _ _)))
set_option maxHeartbeats 80000000 in
theorem law_st8 {w : World} {mean : ExcName → Option Value} {mg mb : Str → Option Value}
   {a : Addr} {ccd : Value} {h₀ : Heap} {L : Addr} {m : Str → Option Value} {s : Shared}
    (B : Below callerA h₀ [] h₀) (F : Fr h₀ L s.heap m) (X : (Mine.hd.heap_39 w.params).In h₀) (N : News h₀ L s.heap []) (T : TopP mean mg mb h₀) :
      wpAny (model PySem.Challenge.pw_fh5003_01 w) (callerA.deeper (envOf (Str.ofString "law") lawScope L a ccd)) (exec (lawStmt 8) (envOf (Str.ofString "law") lawScope L a ccd)) (AnyP h₀ L s) (fun _ _ => False) s := by
  conv in lawStmt 8 => whnf
  k_steps
  all_goals first | exact AnyP.intro (by assumption) | exact (envOf (Str.ofString "law") lawScope L a ccd)
end

section -- L9
local macro_rules | `(tactic| walk_at "enter_def") => `(tactic| (k_dflt (refine' code_def ?k1 ?k2 ?k3 ?k4 ?k5 ?kA ?kF ?kK ?k6 ?k7 ?k8 ?k9 ?kB ?_ ?c2 ?c3 ?c4 ?c5; (case kA => exact rfl); (case kF => assumption); (case kK => assumption); (case k1 => k_asm); (case k2 => k_asm); (case k3 => k_asm); (case k4 => k_asm); (case k5 => k_asm); (case k6 => k_is); (case k7 => k_is); (case k8 => exact Nat.le_of_ble_eq_true rfl); (case k9 => first | exact BindsTo.of_eq rfl | exact binds_K (by k_in) rfl (by k_is) rfl rfl rfl); (case c5 => decide); (case kB => exact locs rfl); (case c2 => exact rfl); (case c3 => exact rfl); (case c4 => exact rfl); k_whole; intro g' L' h' FG' F' N' B' X' T'; (try dsimp only); (try k_fold))))
local macro_rules | `(tactic| walk_at "getAttr ref") => `(tactic| (k_here; k_dflt (refine' get_clsS ?k1 ?k2 ?k3 ?k4 ?k5 ?k6 ?k7 ?k8 ?k9 ?k10 ?_; (case k1 => k_asm); (case k2 => k_asm); (case k3 => k_inst); (case k4 => k_is); (case k5 => k_is); (case k6 => k_is); (case k7 => k_is); (case k8 => k_is); (case k9 => k_handed); (case k10 => decide +kernel); k_whole)))
local macro_rules | `(tactic| walk_at "getAttr ref") => `(tactic| (k_here; ((first | (with_reducible show wpAny _ _ (getAttr _ (PySem.Str.ofString "type") _) _ _ _) | (with_reducible show wpAny _ _ (getAttr _ (PySem.Str.ofString "subtype") _) _ _ _) | (with_reducible show wpAny _ _ (getAttr _ (PySem.Str.ofString "value") _) _ _ _))); k_dflt (refine' get_slot ?k1 ?k2 ?k3 ?k4 ?k5 ?k6 ?k7 ?k8 ?k9 ?k10 ?k11 ?_; (case k1 => k_asm); (case k2 => k_asm); (case k3 => k_inst); (case k4 => k_is); (case k5 => k_is); (case k6 => k_is); (case k7 => k_is); (case k8 => k_is); (case k9 => k_is); (case k10 => k_slotget); (case k11 => k_handed); k_whole)))
local macro_rules | `(tactic| walk_at "getAttr ref") => `(tactic| (k_here; (with_reducible show wpAny _ _ (getAttr (Value.ref 101) _ _) _ _ _); k_dflt (refine' cls_val ?k1 ?k2 ?k3 ?k4 ?k5 ?k6 ?_; (case k1 => k_asm); (case k2 => k_asm); (case k3 => k_is); (case k4 => k_is); (case k5 => k_is); (case k6 => k_handed); k_whole)))
local macro_rules | `(tactic| walk_at "getMethod ref") => `(tactic| (k_here; k_dflt (refine' method_cmS ?k1 ?k2 ?k3 ?k4 ?k5 ?k6 ?k7 ?k8 ?k9 ?k10 ?k11 ?k12 ?k13 ?_; (case k1 => k_asm); (case k2 => k_asm); (case k3 => k_asm); (case k4 => k_inst); (case k5 => k_is); (case k6 => k_is); (case k7 => k_is); (case k8 => k_is); (case k9 => k_is); (case k10 => k_is); (case k11 => k_is); (case k12 => decide +kernel); (case k13 => k_is); k_whole; intro q' h' F' N' l1; (try k_lt l1); (try k_sweep))))
local macro_rules | `(tactic| walk_at "own_mem") => `(tactic| first | with_reducible exact List.mem_cons_self | (with_reducible refine List.mem_cons_of_mem _ ?_; walk_at "own_mem") | with_reducible assumption)
local macro_rules | `(tactic| k_mem) => `(tactic| walk_at "own_mem")
local macro_rules | `(tactic| walk_at "callWith ref") => `(tactic| (k_here; k_dflt (refine' callWith_MKW ?k1 ?k2 ?k3 ?k4 ?k5 ?_; (case k1 => k_asm); (case k2 => k_asm); (case k3 => k_mem); (case k4 => k_is); (case k5 => exact rfl); k_whole)))
local macro_rules | `(tactic| k_all) => `(tactic| (intro p9 hp9; refine neN ?_; first | (have q9 := ktn_ltOf (by first | assumption | exact And.right (by assumption) | exact And.right (And.right (by assumption)) | exact And.right (And.right (And.right (by assumption)))) p9 hp9; (try dsimp only at q9 ⊢); omega) | (have q9 := (by assumption : ∀ p ∈ _, @LT.lt Nat _ p.1 _) p9 hp9; (try dsimp only at q9 ⊢); omega)))
local macro_rules | `(tactic| walk_at "call ref") => `(tactic| (k_here; (with_reducible show wpAny _ _ (call (Value.ref 101) [_, _, _]) _ _ _); k_dflt (refine' weaken (c_new ?kB ?kF ?kX ?kN ?kT ?kf ?kk ?_) ?h1 ?h2 ?h3 ?h4 ?h5; (case h3 => exact fun _ h => h); (case kB => k_asm); (case kF => k_asm); (case kX => k_asm); (case kN => k_asm); (case kT => k_asm); (case kf => exact rfl); (case kk => exact rfl); (case h1 => exact rfl); (case h2 => exact Nat.le_of_ble_eq_true rfl); (case h4 => exact rfl); (case h5 => exact Nat.le_of_ble_eq_true rfl); k_whole; intro y' d' h' tk' F' N' l1 l2; (try k_lt l1); (try k_lt2 l2); (try k_sweep))))
local macro_rules | `(tactic| walk_at "subscriptTail Name UnaryOp str int") => `(tactic| (refine item_strE (by assumption) (by decide) (by omega) (by omega) ?_))
local macro_rules | `(tactic| walk_at "compareOp In str str") => `(tactic| (refine in_strE (by assumption) ?_; (try dsimp only [Bool.not_true, Bool.not_false])))
local macro_rules | `(tactic| walk_at "sub_all") => `(tactic| first | (refine List.forall_mem_cons.mpr ⟨by k_mem, ?_⟩; walk_at "sub_all") | (intro p9 hp9; k_mem))
local macro_rules | `(tactic| walk_at "lt_all") => `(tactic| first | assumption | exact ktn_ltOf (by first | assumption | exact And.right (by assumption) | exact And.right (And.right (by assumption)) | exact And.right (And.right (And.right (by assumption)))))
local macro_rules | `(tactic| walk_at "getMethod ref") => `(tactic| (k_here; (with_reducible show wpAny _ _ (getMethod (Value.ref 36) _ _) _ _ _); k_dflt (refine' pat_method ?k1 ?k2 ?_; (case k1 => k_asm); (case k2 => k_asm); k_whole)))
local macro_rules | `(tactic| walk_at "call builtin:re.Pattern.match") => `(tactic| (k_here; k_dflt (refine' match_K true ?k1 ?k2 ?k3 ?k4 ?k5 ?_; (case k1 => k_asm); (case k2 => k_asm); (case k3 => k_asm); (case k4 => (have hz9 := (by assumption : _ ≤ (16 : Nat)); exact Nat.le_trans hz9 (by decide))); (case k5 => exact fun A E s Q h => (by assumption : RunIs true _) _ _ A E s Q h); k_whole; intro q' tu' h' a' b' F' N' l1 l2; (try k_lt l1); (try k_lt2 l2); (try k_sweep))))
local macro_rules | `(tactic| walk_at "truthy ref") => `(tactic| (k_here; k_dflt (refine' truthy_match ?k1 ?k2 ?_; (case k1 => k_asm); (case k2 => k_mem); k_whole)))
local macro_rules | `(tactic| walk_at "str_ok") => `(tactic| first | assumption | decide +kernel)
local macro_rules | `(tactic| walk_at "call ref") => `(tactic| (k_here; (with_reducible show wpAny _ _ (call (Value.ref 149) _) _ _ _); k_dflt (refine' weaken (c_three ?kB ?kF ?kX ?kN ?kT ?kf ?kk ?kx ?kd ?z1 ?z2 ?z3 ?_) ?h1 ?h2 ?h3 ?h4 ?h5; (case h3 => exact fun _ h => h); (case kB => k_asm); (case kF => k_asm); (case kX => k_asm); (case kN => k_asm); (case kT => k_asm); (case kf => exact rfl); (case kk => exact rfl); (case kx => k_mem); (case kd => k_mem); (case z1 => exact shaped3 (by walk_at "str_ok") (by walk_at "str_ok") (by walk_at "str_ok")); (case z2 => exact shaped3 (by walk_at "str_ok") (by walk_at "str_ok") (by walk_at "str_ok")); (case z3 => exact eqv3 _ _ _); (case h1 => exact rfl); (case h2 => exact Nat.le_of_ble_eq_true rfl); (case h4 => exact rfl); (case h5 => exact Nat.le_of_ble_eq_true rfl); k_whole; intro h' tk' F' N'; (try k_sweep))))
local macro_rules | `(tactic| walk_at "clo_end") => `(tactic| ((case h3 => exact fun _ h => h); (case kB => k_asm); (case kF => k_asm); (case kX => k_asm); (case kN => k_asm); (case kT => k_asm); (case kf => exact rfl); (case kk => exact rfl); (case kx => k_mem); (case kd => k_mem); (case h1 => exact rfl); (case h2 => exact Nat.le_of_ble_eq_true rfl); (case h4 => exact rfl); (case h5 => exact Nat.le_of_ble_eq_true rfl); k_whole; intro y' d' u1' u2' u3' h' tk' F' N' l1 l2; (try k_lt l1); (try k_lt2 l2); (try k_sweep)))
local macro_rules | `(tactic| walk_at "call ref") => `(tactic| (k_here; (with_reducible show wpAny _ _ (call (Value.ref 87) _) _ _ _); k_dflt (first
  | refine' weaken (clo_FUNC ?kB ?kF ?kX ?kN ?kT ?kf ?kk ?kx ?kd ?_) ?h1 ?h2 ?h3 ?h4 ?h5; walk_at "clo_end"
  | refine' weaken (clo_ARRAY ?kB ?kF ?kX ?kN ?kT ?kf ?kk ?kx ?kd ?_) ?h1 ?h2 ?h3 ?h4 ?h5; walk_at "clo_end"
  | refine' weaken (clo_PAREN ?kB ?kF ?kX ?kN ?kT ?kf ?kk ?kx ?kd ?_) ?h1 ?h2 ?h3 ?h4 ?h5; walk_at "clo_end")))
local macro_rules | `(tactic| walk_at "call ref") => `(tactic| (k_here; (with_reducible show wpAny _ _ (call (Value.ref _) [Value.str _ _] _) _ _ _); k_dflt (first
  | (refine' weaken (sub_G ?kB ?kF ?kX ?kN ?kT ?kf ?kk ?kq ?z1 ?z2 ?z3 ?z4 ?z5 ?z6 ?_) ?h1 ?h2 ?h3 ?h4 ?h5; (case h3 => exact fun _ h => h); (case kB => k_asm); (case kF => k_asm); (case kX => k_asm); (case kN => k_asm); (case kT => k_asm); (case kf => exact rfl); (case kk => exact rfl); (case h1 => exact rfl); (case h2 => exact Nat.le_of_ble_eq_true rfl); (case h4 => exact rfl); (case h5 => exact Nat.le_of_ble_eq_true rfl); (case kq => k_mem); (case z1 => decide); (case z2 => decide); (case z3 => exact rfl); (case z4 => decide); (case z5 => decide +kernel); (case z6 => with_reducible exact run_shut))
  | (refine' weaken (sub_C ?kB ?kF ?kX ?kN ?kT ?kf ?kk ?kq ?z1 ?z2 ?z3 ?z4 ?z5 ?z6 ?_) ?h1 ?h2 ?h3 ?h4 ?h5; (case h3 => exact fun _ h => h); (case kB => k_asm); (case kF => k_asm); (case kX => k_asm); (case kN => k_asm); (case kT => k_asm); (case kf => exact rfl); (case kk => exact rfl); (case h1 => exact rfl); (case h2 => exact Nat.le_of_ble_eq_true rfl); (case h4 => exact rfl); (case h5 => exact Nat.le_of_ble_eq_true rfl); (case kq => k_mem); (case z1 => decide); (case z2 => decide); (case z3 => exact rfl); (case z4 => decide); (case z5 => decide +kernel); (case z6 => decide +kernel))
  | (refine' weaken (sub_D ?kB ?kF ?kX ?kN ?kT ?kf ?kk ?kq ?z1 ?z2 ?z3 ?z4 ?z5 ?_) ?h1 ?h2 ?h3 ?h4 ?h5; (case h3 => exact fun _ h => h); (case kB => k_asm); (case kF => k_asm); (case kX => k_asm); (case kN => k_asm); (case kT => k_asm); (case kf => exact rfl); (case kk => exact rfl); (case h1 => exact rfl); (case h2 => exact Nat.le_of_ble_eq_true rfl); (case h4 => exact rfl); (case h5 => exact Nat.le_of_ble_eq_true rfl); (case kq => k_mem); (case z1 => decide); (case z2 => decide); (case z3 => exact rfl); (case z4 => decide); (case z5 => decide +kernel))
  | (refine' weaken (sub_E ?kB ?kF ?kX ?kN ?kT ?kf ?kk ?kq ?z1 ?z2 ?z3 ?z4 ?z5 ?z6 ?z7 ?_) ?h1 ?h2 ?h3 ?h4 ?h5; (case h3 => exact fun _ h => h); (case kB => k_asm); (case kF => k_asm); (case kX => k_asm); (case kN => k_asm); (case kT => k_asm); (case kf => exact rfl); (case kk => exact rfl); (case h1 => exact rfl); (case h2 => exact Nat.le_of_ble_eq_true rfl); (case h4 => exact rfl); (case h5 => exact Nat.le_of_ble_eq_true rfl); (case kq => k_mem); (case z1 => decide); (case z2 => decide); (case z3 => exact rfl); (case z4 => decide); (case z5 => decide +kernel); (case z6 => decide +kernel); (case z7 => decide +kernel))
  | (refine' weaken (sub_F ?kB ?kF ?kX ?kN ?kT ?kf ?kk ?kq ?z1 ?z2 ?z3 ?z4 ?z5 ?z6 ?_) ?h1 ?h2 ?h3 ?h4 ?h5; (case h3 => exact fun _ h => h); (case kB => k_asm); (case kF => k_asm); (case kX => k_asm); (case kN => k_asm); (case kT => k_asm); (case kf => exact rfl); (case kk => exact rfl); (case h1 => exact rfl); (case h2 => exact Nat.le_of_ble_eq_true rfl); (case h4 => exact rfl); (case h5 => exact Nat.le_of_ble_eq_true rfl); (case kq => k_mem); (case z1 => decide); (case z2 => decide); (case z3 => exact rfl); (case z4 => decide); (case z5 => decide +kernel); (case z6 => decide +kernel))
  | (refine' weaken (sub_names ?kB ?kF ?kX ?kN ?kT ?kf ?kk ?kq ?z1 ?z2 ?z3 ?z4 ?z5 ?z6 ?z7 ?_) ?h1 ?h2 ?h3 ?h4 ?h5; (case h3 => exact fun _ h => h); (case kB => k_asm); (case kF => k_asm); (case kX => k_asm); (case kN => k_asm); (case kT => k_asm); (case kf => exact rfl); (case kk => exact rfl); (case h1 => exact rfl); (case h2 => exact Nat.le_of_ble_eq_true rfl); (case h4 => exact rfl); (case h5 => exact Nat.le_of_ble_eq_true rfl); (case kq => k_mem); (case z1 => assumption); (case z2 => assumption); (case z3 => first | assumption | exact rfl); (case z4 => decide +kernel); (case z5 => assumption); (case z6 => assumption); (case z7 => assumption))
  | (refine' weaken (sub_namesT ?kB ?kF ?kX ?kN ?kT ?kf ?kk ?kq ?z1 ?z2 ?z3 ?z4 ?z5 ?z6 ?_) ?h1 ?h2 ?h3 ?h4 ?h5; (case h3 => exact fun _ h => h); (case kB => k_asm); (case kF => k_asm); (case kX => k_asm); (case kN => k_asm); (case kT => k_asm); (case kf => exact rfl); (case kk => exact rfl); (case h1 => exact rfl); (case h2 => exact Nat.le_of_ble_eq_true rfl); (case h4 => exact rfl); (case h5 => exact Nat.le_of_ble_eq_true rfl); (case kq => k_mem); (case z1 => assumption); (case z2 => assumption); (case z3 => first | assumption | exact rfl); (case z4 => decide +kernel); (case z5 => assumption); (case z6 => assumption))); k_whole; intro y' d' u2' u3' h' tk' F' N' l1 l2; (try k_lt l1); (try k_lt2 l2); (try k_sweep)))
local macro_rules | `(tactic| walk_at "call ref") => `(tactic| (k_here; (with_reducible show wpAny _ _ (call (Value.ref 163) _) _ _ _); k_dflt (first
  | (refine' c_opened_FUNC ?kXB ?kTB ?kB ?kF ?kX ?kN ?kT ?kk ?kx ?kd ?z1 ?_; (case kXB => k_asm); (case kTB => k_asm); (case kB => k_asm); (case kF => k_asm); (case kX => k_asm); (case kN => k_asm); (case kT => k_asm); (case kk => exact rfl); (case kx => k_mem); (case kd => k_mem); (case z1 => walk_at "str_ok"))
  | (refine' c_opened_PAREN ?kXB ?kTB ?kB ?kF ?kX ?kN ?kT ?kk ?kx ?kd ?z1 ?_; (case kXB => k_asm); (case kTB => k_asm); (case kB => k_asm); (case kF => k_asm); (case kX => k_asm); (case kN => k_asm); (case kT => k_asm); (case kk => exact rfl); (case kx => k_mem); (case kd => k_mem); (case z1 => walk_at "str_ok"))
  | (refine' c_opened_ARRAY ?kXB ?kTB ?kB ?kF ?kX ?kN ?kT ?kk ?kx ?kd ?z1 ?_; (case kXB => k_asm); (case kTB => k_asm); (case kB => k_asm); (case kF => k_asm); (case kX => k_asm); (case kN => k_asm); (case kT => k_asm); (case kk => exact rfl); (case kx => k_mem); (case kd => k_mem); (case z1 => walk_at "str_ok"))); k_whole; intro h' tk' F' N'; (try k_sweep)))
local macro_rules | `(tactic| walk_at "call ref") => `(tactic| (k_here; (with_reducible show wpAny _ _ (call (Value.ref 156) _) _ _ _); k_dflt (first
  | (refine' bar_2 ?kXB ?kTB ?kB ?kF ?kX ?kN ?kT ?kk ?z1 ?z2 ?z3 ?_; (case kXB => k_asm); (case kTB => k_asm); (case kB => k_asm); (case kF => k_asm); (case kX => k_asm); (case kN => k_asm); (case kT => k_asm); (case kk => exact rfl); (case z1 => k_mem); (case z2 => k_mem); (case z3 => decide +kernel))
  | (refine' bar_1 ?kXB ?kTB ?kB ?kF ?kX ?kN ?kT ?kk ?z1 ?_; (case kXB => k_asm); (case kTB => k_asm); (case kB => k_asm); (case kF => k_asm); (case kX => k_asm); (case kN => k_asm); (case kT => k_asm); (case kk => exact rfl); (case z1 => decide +kernel))
  | (refine' bar_F ?kXB ?kTB ?kB ?kF ?kX ?kN ?kT ?kk ?z1 ?z2 ?z3 ?z4 ?_; (case kXB => k_asm); (case kTB => k_asm); (case kB => k_asm); (case kF => k_asm); (case kX => k_asm); (case kN => k_asm); (case kT => k_asm); (case kk => exact rfl); (case z1 => assumption); (case z2 => assumption); (case z3 => assumption); (case z4 => decide +kernel))
  | (refine' bar_T ?kXB ?kTB ?kB ?kF ?kX ?kN ?kT ?kk ?z1 ?z2 ?z3 ?z4 ?z5 ?_; (case kXB => k_asm); (case kTB => k_asm); (case kB => k_asm); (case kF => k_asm); (case kX => k_asm); (case kN => k_asm); (case kT => k_asm); (case kk => exact rfl); (case z1 => decide); (case z2 => decide); (case z3 => exact rfl); (case z4 => decide +kernel); (case z5 => first | with_reducible exact run_open | with_reducible exact run_curl | with_reducible exact run_lruc))); k_whole; intro h' tk' F' N'; (try k_sweep)))
local macro_rules | `(tactic| walk_at "call builtin:str.format") => `(tactic| (k_here; (with_reducible show wpAny _ _ (call (Value.builtin "str.format") _) _ _ _); k_dflt (refine' fmt3 ?z1 ?z2 ?z3 ?_; (case z1 => first | assumption | decide); (case z2 => first | assumption | decide); (case z3 => first | assumption | decide); k_whole; intro _ _)))
set_option maxHeartbeats 80000000 in
theorem law_st9 {w : World} {mean : ExcName → Option Value} {mg mb : Str → Option Value}
   {a : Addr} {ccd : Value} {h₀ : Heap} {L : Addr} {m : Str → Option Value} {s : Shared}
    (B : Below callerA h₀ [] h₀) (F : Fr h₀ L s.heap m) (X : (Mine.hd.heap_39 w.params).In h₀) (N : News h₀ L s.heap []) (T : TopP mean mg mb h₀) :
      wpAny (model PySem.Challenge.pw_fh5003_01 w) (callerA.deeper (envOf (Str.ofString "law") lawScope L a ccd)) (execs (lawRest 9) (envOf (Str.ofString "law") lawScope L a ccd)) (RetT h₀ L s) (fun _ _ => False) s := by
  conv in lawRest 9 => whnf
  k_steps
  all_goals first | exact RetT.intro (by assumption) | exact (envOf (Str.ofString "law") lawScope L a ccd)
end

section -- JN
theorem execs_words {M : Model} {A : Around} {h₀ : Heap} {L : Addr} {s : Shared} {m : Str → Option Value} {st : Stmt} {rest : List Stmt} {env : Env} {Q : Flow → Shared → Prop} {E : Value → Shared → Prop}
    (h1 : wpAny M A (exec st env) (WordsP h₀ L s m) E s)
    (h2 : ∀ (h' : Heap) (tk : Nat) (D : Addr) (vs : List Value) (k : Nat), Fr h₀ L h' (fun y => if y = Str.ofString "words" then some (.ref D) else m y) → News h₀ L h' [(D, listOf vs.toArray k)] → (∀ v ∈ vs, GoodV v) → wpAny M A (execs rest env) Q E { s with heap := h', toks := tk }) :
    wpAny M A (execs (st :: rest) env) Q E s :=
  wpAny_execs_cons (wpAny_mono h1 (fun f s' h => by obtain ⟨rfl, h', tk, D, vs, k, rfl, F, N, g, _⟩ := h; exact h2 h' tk D vs k F N g) fun _ _ e => e)
theorem ret_up {M : Model} {A : Around} {h₀ h1 : Heap} {L : Addr} {s s' : Shared} {t1 : Nat} {t : Sem Flow} {E : Value → Shared → Prop} (h : wpAny M A t (RetT h₀ L { s with heap := h1, toks := t1 }) E s') : wpAny M A t (RetT h₀ L s) E s' :=
  wpAny_mono h (fun f s₂ h => by obtain ⟨rfl, h', tk, m', rfl, F'⟩ := h; exact ⟨rfl, h', tk, m', rfl, F'⟩) fun _ _ e => e
theorem any_up {h₀ h1 : Heap} {L : Addr} {s : Shared} {t1 : Nat} {f : Flow} {s₂ : Shared} (h : AnyP h₀ L { s with heap := h1, toks := t1 } f s₂) : AnyP h₀ L s f s₂ := by
  obtain ⟨rfl, h', tk, m', rfl, F'⟩ := h; exact ⟨rfl, h', tk, m', rfl, F'⟩
set_option maxHeartbeats 8000000 in
theorem law_all {w : World} {mean : ExcName → Option Value} {mg mb : Str → Option Value}
   {a : Addr} {ccd : Value} {h₀ : Heap} {L : Addr} {m : Str → Option Value} {s : Shared} {q : Addr} {us : List Value} {ns : List Int}
    (B : Below callerA h₀ [] h₀) (F : Fr h₀ L s.heap m) (X : (Mine.hd.heap_39 w.params).In h₀) (N : News h₀ L s.heap []) (T : TopP mean mg mb h₀)
    (hm : m (Str.ofString "script") = some (.ref q)) (hL : h₀.IsList q us.toArray) (hI : IntsAre us ns) (hlen : ns.length ≤ 63) :
      wpAny (model PySem.Challenge.pw_fh5003_01 w) (callerA.deeper (envOf (Str.ofString "law") lawScope L a ccd)) (execs (lawRest 0) (envOf (Str.ofString "law") lawScope L a ccd)) (RetT h₀ L s) (fun _ _ => False) s := by
  have em : m = fun y => if y = Str.ofString "script" then some (.ref q) else m y := by
    funext y
    by_cases hy : y = Str.ofString "script"
    · rw [if_pos hy, hy, hm]
    · rw [if_neg hy]
  rw [show lawRest 0 = lawStmt 0 :: lawRest 1 from rfl]
  with_reducible refine execs_pass F N (law_st0 B F X N T) ?_
  intro h1 tk1 F1 N1
  rw [em] at F1
  rw [show lawRest 1 = lawStmt 1 :: lawRest 2 from rfl]
  with_reducible refine execs_words (law_st1 (s := { s with heap := h1, toks := tk1 }) B F1 X N1 T hL hI hlen) ?_
  intro h2 tk2 D vs k F2 N2 hg
  rw [show lawRest 2 = lawStmt 2 :: lawRest 3 from rfl]
  with_reducible refine execs_any F2 (law_st2 (s := { s with heap := h2, toks := tk2 }) B F2 X N2 T hg) ?_
  intro h3 tk3 m3 F3 N3
  rw [show lawRest 3 = lawStmt 3 :: lawRest 4 from rfl]
  with_reducible refine execs_any F3 (law_st3 (s := { s with heap := h3, toks := tk3 }) B F3 X N3 T) ?_
  intro h4 tk4 m4 F4 N4
  rw [show lawRest 4 = lawStmt 4 :: lawRest 5 from rfl]
  with_reducible refine execs_any F4 (law_st4 (s := { s with heap := h4, toks := tk4 }) B F4 X N4 T) ?_
  intro h5 tk5 m5 F5 N5
  rw [show lawRest 5 = lawStmt 5 :: lawRest 6 from rfl]
  with_reducible refine execs_any F5 (law_st5 (s := { s with heap := h5, toks := tk5 }) B F5 X N5 T) ?_
  intro h6 tk6 m6 F6 N6
  rw [show lawRest 6 = lawStmt 6 :: lawRest 7 from rfl]
  with_reducible refine execs_any F6 (law_st6 (s := { s with heap := h6, toks := tk6 }) B F6 X N6 T) ?_
  intro h7 tk7 m7 F7 N7
  rw [show lawRest 7 = lawStmt 7 :: lawRest 8 from rfl]
  with_reducible refine execs_any F7 (law_st7 (s := { s with heap := h7, toks := tk7 }) B F7 X N7 T) ?_
  intro h8 tk8 m8 F8 N8
  rw [show lawRest 8 = lawStmt 8 :: lawRest 9 from rfl]
  with_reducible refine execs_any F8 (law_st8 (s := { s with heap := h8, toks := tk8 }) B F8 X N8 T) ?_
  intro h9 tk9 m9 F9 N9
  with_reducible refine ret_up (law_st9 (s := { s with heap := h9, toks := tk9 }) B F9 X N9 T)
end

theorem top_cut {M : Model} {A : Around} {t : Sem Flow} {Q : Flow → Shared → Prop} {E : Value → Shared → Prop} {s : Shared} (R : Flow → Shared → Prop) (h1 : wpAny M A t R (fun _ _ => False) s) (h2 : ∀ f s', R f s' → Q f s') : wpAny M A t Q E s :=
  wpAny_mono h1 h2 (fun _ _ e => e.elim)
end Mine
set_option maxHeartbeats 8000000 in
theorem PySem.Challenge.cw_fh5003_01_holds : PySem.Challenge.rw_fh5003_01.Holds := by
  exact Mine.hd (by
    k_go0
    refine Mine.top_cut (Mine.RetT ?lwh ?lwl ?lws) ?lw1 ?lw2
    case lw1 =>
      refine' Mine.law_all ?lwB ?lwF ?lwX ?lwN ?lwT ?lwM ?lwL ?lwI ?lwE
      case lwF => assumption
      case lwB => assumption
      case lwX => assumption
      case lwN => assumption
      case lwT => assumption
      case lwL => assumption
      case lwI => assumption
      case lwM => exact rfl
      case lwE => omega
    case lw2 =>
      intro f s' h
      obtain ⟨rfl, h', tk, m', rfl, F'⟩ := h
      k_steps)
