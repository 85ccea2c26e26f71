import PyProof.Rows.All
import Wide.All
import OpenK.AllK
import Wide.FinOn
import PySem.Challenge.RW_ew0014_01
section -- Top0
open PySem PySem.W PyProof.Rows
set_option Elab.async false
set_option maxRecDepth 100000
set_option maxHeartbeats 0
namespace Mine
open_top hd for PySem.Challenge.rw_ew0014_01
end Mine
end
section
open PySem PySem.W PyProof.Rows
namespace Mine
theorem lines_off : True := by
  w_top off
  trivial
end Mine
end
section -- Enter
open PySem PySem.W PyProof.Rows
set_option Elab.async false
set_option maxRecDepth 100000
set_option maxHeartbeats 0
namespace Mine
open PySem.Calls
theorem wpPeek {α : Type} {K : Frag} {M : Model} {A : Around} {E : Value → Shared → Prop} {Q : α → Shared → Prop} {s : Shared} {a : α} {t : Sem α}
    (X : K.In s.heap) (e : peek K ⟨M.prog, M.w.params⟩ t = some a) (q : Q a s) : wpAny M A t Q E s := (Looks.of_peek (M := M) X e).here q
theorem frameAt {prog : Program} {w : World} {A₀ A : Around} {s : Shared} {base h₀ : Heap} {outer : List Env} {L : Addr} {m : Str → Option Value} {env : Env} {news : List (Addr × Obj)}
    {R : Result → Shared → Prop} {qual : Str} {body : List Stmt} {scope : Scope} {cdv : Value} {f cc : Addr} {binds : List (Str × Value)} {E : Value → Shared → Prop}
    (B : Below A₀ base outer h₀) (F : Fr h₀ L s.heap m) (N : News h₀ L s.heap news) (hlim : h₀.NoLimit) (hA : A.frames = some (env :: outer)) (hf : env.frame = some L) (hke : env.scope.kind = .function)
    (hloc : ∀ y ∈ binds, scope.names.lookup y.1 = some .local)
    (h : ∀ g L' h₁, Fr h₀ L g m → Fr g L' h₁ (fun y => binds.reverse.lookup y) → News g L' h₁ news → Below A base (env :: outer) g → h₀.StaysIn g → (∀ p ∈ news, p.1 < L') →
      _root_.PySem.wpAt (model prog w) (A.deeper (ksEnv qual scope L' f cdv cc)) (.func body (ksEnv qual scope L' f cdv cc)) (execs body (ksEnv qual scope L' f cdv cc))
        (fun fl s' => LeaveK h₀ L m g R (match fl with | .ret v => v | _ => .none) s')
        (fun e s' => wpAny (model prog w) (A.deeper (ksEnv qual scope L' f cdv cc)) (leaving (ksEnv qual scope L' f cdv cc) e) (fun _ s'' => R (.error e) s'') (fun e' s'' => R (.error e') s'') s')
        { s with heap := h₁, toks := s.toks + binds.length })
    (hcell : ∀ x ∈ scope.names, x.2 ≠ .cell) (hk : scope.kind = .function) :
    wpAny (model prog w) A.in1 (newFunctionEnv scope mainGlobals [("__class__", cc)] binds (qual ++ ".<locals>.") (some f) cdv none builtinsNs) (fun env' s₂ => s₂.heap.NoLimit ∧ codeAny (model prog w) A (.func body env') R s₂) E s := by
  obtain ⟨FG, BG, st, lv⟩ := groundX (R := R) B F N hA hf hke
  refine wpAny_newFunctionEnv hcell hloc (fun h₁ hns hsb => ⟨(hlim.keeps F.keep).fresh _ hsb, ks_codeAny_funcAt ?_⟩) hk
  have hk₁ : ∀ b o, s.heap.get? b = some o → h₁.get? b = some o := fun b o e => hsb.extBut b o (Nat.ne_of_lt (Heap.lt_size e)) (Heap.get?_push_of_some _ e)
  show _root_.PySem.wpAt (model prog w) (A.deeper (ksEnv qual scope s.heap.objs.size f cdv cc)) _ (execs body (ksEnv qual scope s.heap.objs.size f cdv cc)) _ _ _
  exact ks_wpAt_mono (h _ s.heap.objs.size h₁ FG ⟨hns, fun b o e => hk₁ b o (of_hideAll _ e), Nat.le_of_eq (hideAll_size _ _)⟩
    (fun p hp => ⟨hk₁ _ _ (N p hp).1, Nat.ne_of_lt (Heap.lt_size (N p hp).1), hideAll_none _ (List.mem_map_of_mem hp)⟩) BG st (fun p hp => Heap.lt_size (N p hp).1)) (fun fl s' hl => lv _ _ hl) fun _ _ y => y
theorem initEnter {prog : Program} {w : World} {A A₀ : Around} {s : Shared} {K : Frag} {L : Addr} {h₀ base : Heap} {m mg mb : Str → Option Value} {news : List (Addr × Obj)} {p : Program} {loose : List Str} {mean : ExcName → Option Value}
    {env : Env} {outer : List Env} {R : Result → Shared → Prop} {name qual : Str} {params : Arguments} {body : List Stmt} {scope : Scope} {dV kV doc pm cdv ct oc : Value} {an od : Option Addr} {osl : Array (Option Value)} {f cc : Addr} {args : Args} {to : Obj} {g₁ : Addr → Sem (List (Str × Value))} {g₂ : Addr → Addr → Sem (List (Str × Value))} {binds : Addr → Addr → List (Str × Value)}
    (B : Below A₀ base outer h₀) (F : Fr h₀ L s.heap m) (X₀ : K.In h₀) (N : News h₀ L s.heap news) (T : Top p loose mean mg mb h₀) (hA : A.frames = some (env :: outer)) (hf : env.frame = some L) (hke : env.scope.kind = .function)
    (ho : K.lookup f = some ⟨oc, od, .func (ksFn name qual params body scope dV kV doc pm an cdv ct cc), osl⟩) (hcd : codeIn K cdv qual = true) (hroom : A.depth < recursionLimit)
    (hto : to.isFreed = false)
    (hp : peekA K ⟨prog, w.params⟩ (bindArgs (ksFn name qual params body scope dV kV doc pm an cdv ct cc) args) = some (to, g₁))
    (hp₂ : ∀ D, peekA K ⟨prog, w.params⟩ (g₁ D) = some (dictOf [] 0, g₂ D))
    (hp₃ : ∀ C D, peek K ⟨prog, w.params⟩ (g₂ C D) = some (binds C D))
    (hloc : ∀ C D, ∀ y ∈ binds C D, scope.names.lookup y.1 = some .local)
    (h : ∀ C D g L' h₁, (∀ p ∈ news, p.1 < C) → C < D → D < L' → Fr h₀ L g m → Fr g L' h₁ (fun y => (binds C D).reverse.lookup y) →
      News g L' h₁ ((D, dictOf [] 0) :: (C, to) :: news) → Below A base (env :: outer) g → K.In g → Top p loose mean mg mb g →
      _root_.PySem.wpAt (model prog w) (A.deeper (ksEnv qual scope L' f cdv cc)) (.func body (ksEnv qual scope L' f cdv cc)) (execs body (ksEnv qual scope L' f cdv cc))
        (fun fl s' => LeaveK h₀ L m g R (match fl with | .ret v => v | _ => .none) s')
        (fun e s' => wpAny (model prog w) (A.deeper (ksEnv qual scope L' f cdv cc)) (leaving (ksEnv qual scope L' f cdv cc) e) (fun _ s'' => R (.error e) s'') (fun e' s'' => R (.error e') s'') s')
        { s with heap := h₁, toks := s.toks + (binds C D).length })
    (hco : scope.isCoroutine = false) (hgen : scope.isGenerator = false) (hk : scope.kind = .function)
    (hcell : ∀ x ∈ scope.names, x.2 ≠ .cell) : codeAny (model prog w) A (.call (.ref f) args) R s := by
  refine codeAny_call_function (fd := ksFn name qual params body scope dV kV doc pm an cdv ct cc) (body := body) hroom ((X₀.keeps F.keep) _ _ ho) rfl hco hgen rfl (codeRec_of (X₀.keeps F.keep) hcd) ?_
  refine wp_of_peekA (o := to) F N (X₀.keeps F.keep) hto _ g₁ hp fun h' F' N' l => ?_
  refine wp_of_peekA (s := { s with heap := h' }) (o := dictOf [] 0) F' N' (X₀.keeps F'.keep) rfl _ (g₂ s.heap.objs.size) (hp₂ _) fun h'' F'' N'' l' => ?_
  refine wpPeek (s := { s with heap := h'' }) (X₀.keeps F''.keep) (hp₃ _ _) ?_
  exact frameAt (s := { s with heap := h'' }) B F'' N'' T.nolimit hA hf hke (hloc _ _)
    (fun g L' h₁ FG FL NG BG st lt => h _ _ g L' h₁ l (l' _ (.head _)) (lt _ (.head _)) FG FL NG BG (X₀.keeps st) (T.keeps st)) hcell hk
end Mine
end
section -- Rx
open PySem PySem.W PyProof.Rows
set_option Elab.async false
set_option maxRecDepth 100000
set_option maxHeartbeats 0
namespace Mine
open PySem.Calls PySem.Sre
def CODE : Array Nat := #[14,4,0,1,4294967295,6,0,24,20,1,4294967295,13,15,9,0,67135488,0,0,0,0,0,0,8,14,8,12,0,1,6,5,1]
def okc (c : Nat) : Bool := [103,112,108,50,46,48,111,114,45,97,116,101,120,32].contains c
theorem acc_ok (c : Nat) (h : okc c = true) (seen : Sre.Seen) : ∃ seen', accepts CODE 11 c seen = .ok (true, seen') := by
  have key : ∀ c ∈ [103,112,108,50,46,48,111,114,45,97,116,101,120,32], ∀ seen : Sre.Seen, (match accepts CODE 11 c seen with | .ok (b, _) => b | .error _ => false) = true := by
    intro c hc
    simp only [List.mem_cons, List.not_mem_nil, or_false] at hc
    rcases hc with rfl | rfl | rfl | rfl | rfl | rfl | rfl | rfl | rfl | rfl | rfl | rfl | rfl | rfl <;> (intro seen; kernel_rfl)
  have := key c (by simpa [okc] using h) seen
  revert this
  cases accepts CODE 11 c seen with
  | ok r => obtain ⟨b, s'⟩ := r; intro e; cases e; exact ⟨_, rfl⟩
  | error e => intro e; cases e
theorem run_ok (text : Array Nat) : ∀ (n p found : Nat) (seen : Sre.Seen), p + n = text.size → (∀ c ∈ text.toList, okc c = true) → ∃ seen', Sre.run CODE text 11 n p found seen = .ok (found + n, seen')
  | 0, p, found, seen, _, _ => ⟨seen, rfl⟩
  | n + 1, p, found, seen, hp, hall => by
    have hlt : p < text.size := by omega
    have hc : okc (text.getD p 0) = true := by
      have : text.getD p 0 = text[p] := by simp [Array.getD, hlt]
      rw [this]
      exact hall _ (by simp)
    obtain ⟨s1, h1⟩ := acc_ok _ hc seen
    obtain ⟨s2, h2⟩ := run_ok text n (p + 1) (found + 1) s1 (by omega) hall
    refine ⟨s2, ?_⟩
    have e : found + (n + 1) = found + 1 + n := by omega
    rw [e, ← h2]
    show (accepts CODE 11 (text.getD p 0) seen >>= _) = _
    rw [h1]
    rfl
theorem drive_ok (text : Array Nat) (hn : 1 ≤ text.size) (hb : text.size ≤ 100000) (hall : ∀ c ∈ text.toList, okc c = true) :
    ∃ m1 m2 : Sre.M, (Sre.forMatch CODE text 0 0 text.size false false).runFor 4 = m1 ∧ m1.outcome = none ∧ m1.runFor 4 = m2 ∧ m2.outcome = some .matched := by
  generalize hN : text.size = n at hn hb
  have e0 : Sre.forMatch CODE text 0 0 n false false =
      { code := CODE, text, lim := n, start := 0, pc := 5, pos := 0, handed := 0, marks := #[], seen := ({} : Sre.Seen).add 14 } := by
    have hlt : (decide (n - 0 < 1)) = false := by simp; omega
    unfold Sre.forMatch
    show (if (_ && decide (n - 0 < 1)) = true then _ else _) = _
    rw [hlt, Bool.and_false]
    rfl
  rw [e0]
  have s1 : (({ code := CODE, text, lim := n, start := 0, pc := 5, pos := 0, handed := 0, marks := #[], seen := ({} : Sre.Seen).add 14 } : Sre.M).step) =
      { code := CODE, text, lim := n, start := 0, pc := 7, pos := 0, handed := 0, marks := #[], seen := ((({} : Sre.Seen).add 14).add 6).add 43 } := by
    kernel_rfl
  obtain ⟨sn, hsn⟩ := run_ok text n 0 0 ((((((({} : Sre.Seen).add 14).add 6).add 43).add 24).add 13)) (by omega) hall
  rw [Nat.zero_add] at hsn
  generalize hm1 : ({ code := CODE, text, lim := n, start := 0, pc := 7, pos := 0, handed := 0, marks := #[], seen := ((({} : Sre.Seen).add 14).add 6).add 43 } : Sre.M) = m1 at s1
  have s2 : m1.step = { code := CODE, text, lim := n, start := 0, pc := 28, pos := n, handed := n, marks := #[], seen := sn, weight := 1, frames := [{ wait := .giveBack, pc := 7, pos := n, outermost := true, count := (n : Int), kept := {} }] } := by
    subst hm1
    have e : Sre.M.step { code := CODE, text, lim := n, start := 0, pc := 7, pos := 0, handed := 0, marks := #[], seen := ((({} : Sre.Seen).add 14).add 6).add 43 } =
      (if (((1 : Nat) : Int) > ((n : Int) - ((0 : Nat) : Int))) then Sre.M.say { code := CODE, text, lim := n, start := 0, pc := 7, pos := 0, handed := 0, marks := #[], seen := (((({} : Sre.Seen).add 14).add 6).add 43).add 24 } false
       else match Sre.run CODE text 11 (min 4294967295 ((n : Int) - ((0 : Nat) : Int)).toNat) 0 0 ((((((({} : Sre.Seen).add 14).add 6).add 43).add 24).add 13)) with
        | .error why => Sre.M.stick { code := CODE, text, lim := n, start := 0, pc := 7, pos := 0, handed := 0, marks := #[], seen := (((({} : Sre.Seen).add 14).add 6).add 43).add 24 } why
        | .ok (k, seen) =>
          if k < 1 then Sre.M.say { code := CODE, text, lim := n, start := 0, pc := 7, pos := 0, handed := 0, marks := #[], seen := seen } false else
          Sre.M.afterRun { code := CODE, text, lim := n, start := 0, pc := 7, pos := 0 + k, handed := 0, marks := #[], seen := seen } .giveBack k (Sre.M.keep { code := CODE, text, lim := n, start := 0, pc := 7, pos := 0 + k, handed := 0, marks := #[], seen := seen } false)) := by
      kernel_rfl
    rw [e, if_neg (by omega)]
    have e2 : min 4294967295 ((n : Int) - ((0 : Nat) : Int)).toNat = n := by omega
    rw [e2, hsn]
    dsimp only
    rw [if_neg (by omega), Nat.zero_add]
    rfl
  generalize hm2 : ({ code := CODE, text, lim := n, start := 0, pc := 28, pos := n, handed := n, marks := #[], seen := sn, weight := 1, frames := [{ wait := .giveBack, pc := 7, pos := n, outermost := true, count := (n : Int), kept := {} }] } : Sre.M) = m2 at s2
  have s3 : m2.step = { code := CODE, text, lim := n, start := 0, pc := 30, pos := n, handed := n, marks := #[], seen := (sn.add 6).add 48, weight := 1, frames := [{ wait := .giveBack, pc := 7, pos := n, outermost := true, count := (n : Int), kept := {} }] } := by
    subst hm2
    have e : Sre.M.step { code := CODE, text, lim := n, start := 0, pc := 28, pos := n, handed := n, marks := #[], seen := sn, weight := 1, frames := [{ wait := .giveBack, pc := 7, pos := n, outermost := true, count := (n : Int), kept := {} }] } =
      (if ((n == n) || ((n + 1 == n) && (text.getD n 0 == 10))) = true then { code := CODE, text, lim := n, start := 0, pc := 30, pos := n, handed := n, marks := #[], seen := (sn.add 6).add 48, weight := 1, frames := [{ wait := .giveBack, pc := 7, pos := n, outermost := true, count := (n : Int), kept := {} }] }
       else Sre.M.say { code := CODE, text, lim := n, start := 0, pc := 28, pos := n, handed := n, marks := #[], seen := (sn.add 6).add 48, weight := 1, frames := [{ wait := .giveBack, pc := 7, pos := n, outermost := true, count := (n : Int), kept := {} }] } false) := by
      kernel_rfl
    rw [e, beq_self_eq_true, Bool.true_or, if_pos rfl]
  generalize hm3 : ({ code := CODE, text, lim := n, start := 0, pc := 30, pos := n, handed := n, marks := #[], seen := (sn.add 6).add 48, weight := 1, frames := [{ wait := .giveBack, pc := 7, pos := n, outermost := true, count := (n : Int), kept := {} }] } : Sre.M) = m3 at s3
  have s4 : m3.step = { code := CODE, text, lim := n, start := 0, pc := 30, pos := n, handed := n, marks := #[], seen := ((sn.add 6).add 48).add 1, weight := 1, answer := some true, frames := [{ wait := .giveBack, pc := 7, pos := n, outermost := true, count := (n : Int), kept := {} }] } := by
    subst hm3
    kernel_rfl
  have o0 : Sre.M.outcome { code := CODE, text, lim := n, start := 0, pc := 5, pos := 0, handed := 0, marks := #[], seen := ({} : Sre.Seen).add 14 } = none := rfl
  have o1 : m1.outcome = none := by rw [← hm1]
  have o2 : m2.outcome = none := by rw [← hm2]
  have o3 : m3.outcome = none := by rw [← hm3]
  refine ⟨_, _, rfl, ?_, rfl, ?_⟩
  · simp only [Sre.M.runFor, o0, s1, o1, s2, o2, s3, o3, s4, Option.isSome_none, Bool.false_eq_true, if_false]
  · simp only [Sre.M.runFor, o0, s1, o1, s2, o2, s3, o3, s4, Option.isSome_none, Bool.false_eq_true, if_false]
    kernel_rfl
theorem slot_match : Slot "re.Pattern" "match" "re.Pattern.match" :=
  .of (owner := "re.Pattern") (n := "match") (by rw [typeLookup_type, builtinLookup_eq_fast]; kernel_rfl) (by decide +kernel) (by decide +kernel) (by decide +kernel)
    (by first | exact .inl (by decide +kernel) | exact .inr (by decide +kernel)) (by rw [isSubtype_type]; kernel_rfl)
theorem entry_match : entryFor table "re.Pattern.match" = some Builtin.«re.Pattern.match» := entryFor_of_tree (by kernel_rfl)
theorem args_match (a b : Value) : argsOk "re.Pattern.match" ⟨[a, b], []⟩ := by unfold argsOk; kernel_rfl
abbrev codeObj (n : Nat) : Obj := { cls := .type "tuple", data := .seq #[.int 14 0, .int 4 0, .int 0 0, .int 1 0, .int 4294967295 0, .int 6 0, .int 0 0, .int 24 0, .int 20 0, .int 1 0, .int 4294967295 0, .int 13 0, .int 15 0, .int 9 0, .int 0 0, .int 67135488 0, .int 0 0, .int 0 0, .int 0 0, .int 0 0, .int 0 0, .int 0 0, .int 8 0, .int 14 0, .int 8 0, .int 12 0, .int 0 0, .int 1 0, .int 6 0, .int 5 0, .int 1 0] n }
abbrev patObj (v0 v1 v3 v4 : Value) (t2 t6 : Tok) : Obj := { cls := .type "re.Pattern", data := .fields #[v0, v1, .int 0 t2, v3, v4, .ref 270, .int 0 t6] }
theorem seen_any {M : Model} {A : Around} {E : Value → Shared → Prop} {s : Shared} (m : Sre.M) {Q : PUnit → Shared → Prop} : ∀ l : List Nat, Q ⟨⟩ s →
    wpAny M A (forIn l PUnit.unit fun i _ => (if m.seen.has i = true then (rule (Sre.names.getD i "") >>= fun _ => pure (ForInStep.yield PUnit.unit)) else pure (ForInStep.yield PUnit.unit) : Sem (ForInStep PUnit))) Q E s
  | [], h => by rw [List.forIn_nil]; exact wpAny_pure h
  | i :: l, h => by
    rw [List.forIn_cons]
    refine wpAny_bind ?_
    split
    · exact wpAny_bind (wpAny_rule (wpAny_pure (seen_any m l h)))
    · exact wpAny_pure (seen_any m l h)
theorem match_call {prog : Program} {w : World} {A : Around} {E : Value → Shared → Prop} {s : Shared} {Q : Value → Shared → Prop} {v0 v1 v3 v4 : Value} {t2 t6 tk : Tok} {n : Nat} {key : Str}
    (h1 : s.heap.get? 271 = some (patObj v0 v1 v3 v4 t2 t6)) (h2 : s.heap.get? 270 = some (codeObj n))
    (hn : 1 ≤ key.cps.size) (hb : key.cps.size ≤ 100000) (hall : ∀ c ∈ key.cps.toList, okc c = true)
    (hQ : ∀ o1 vs, o1.isFreed = false → Q (.ref (s.heap.push o1).objs.size) { s with heap := (s.heap.push o1).push { cls := .type "re.Match", data := .fields vs } }) :
    wpAny (model prog w) A (call (.builtin "re.Pattern.match") [.ref 271, .str key tk] []) Q E s := by
  refine wpAny_call_entry slot_match ⟨_, h1, rfl⟩ entry_match ?_ (args_match _ _)
  unfold Builtin.«re.Pattern.match»
  have X : Frag.In ([(271, patObj v0 v1 v3 v4 t2 t6), (270, codeObj n)] : Frag) s.heap := by
    intro a o e
    by_cases ha : a = 271
    · subst ha; cases e; exact h1
    · by_cases hb : a = 270
      · subst hb; cases e; exact h2
      · have q1 : (a == 271) = false := by simpa using ha
        have q2 : (a == 270) = false := by simpa using hb
        rw [List.lookup_cons, q1, List.lookup_cons, q2] at e
        cases e
  refine wpAny_bind (wpPeek (a := ({ pattern := .ref 271, string := .str key tk, code := CODE, text := key.cps, kind := 0, groups := 0, pos := min (0 : Int).toNat key.cps.size, lim := min ((2 ^ 63 - 1 : Int)).toNat key.cps.size } : Builtin.Re.ReTarget)) X (by kernel_rfl) ?_)
  dsimp only
  have e1 : min (0 : Int).toNat key.cps.size = 0 := by simp
  have e2 : min ((2 ^ 63 - 1 : Int)).toNat key.cps.size = key.cps.size := by
    have : ((2 ^ 63 - 1 : Int)).toNat = 9223372036854775807 := by decide
    omega
  rw [e1, e2]
  obtain ⟨m1, m2, r1, q1, r2, q2⟩ := drive_ok key.cps hn hb hall
  unfold Builtin.Re.reAnswer Builtin.Re.reRunToEnd
  refine wpAny_bind (wpAny_bind (Q := fun m s' => _) (m := Builtin.Re.reDrive (2 ^ 64) _) ?_)
  have e64 : (2 : Nat) ^ 64 = 18446744073709551614 + 1 + 1 := by decide
  rw [e64]
  unfold Builtin.Re.reDrive
  dsimp only
  have rt : Builtin.Re.reTurnSteps = 4 := rfl
  rw [rt, r1, q1]
  simp only [Option.isSome_none, Bool.false_eq_true, if_false]
  refine wpAny_bind (wpAny_rule ?_)
  unfold Builtin.Re.reDrive
  dsimp only
  rw [rt, r2, q2]
  simp only [Option.isSome_some, if_true]
  refine wpAny_pure ?_
  refine wpAny_bind ?_
  refine seen_any m2 _ ?_
  rw [q2]
  refine wpAny_pure ?_
  dsimp only
  refine wpAny_bind ?_
  unfold Builtin.Re.reNewMatch
  simp only [List.range_zero, List.any_nil, Bool.false_eq_true, if_false, List.flatMap_nil, newTuple, newFields]
  try refine wpAny_bind (wpAny_pure ?_)
  refine wpAny_bind ?_
  refine wpAny_newObj_type ?_ (by size_fits)
  refine wpAny_newObj_type ?_ (by size_fits)
  exact wpAny_pure ⟨_, rfl, hQ _ _ rfl⟩
end Mine
end
section -- Ry
open PySem PySem.W PyProof.Rows
set_option Elab.async false
set_option maxRecDepth 100000
set_option maxHeartbeats 0
namespace Mine
open PySem.Calls
theorem pa_pattern : PlainAttrs "re.Pattern" :=
  ⟨⟨"object.__getattribute__", by rw [typeLookup_type, builtinLookup_eq_fast]; kernel_rfl, by decide +kernel⟩, by rw [typeLookup_type, builtinLookup_eq_fast]; kernel_rfl⟩
theorem type_match : typeOf (.builtin "re.Pattern.match") = pure (.type "method_descriptor") := by show builtinType _ = _; rw [builtinType_eq_fast]; kernel_rfl
theorem nobool_match : typeLookup (.type "re.Match") "__bool__" = pure none := by rw [typeLookup_type, builtinLookup_eq_fast]; kernel_rfl
theorem nolen_match : typeLookup (.type "re.Match") "__len__" = pure none := by rw [typeLookup_type, builtinLookup_eq_fast]; kernel_rfl
section
variable {prog : Program} {w : World} {M : Model} {A : Around} {E : Value → Shared → Prop} {s : Shared} {K : Frag} {h₀ : Heap} {L : Addr} {m : Str → Option Value} {news : List (Addr × Obj)} {v0 v1 v3 v4 : Value} {t2 t6 tk : Tok} {n : Nat} {key : Str}
theorem getMethod_pat {pl : Sem Bool} {Q : Value × List Value → Shared → Prop} (X₀ : K.In h₀) (F : Fr h₀ L s.heap m) (hl : K.lookup 271 = some (patObj v0 v1 v3 v4 t2 t6)) (h : Q (.builtin "re.Pattern.match", [.ref 271]) s) :
    wpAny M A (getMethod (.ref 271) "match" pl) Q E s := by
  have e := (X₀.keeps F.keep) _ _ hl
  exact getMethod_builtin ⟨_, e, rfl⟩ pa_pattern slot_match type_match (fun a ha => by cases ha; exact ⟨_, e, rfl⟩) h
theorem match_callK {Q : Value → Shared → Prop} (X₀ : K.In h₀) (F : Fr h₀ L s.heap m) (N : News h₀ L s.heap news) (hl : K.lookup 271 = some (patObj v0 v1 v3 v4 t2 t6)) (hl2 : K.lookup 270 = some (codeObj n))
    (hn : 1 ≤ key.length) (hb : key.length ≤ 100000) (hall : ∀ c ∈ key.cps.toList, okc c = true)
    (hQ : ∀ a vs h', Fr h₀ L h' m → News h₀ L h' ((a, ({ cls := .type "re.Match", data := .fields vs } : Obj)) :: news) → (∀ p ∈ news, p.1 < a) → Q (.ref a) { s with heap := h' }) :
    wpAny (model prog w) A (call (.builtin "re.Pattern.match") [.ref 271, .str key tk] []) Q E s := by
  refine match_call ((X₀.keeps F.keep) _ _ hl) ((X₀.keeps F.keep) _ _ hl2) hn hb hall fun o1 vs ho1 => ?_
  have F1 := F.push o1
  have N1 : News h₀ L (s.heap.push o1) news := fun p hp => News.push F N o1 ho1 p (.tail _ hp)
  refine hQ _ vs _ (F1.push _) (News.push F1 N1 _ rfl) fun p hp => ?_
  have := Heap.lt_size (N1 p hp).1
  exact this
theorem truthy_match {a : Addr} {vs : Array Value} {Q : Bool → Shared → Prop} (N : News h₀ L s.heap news) (hm : (a, ({ cls := .type "re.Match", data := .fields vs } : Obj)) ∈ news) (h : Q true s) : wpAny M A (truthy (.ref a)) Q E s := by
  have hT : s.TypeIs (.ref a) "re.Match" := ⟨_, (N _ hm).1, rfl⟩
  unfold truthy
  refine wpAny_bind (m := callSpecial? (.ref a) (Str.ofString "__bool__")) (wpAny_callSpecial?_none hT nobool_match ?_)
  refine wpAny_bind (wpAny_specialOf hT nolen_match ?_)
  exact wpAny_pure h
theorem ne_tail {d x : Addr} {news : List (Addr × Obj)} (h : ∀ p ∈ news, p.1 < d) (hx : d ≤ x) : ∀ p ∈ news, p.1 ≠ x := fun p hp => Nat.ne_of_lt (Nat.lt_of_lt_of_le (h p hp) hx)
structure KeyOk (key : Str) : Prop where
  len : key.length ≤ 1000
  pos : 1 ≤ key.length
  chars : ∀ c ∈ key.cps.toList, okc c = true
  strip : Txt.strip key = key
  joined : Txt.join (Str.ofString " ") (Txt.words key) = key
  lower : Txt.lower key = key
  nokw : ∀ k ∈ ([Str.ofString "and", Str.ofString "or", Str.ofString "(", Str.ofString ")", Str.ofString "with"] : List Str), (k == key) = false
theorem strip_key {t : Tok} {Q : Value → Shared → Prop} (hk : KeyOk key) (h : ∀ t' k, Q (.str key t') { s with toks := k }) : wpAny (model prog w) A (call (.builtin "str.strip") [.str key t]) Q E s :=
  KXw.strip hk.strip (Nat.le_trans hk.len (by decide)) h
theorem lower_key {t : Tok} {Q : Value → Shared → Prop} (hk : KeyOk key) (h : ∀ t' k, Q (.str key t') { s with toks := k }) : wpAny (model prog w) A (call (.builtin "str.lower") [.str key t]) Q E s :=
  KXw.lower hk.lower (by rw [hk.lower]; have := hk.len; unfold Builtin.Str.tooLong; simp; unfold sizeLine; omega) h
theorem split_key {t : Tok} {Q : Value → Shared → Prop} (hk : KeyOk key) (F : Fr h₀ L s.heap m) (N : News h₀ L s.heap news)
    (h : ∀ D l h' k, l.map (·.1) = Txt.words key → Fr h₀ L h' m → News h₀ L h' ((D, listOf (strValues l).toArray 0) :: news) → (∀ p ∈ news, p.1 < D) → Q (.ref D) { s with heap := h', toks := k }) :
    wpAny (model prog w) A (call (.builtin "str.split") [.str key t]) Q E s :=
  KSpl.split0 F N (fun D l h' k e _ F' N' l1 => h D l h' k e F' N' l1) (by have := hk.len; unfold sizeLine; omega)
theorem join_key {t : Tok} {D : Addr} {l : List (Str × Tok)} {Q : Value → Shared → Prop} (hk : KeyOk key) (N : News h₀ L s.heap news) (hm : (D, listOf (strValues l).toArray 0) ∈ news) (e : l.map (·.1) = Txt.words key)
    (h : ∀ t' k, Q (.str key t') { s with toks := k }) : wpAny (model prog w) A (call (.builtin "str.join") [.str (Str.ofString " ") t, .ref D]) Q E s := by
  have hl : s.heap.IsList D (strValues l).toArray := ⟨_, (N _ hm).1, rfl, _, rfl⟩
  refine join_listW hl (ys := Txt.words key) (by rw [← e]; exact strsAre_of_values l) (by decide +kernel) ?_ (by rw [hk.joined]; exact h)
  have := StrLaws.words_weight key
  have := hk.len
  omega
theorem in_kw {u : Tok} {t1 t2 t3 t4 t5 : Tok} {c : Nat} {Q : Value → Shared → Prop} (hk : KeyOk key) (X₀ : K.In h₀) (F : Fr h₀ L s.heap m)
    (hl : K.lookup 203 = some ({ cls := .type "tuple", data := .seq #[.str (Str.ofString "and") t1, .str (Str.ofString "or") t2, .str (Str.ofString "(") t3, .str (Str.ofString ")") t4, .str (Str.ofString "with") t5] c } : Obj))
    (h : Q (.bool false) s) : wpAny (model prog w) A (compareOp .In (.str key u) (.ref 203)) Q E s := by
  have e := (X₀.keeps F.keep) _ _ hl
  refine in_tuple_strs (ys := [Str.ofString "and", Str.ofString "or", Str.ofString "(", Str.ofString ")", Str.ofString "with"]) ⟨_, e, rfl, _, rfl⟩ (.cons _ _ (.cons _ _ (.cons _ _ (.cons _ _ (.cons _ _ .nil))))) ?_
  have : (([Str.ofString "and", Str.ofString "or", Str.ofString "(", Str.ofString ")", Str.ofString "with"] : List Str).any (· == key)) = false := by
    rw [List.any_eq_false]
    intro k hk'
    rw [hk.nokw k hk']
    exact Bool.false_ne_true
  rw [this]
  exact h
theorem truthy_378 {c : Nat} {Q : Bool → Shared → Prop} (X₀ : K.In h₀) (F : Fr h₀ L s.heap m) (hl : K.lookup 378 = some ({ cls := .type "tuple", data := .seq #[] c } : Obj)) (h : ∀ tk, Q false { s with toks := tk }) : wpAny (model prog w) A (truthy (.ref 378)) Q E s := by
  have e := (X₀.keeps F.keep) _ _ hl
  exact truthy_tuple (items := #[]) ⟨_, e, rfl, _, rfl⟩ (by decide) (h _)
end
theorem args_oi_1 (obj : Value) : argsOk "object.__init__" ⟨[obj], []⟩ := by unfold argsOk; kernel_rfl
theorem typeCall_tuple_0 : checkTypeCall "tuple" ⟨[], []⟩ = pure () := by kernel_rfl
theorem newCall_tuple_0 : checkBuiltinCall "tuple.__new__" ⟨[.type "tuple"], []⟩ = pure () := by kernel_rfl
theorem meets_tuple_new_0 : Meets (Builtin.«tuple.__new__» ⟨[.type "tuple"], []⟩) (fun _ R s => R (.ok (.ret (.ref s.heap.objs.size))) { s with heap := s.heap.push { cls := .type "tuple", data := .seq #[] } }) :=
  .of_wp fun prog w A R s h => by
    obtain ⟨hp, g, d, tk, os⟩ := s
    have hsub := sub_tuple_self
    have hinit := init_tuple_lookup
    have hmh := madeHere_tuple
    wp_walk
    all_goals first | exact h | exact ⟨_, rfl, h⟩
section
variable {prog : Program} {w : World} {A : Around} {E : Value → Shared → Prop} {s : Shared} {h₀ : Heap} {L : Addr} {m : Str → Option Value} {news : List (Addr × Obj)}
theorem call_tuple0 {Q : Value → Shared → Prop} (F : Fr h₀ L s.heap m) (N : News h₀ L s.heap news)
    (h : ∀ a h', Fr h₀ L h' m → News h₀ L h' ((a, ({ cls := .type "tuple", data := .seq #[] } : Obj)) :: news) → (∀ p ∈ news, p.1 < a) → Q (.ref a) { s with heap := h' }) :
    wpAny (model prog w) A (call (.type "tuple") []) Q E s :=
  callType_new PySem.F.called_tuple (by decide) typeCall_tuple_0 newCall_tuple_0 args_oi_1 PySem.F.entry_tuple_new meets_tuple_new_0
    ⟨⟨_, Heap.get?_push_size _ rfl, rfl⟩, h _ _ (F.push _) (News.push F N _ rfl) fun p hp => Heap.lt_size (N p hp).1⟩
end
end Mine
end
section -- M1
open PySem PySem.W PyProof.Rows
set_option Elab.async false
set_option maxRecDepth 100000
set_option maxHeartbeats 0
namespace Mine
section
variable {prog : Program} {w : World} {A : Around} {E : Value → Shared → Prop} {s : Shared} {h₀ h : Heap} {L D : Addr} {m : Str → Option Value} {news news' : List (Addr × Obj)} {vs : List Value} {y : Value} {n : Nat}
theorem isL (N : News h₀ L s.heap news) (hm : (D, listOf vs.toArray n) ∈ news) : s.heap.IsList D vs.toArray := ⟨_, (N _ hm).1, rfl, _, rfl⟩
theorem tl_truthy {Q : Bool → Shared → Prop} (N : News h₀ L s.heap news) (hm : (D, listOf vs.toArray n) ∈ news) (hz : vs.length ≤ 1000) (h : ∀ k, Q (!vs.isEmpty) { s with toks := k }) :
    wpAny (model prog w) A (truthy (.ref D)) Q E s := by
  refine wpAny_truthy_list (isL N hm) (by simp; omega) ?_
  have e : (!vs.toArray.isEmpty) = !vs.isEmpty := by simp
  rw [e]; exact h _
theorem tl_truthyT {Q : Bool → Shared → Prop} (N : News h₀ L s.heap news) (hm : (D, listOf (vs ++ [y]).toArray n) ∈ news) (hz : vs.length ≤ 900) (h : ∀ k, Q true { s with toks := k }) :
    wpAny (model prog w) A (truthy (.ref D)) Q E s := tl_truthy N hm (by simp; omega) fun k => by
    have e : (!(vs ++ [y]).isEmpty) = true := by cases vs <;> rfl
    rw [e]; exact h k
theorem tl_last {t : Tok} {Q : Value → Shared → Prop} (N : News h₀ L s.heap news) (hm : (D, listOf (vs ++ [y]).toArray n) ∈ news) (h : Q y s) : wpAny (model prog w) A (getItem (.ref D) (.int (-1) t)) Q E s :=
  wpAny_getItem_list_neg (isL N hm) (by decide) (by simp; omega) (by decide) (by
    have e : ((-1 : Int) + ((vs ++ [y]).toArray.size : Int)).toNat = vs.length := by simp; omega
    rw [e]; simp) h
theorem tl_first {t : Tok} {Q : Value → Shared → Prop} (N : News h₀ L s.heap news) (hm : (D, listOf (y :: vs).toArray n) ∈ news) (h : Q y s) : wpAny (model prog w) A (getItem (.ref D) (.int 0 t)) Q E s :=
  wpAny_getItem_list (isL N hm) (by decide) (by decide) (by simp) h
theorem tl_lastS {value slice : PySem.Expr} {t : Tok} {Q : Value → Shared → Prop} (N : News h₀ L s.heap news) (hm : (D, listOf (vs ++ [y]).toArray n) ∈ news) (h : Q y s)
    (hs : subscripted slice false (.ref D) (.int (-1) t) = operate [.ref D, .int (-1) t] (getItem (.ref D) (.int (-1) t)) := by with_unfolding_all rfl) : wpAny (model prog w) A (subscriptTail value slice (.ref D) (.int (-1) t)) Q E s :=
  tail_any (isL N hm).typeIs slot_list_getitem.lookup (tl_last N hm h) hs
theorem tl_firstS {value slice : PySem.Expr} {t : Tok} {Q : Value → Shared → Prop} (N : News h₀ L s.heap news) (hm : (D, listOf (y :: vs).toArray n) ∈ news) (h : Q y s)
    (hs : subscripted slice false (.ref D) (.int 0 t) = operate [.ref D, .int 0 t] (getItem (.ref D) (.int 0 t)) := by with_unfolding_all rfl) : wpAny (model prog w) A (subscriptTail value slice (.ref D) (.int 0 t)) Q E s :=
  tail_any (isL N hm).typeIs slot_list_getitem.lookup (tl_first N hm h) hs
theorem tl_firstG {value slice : PySem.Expr} {t : Tok} {Q : Value → Shared → Prop} (N : News h₀ L s.heap news) (hm : (D, listOf vs.toArray n) ∈ news) (hx : vs.head? = some y) (h : Q y s)
    (hs : subscripted slice false (.ref D) (.int 0 t) = operate [.ref D, .int 0 t] (getItem (.ref D) (.int 0 t)) := by with_unfolding_all rfl) : wpAny (model prog w) A (subscriptTail value slice (.ref D) (.int 0 t)) Q E s := by
  cases vs with
  | nil => cases hx
  | cons z r => cases hx; exact tl_firstS N hm h hs
theorem tl_lastG {value slice : PySem.Expr} {t : Tok} {Q : Value → Shared → Prop} (N : News h₀ L s.heap news) (hm : (D, listOf vs.toArray n) ∈ news) (hx : vs.getLast? = some y) (h : Q y s)
    (hs : subscripted slice false (.ref D) (.int (-1) t) = operate [.ref D, .int (-1) t] (getItem (.ref D) (.int (-1) t)) := by with_unfolding_all rfl) : wpAny (model prog w) A (subscriptTail value slice (.ref D) (.int (-1) t)) Q E s := by
  have e : vs = vs.dropLast ++ [y] := by
    have h1 : vs ≠ [] := fun q => by rw [q] at hx; cases hx
    have h2 := List.dropLast_concat_getLast h1
    rw [List.getLast?_eq_some_getLast h1] at hx
    rw [Option.some.inj hx] at h2
    exact h2.symm
  rw [e] at hm
  exact tl_lastS N hm h hs
theorem last_of : ∀ (p : List Value) (y : Value), kl_last (p ++ [y]) = some (p, y)
  | [], _ => rfl
  | x :: r, y => by
    show (match kl_last (r ++ [y]) with | some (p, z) => some (x :: p, z) | none => some ([], x)) = _
    rw [last_of r y]
theorem tl_pop {Q : Value → Shared → Prop} (F : Fr h₀ L s.heap m) (N : News h₀ L s.heap news) (U : Upd D (listOf (vs ++ [y]).toArray n) (listOf vs.toArray (n + 1)) news news') (hz : vs.length ≤ 900)
    (h : ∀ h', Fr h₀ L h' m → News h₀ L h' news' → Q y { s with heap := h' }) : wpAny (model prog w) A (call (.builtin "list.pop") [.ref D]) Q E s :=
  kl_pop F N (last_of vs y) U (by rw [sizeLine_eq]; simp; omega) h
theorem tl_append {Q : Value → Shared → Prop} (F : Fr h₀ L s.heap m) (N : News h₀ L s.heap news) (U : Upd D (listOf vs.toArray n) (listOf (vs ++ [y]).toArray (n + 1)) news news') (hz : vs.length ≤ 900)
    (h : ∀ h', Fr h₀ L h' m → News h₀ L h' news' → Q .none { s with heap := h' }) : wpAny (model prog w) A (call (.builtin "list.append") [.ref D, y]) Q E s :=
  append_K F N (by have e : vs.toArray.push y = (vs ++ [y]).toArray := by simp
                   rw [e]; exact U) h (by rw [sizeLine_eq]; simp; omega)
theorem tl_clear {Q : Value → Shared → Prop} (F : Fr h₀ L s.heap m) (N : News h₀ L s.heap news) (U : Upd D (listOf vs.toArray n) (listOf #[] (n + 1)) news news') (hne : vs ≠ []) (hz : vs.length ≤ 900)
    (h : ∀ h', Fr h₀ L h' m → News h₀ L h' news' → Q .none { s with heap := h' }) : wpAny (model prog w) A (call (.builtin "list.clear") [.ref D]) Q E s :=
  kl_clear F N U (by simpa using hne) (by rw [sizeLine_eq]; simp; omega) h
end
end Mine
end
section -- J1
open PySem PySem.W PyProof.Rows
set_option Elab.async false
set_option maxRecDepth 100000
set_option maxHeartbeats 0
namespace Mine
def CodeF (oc op : Obj) (c P : Addr) (ps : Array Value) : Prop :=
  ∃ vs file tf flags tg inF text tt, oc.data = .fields vs ∧ vs.getD 11 .none = .ref P ∧ vs.getD 18 .none = .str file tf ∧
    vs.getD 7 .none = .int flags tg ∧ vs.getD 9 .none = .bool inF ∧ vs.getD 10 .none = .int text tt ∧ op.data = .fields ps ∧ PySem.TriplesOk ps.toList ∧ c ≠ P
theorem CodeF.is {h : Heap} {oc op : Obj} {c P : Addr} {ps : Array Value} (x : CodeF oc op c P ps) (h1 : h.get? c = some oc) (h2 : h.get? P = some op) : h.IsCode c P ps :=
  let ⟨vs, file, tf, flags, tg, inF, text, tt, a, b, c1, d, e, f, g, i, j⟩ := x
  ⟨oc, vs, file, tf, flags, tg, inF, text, tt, op, h1, a, b, c1, d, e, f, h2, g, i, j⟩
theorem CodeF.of {h : Heap} {oc : Obj} {c P : Addr} {ps : Array Value} (x : h.IsCode c P ps) (h1 : h.get? c = some oc) : ∃ op, h.get? P = some op ∧ CodeF oc op c P ps := by
  obtain ⟨oc', vs, file, tf, flags, tg, inF, text, tt, op, e, a, b, c1, d, e1, f, h2, g, i, j⟩ := x
  rw [h1] at e; cases e
  exact ⟨op, h2, vs, file, tf, flags, tg, inF, text, tt, a, b, c1, d, e1, f, g, i, j⟩
/-- a generator expression that waits: number g, nothing under K is written by it -/
def GenI (prog : Program) (w : World) (A : Around) (K a : Addr) (g : Nat) (n : Nat) (F : Nat → Value → Prop) (s : Shared) : Prop :=
  ∃ fp wr St, WalksS prog w A.in4 a fp wr (GenOnlyQ g) n F St ∧ St 0 s ∧ (∀ i s', St i s' → s'.TypeIs (.ref a) "generator") ∧ a ∈ fp ∧ (∀ b ∈ fp, b < s.heap.objs.size) ∧ ∀ b ∈ wr, K ≤ b
section
variable {prog : Program} {w : World} {A : Around} {E : Value → Shared → Prop} {s : Shared} {B : Heap} {Li U c P : Addr} {m mg mb : Str → Option Value} {news : List (Addr × Obj)} {l : List Value} {n : Nat} {oc op : Obj} {ps : Array Value}
  {p : Program} {loose : List Str} {mean : ExcName → Option Value}
theorem genexp_N {env : Env} {elt iter : PySem.Expr} {x : Str} {px : Pos} {ifs : List PySem.Expr} {scope : Scope} {cl : List (Str × Addr)} {pos : Pos} {Q : Value → Shared → Prop} {pre post : List (Addr × Obj)} (pz : Nat → Bool) (Fv : Nat → Value → Prop)
    (F : Fr B Li s.heap m) (T : Top p loose mean mg mb B) (N : News B Li s.heap (pre ++ (P, op) :: post)) (hU : (U, listOf l.toArray n) ∈ pre ++ post) (h1 : ∀ q ∈ pre, q.1 ≠ P) (h2 : ∀ q ∈ post, q.1 ≠ P) (hUP : @Ne Nat U P)
    (hcode : env.code = .ref c) (hoc : B.get? c = some oc) (hcf : CodeF oc op c P ps) (hG : AllBare s.gens) (hglob : env.globals = mainGlobals)
    (hit : ∀ Q', Q' (.ref U) s → wpAny (model prog w) A (eval iter env) Q' E s)
    (hq : ∀ (code : Value) (h₃ href : Heap), (∀ b o, b ≠ P → s.heap.get? b = some o → h₃.get? b = some o) → s.heap.objs.size < h₃.objs.size → (∀ b o, h₃.get? b = some o → href.get? b = some o) →
      QuietGen prog w (genEnv scope cl h₃.objs.size code builtinsNs env) x ifs elt (List.range h₃.objs.size) [s.heap.objs.size] (fun i v => l.toArray[i]? = some v) pz Fv href)
    (hQ : ∀ a h' tk gs op' ps', Fr B Li h' m → News B Li h' (pre ++ (P, op') :: post) → CodeF oc op' c P ps' → gs.bare = true → (∀ q ∈ pre ++ (P, op') :: post, q.1 < s.heap.objs.size) →
      GenI prog w A s.heap.objs.size a s.gens.size (passing pz l.length 0).length (fun j y => ∃ i, (passing pz l.length 0)[j]? = some i ∧ Fv i y) { s with heap := h', gens := s.gens.push gs, toks := tk } → Q (.ref a) { s with heap := h', gens := s.gens.push gs, toks := tk })
    (hh : A.handled = none) (hco : scope.isCoroutine = false) (hclos : closureFor scope env = pure cl) (hcell : ∀ y ∈ scope.names, y.2 ≠ .cell) (h0 : scope.names.lookup (".0" : Str) = some NameKind.local)
    (hx : scope.names.lookup x = some .local) (hkind : scope.kind = .function) (hroom : A.depth < recursionLimit)
    (hs : ∀ x, genFold iter env x = pure x) :
    wpAny (model prog w) A (eval (.GeneratorExp elt [⟨.Name x px, iter, ifs, 0⟩] scope pos) env) Q E s := by
  have hmem : ∀ q ∈ pre ++ post, q ∈ pre ++ (P, op) :: post := fun q hq' => (List.mem_append.mp hq').elim (fun h => List.mem_append.mpr (.inl h)) fun h => List.mem_append.mpr (.inr (.tail _ h))
  have hl : s.heap.IsList U l.toArray := isL N (hmem _ hU)
  have hPm : (P, op) ∈ pre ++ (P, op) :: post := List.mem_append.mpr (.inr (.head _))
  have hPlt : P < s.heap.objs.size := Heap.lt_size (N _ hPm).1
  have hUlt : U < s.heap.objs.size := Heap.lt_size (N _ (hmem _ hU)).1
  have hnl : s.heap.NoLimit := T.nolimit.keeps F.keep
  obtain ⟨bm, ob, M⟩ := bmod_of_top T
  have BP : B.get? P = none := (N _ hPm).2.2
  have hcP : cStatics ≠ P := fun e => by
    obtain ⟨_, hns, _⟩ := T.nolimit
    obtain ⟨o, es, ep, ho, hd, _⟩ := hns
    rw [e, BP] at ho; cases ho
  refine wpAny_GeneratorExp_walksQ hh hco hclos hcell h0 hx hkind hroom (hit _ (wpAny_pyIter_list hl ?_)) hs
  have up : ∀ b o, s.heap.get? b = some o → (s.heap.push { cls := .type "list_iterator", data := .fields #[.ref U, .int 0 0] }).get? b = some o := fun b o e => Heap.get?_push_of_some _ e
  refine ⟨hnl.push _, wpAny_genexprCode hcode (hcf.is (up _ _ (F.keep _ _ hoc)) (up _ _ (N _ hPm).1)) fun code h₃ tk₃ ps' hx₃ hcode₃ => ?_⟩
  have hsz3 : (s.heap.push { cls := .type "list_iterator", data := .fields #[.ref U, .int 0 0] }).objs.size = s.heap.objs.size + 1 := Heap.size_push ..
  have up3 : ∀ b o, b ≠ P → s.heap.get? b = some o → h₃.get? b = some o := fun b o hb e => hx₃ b o hb (up b o e)
  have hI3 : h₃.get? s.heap.objs.size = some { cls := .type "list_iterator", data := .fields #[.ref U, .int 0 0] } := hx₃ _ _ (fun e => absurd hPlt (e ▸ Nat.lt_irrefl _)) (Heap.get?_push_size _ rfl)
  have hsz : s.heap.objs.size < h₃.objs.size := Heap.lt_size hI3
  have kB3 : ∀ b o, B.get? b = some o → h₃.get? b = some o := fun b o e => up3 b o (fun q => by rw [q, BP] at e; cases e) (F.keep b o e)
  have M₃ : BMod h₃ env.globals mg bm ob := hglob ▸ M.keeps kB3
  have hl₃ : h₃.NoLimit := (hnl.push _).extBut hx₃ hcP
  refine wpAny_builtinsFor M₃.ns M₃.name M₃.ne M₃.obj M₃.cls M₃.dict M₃.data ?_
  have hcs : cStatics < s.heap.objs.size := let ⟨_, hn, _⟩ := hnl; hn.lt
  refine ⟨s.heap.objs.size, [s.heap.objs.size, U], [s.heap.objs.size], l.toArray.size, _, _, pz, Fv, rfl, (fun A' hA => Walks.list hA _ _ (Nat.ne_of_lt hUlt) l.toArray), ⟨⟨_, hI3, rfl, rfl⟩, ?_⟩, ?_, hl₃, ?_, fun href hhref => hq _ h₃ href up3 hsz hhref, fun a h₅ tk gs hgb hag hsz₅ hk₅ W hat => ?_⟩
  · exact ⟨_, up3 _ _ hUP (N _ (hmem _ hU)).1, rfl, _, rfl⟩
  · intro b hb
    show b < h₃.objs.size
    rcases List.mem_cons.mp hb with rfl | hb
    · exact hsz
    · rcases List.mem_cons.mp hb with rfl | hb
      · exact Nat.lt_trans hUlt hsz
      · cases hb
  · intro hb
    rcases List.mem_cons.mp hb with e | hb
    · exact absurd (e ▸ hcs) (Nat.lt_irrefl _)
    · cases hb
  · obtain ⟨op', hop', hcf'⟩ := CodeF.of hcode₃ (kB3 _ _ hoc)
    have hLP : Li ≠ P := fun e => (N _ hPm).2.1 e.symm
    have F' : Fr B Li h₅ m := ⟨(F.ns.at' fun o e => hk₅ _ o (up3 _ o hLP e)), fun b o e => hk₅ b o (kB3 b o e), F.above⟩
    have N' : News B Li h₅ (pre ++ (P, op') :: post) := fun q hq' => by
      rcases List.mem_append.mp hq' with hq' | hq'
      · have z := N q (List.mem_append.mpr (.inl hq'))
        exact ⟨hk₅ _ _ (up3 _ _ (h1 q hq') z.1), z.2⟩
      · rcases List.mem_cons.mp hq' with rfl | hq'
        · exact ⟨hk₅ _ _ hop', (N _ hPm).2⟩
        · have z := N q (List.mem_append.mpr (.inr (.tail _ hq')))
          exact ⟨hk₅ _ _ (up3 _ _ (h2 q hq') z.1), z.2⟩
    have hlt : ∀ q ∈ pre ++ (P, op') :: post, q.1 < s.heap.objs.size := fun q hq' => by
      rcases List.mem_append.mp hq' with hq' | hq'
      · exact Heap.lt_size (N q (List.mem_append.mpr (.inl hq'))).1
      · rcases List.mem_cons.mp hq' with rfl | hq'
        · exact hPlt
        · exact Heap.lt_size (N q (List.mem_append.mpr (.inr (.tail _ hq')))).1
    simp only [List.size_toArray] at W hat
    refine hQ a h₅ tk gs op' ps' F' N' hcf' hgb hlt ⟨_, _, _, W, hat, (fun i s' (st : GenAt prog w A.in4 a s.gens.size h₃.objs.size (List.range h₃.objs.size) [s.heap.objs.size] pz l.length Fv i s') => st.1.typeIs), List.mem_cons_self, ?_, ?_⟩
    · intro b hb
      show b < h₅.objs.size
      have hag' : h₃.objs.size < a := hag
      rw [hsz₅]
      rcases List.mem_cons.mp hb with rfl | hb
      · exact Nat.lt_succ_self _
      · rcases List.mem_cons.mp hb with rfl | hb
        · exact Nat.lt_succ_of_lt hag'
        · exact Nat.lt_succ_of_lt (Nat.lt_trans (List.mem_range.mp hb) hag')
    · intro b hb
      rcases List.mem_cons.mp hb with rfl | hb
      · exact Nat.le_of_lt hsz
      · rcases List.mem_cons.mp hb with rfl | hb
        · exact Nat.le_refl _
        · cases hb
theorem join_N {sep : Str} {t : Tok} {a K : Addr} {g k : Nat} {Fv : Nat → Value → Prop} {Q : Value → Shared → Prop} (F : Fr B Li s.heap m) (N : News B Li s.heap news) (hlt : ∀ q ∈ news, q.1 < K) (hK : Li < K) (X : GenI prog w A K a g k Fv s) (tx : List Str) (hk : k = tx.length)
    (htx : ∀ j v, Fv j v → ∃ u y, tx[j]? = some y ∧ v = .str y u) (hok : JoinOk sep tx = true) (hG : AllBare s.gens)
    (hQ : ∀ h' tk gens' t', Fr B Li h' m → News B Li h' news → AllBare gens' → (∀ j, j ≠ g → gens'[j]? = s.gens[j]?) → gens'.size = s.gens.size → Q (.str (Txt.join sep tx) t') { s with heap := h', gens := gens', toks := tk })
    (hsz : k ≤ 1000) : wpAny (model prog w) A (call (.builtin "str.join") [.str sep t, .ref a]) Q E s := by
  obtain ⟨fp, wr, St, W, hst, hT, ha, hfp, hwr⟩ := X
  have W := W.in4_2
  refine SC.joinGen W hT hst hfp ha (fun j v hv => let ⟨u, y, _, e⟩ := htx j v hv; ⟨y, u, e⟩) (fun s' lt hm hacc => ?_) (by rw [sizeLine_eq]; omega)
  have hl : lt.map (·.1) = tx := by
    apply List.ext_getElem?
    intro j
    have hsz : lt.length = k := by simpa [strValues] using hacc.1
    by_cases hj : j < k
    · have hj' : j < lt.length := hsz ▸ hj
      obtain ⟨u, y, hy, hv⟩ := htx j _ (hacc.2 j (.str lt[j].1 lt[j].2) (by simp [strValues, List.getElem?_eq_getElem hj']))
      injection hv with h1 _
      rw [hy]
      simp [List.getElem?_eq_getElem hj', h1]
    · rw [List.getElem?_eq_none (by simpa [hsz] using Nat.le_of_not_lt hj), List.getElem?_eq_none (by omega)]
  rw [hl]
  have off : ∀ b, b < K → b ∉ wr := fun b hb hm' => absurd (hwr b hm') (Nat.not_le.mpr hb)
  have kB : ∀ b o, B.get? b = some o → b < K := fun b o e => Nat.lt_of_lt_of_le (Heap.lt_size e) (Nat.le_trans F.above (Nat.le_of_lt hK))
  have F' : Fr B Li s'.heap m := ⟨F.ns.at' fun o e => hm.heap _ o (off _ hK) e, fun b o e => hm.heap b o (off b (kB b o e)) (F.keep b o e), F.above⟩
  have N' : News B Li s'.heap news := fun q hq' => ⟨hm.heap _ _ (off _ (hlt q hq')) (N q hq').1, (N q hq').2⟩
  refine ⟨hok, fun t' tk => ?_⟩
  have hg : AllBare s'.gens := hG.moved hm.gens
  have h1 : ∀ j, j ≠ g → s'.gens[j]? = s.gens[j]? := fun j hj => by
    rcases hm.gens with e | ⟨e, _⟩
    · rw [e]
    · exact e.2 j hj
  have h2 : s'.gens.size = s.gens.size := by
    rcases hm.gens with e | ⟨e, _⟩
    · rw [e]
    · exact e.1
  have z := hQ s'.heap tk s'.gens t' F' N' hg h1 h2
  have e : ({ s' with toks := tk } : Shared) = { s with heap := s'.heap, gens := s'.gens, toks := tk } := by
    have a := hm.os; have b := hm.drawn
    cases s'; cases s; simp_all
  rw [e]; exact z
end
end Mine
end
section -- N1
open PySem PySem.W PyProof.Rows
set_option Elab.async false
set_option maxRecDepth 100000
set_option maxHeartbeats 12000000
namespace Mine
section
variable {M : Model} {A : Around} {E : Value → Shared → Prop} {s : Shared} {h₀ : Heap} {L a c P : Addr} {m mg mb : Str → Option Value} {cn : Str} {cs : Scope} {ccd : Value} {cl : List (Str × Addr)} {news : List (Addr × Obj)} {g : Obj → List (Addr × Obj)}
  {p : Program} {loose : List Str} {mean : ExcName → Option Value} {name qual : Str} {params : Arguments} {body : List Stmt} {scope : Scope} {ps : Array Value} {pos : Pos} {firstLine : Nat} {q : Str × Addr} {r : List (Str × Addr)}
/-- a nested def with a closure: its code's own table stays in sight -/
theorem nest_P {Q : Value → Shared → Prop} (F : Fr h₀ L s.heap m) (N : News h₀ L s.heap news) (T : Top p loose mean mg mb h₀) (C : CodeHd h₀ c P) (hcd : ccd = .ref c) (U : UpdF P (tabObj ps) news g) (ht : TriplesOk ps.toList) (hnf : codeAmong pos ps.toList = none)
    (hcl : closureFor scope (envX cn cs L a ccd cl) = pure (q :: r)) (hdoc : docOf body = none)
    (h : ∀ f c' oc P' op' vs t ctv h' tk, Fr h₀ L h' m →
      News h₀ L h' ((f, fnMade name qual params body scope (q :: r) .none ((mg "__name__").getD .none) c' ctv) :: (c', oc) :: (P', op') :: g (tabObj (ps ++ #[rawInt pos.line, rawInt pos.col, .ref c']))) →
      oc.data = .fields vs → vs[1]? = some (.str qual t) → CodeF oc op' c' P' #[] → (∀ q ∈ news, q.1 < c') → (∀ q ∈ news, q.1 < P') → c' < f → P' < f → Q (.ref f) { s with heap := h', toks := tk }) :
    wpAny M A (makeFunction name qual params (.stmts body) scope (envX cn cs L a ccd cl) [] [] [] pos firstLine) Q E s := by
  obtain ⟨own, rest, rfl, hgr, h1, h2⟩ := U.split
  have hm := N (P, tabObj ps) (List.mem_append_right _ (.head _))
  have hgs := T.g.keeps F.keep
  obtain ⟨bm, ob, b1, b2, b3, b4, b5, b6⟩ := T.bmain
  have hgP : mainGlobals ≠ P := fun q => by
    obtain ⟨o, es, ep, e, hd, _⟩ := hgs
    rw [q, hm.1] at e; cases e; cases hd
  have hbP : bm ≠ P := fun q => by
    have e := F.keep _ _ b3
    rw [q, hm.1] at e; cases e; cases b4
  rw [makeFunction_eq]
  simp only [List.zip_nil_right, List.filterMap_nil, List.isEmpty_nil, if_true, pure_bind]
  have Cs := C.keeps F.keep
  unfold makeTail
  rw [hcl, show (envX cn cs L a ccd cl).globals = mainGlobals from rfl]
  refine wpAny_bind (wpAny_pure ?_)
  simp only [List.isEmpty_cons, Bool.false_eq_true, if_false]
  refine wpAny_bind (wpAny_newTextTuple ?_)
  refine wpAny_bind (wpAny_functionCodeX hcd ((Cs.keeps fun b o e => Heap.get?_push_of_some _ e).code (Heap.get?_push_of_some _ hm.1) ht) ((Cs.keeps fun b o e => Heap.get?_push_of_some _ e).tab (Heap.get?_push_of_some _ hm.1)) hnf fun c' h' tk hx hge hlt _ hrec htb hown => ?_)
  have hg' := (hgs.push _).extBut hx hgP
  have hx' : Heap.ExtBut P s.heap h' := fun b o hb' e => hx b o hb' (Heap.get?_push_of_some _ e)
  have hge' : s.heap.objs.size ≤ c' := Nat.le_trans (by rw [Heap.size_push]; omega) hge
  refine wpAny_bind (wpAny_builtinsFor hg' b1 b2 (hx' _ _ hbP (F.keep _ _ b3)) b4 b5 b6 ?_)
  refine wpAny_bind (wpAny_nsGet hg' ?_)
  simp only [hdoc]
  refine wpAny_bind (wpAny_pure (wpAny_newObj_type ?_ (by size_fits)))
  obtain ⟨c₂, oc, vs, t, e2, hoc, hd, hv⟩ := hrec
  cases e2
  obtain ⟨P', hP', hisc, _⟩ := hown
  have hP'' : s.heap.objs.size ≤ P' := Nat.le_trans (by rw [Heap.size_push]; omega) hP'
  obtain ⟨op', hop', hcf⟩ := CodeF.of hisc hoc
  have hLs : L < s.heap.objs.size := F.ns.lt
  have hLc : L < c' := Nat.lt_of_lt_of_le hLs hge'
  have hLP : L < P' := Nat.lt_of_lt_of_le hLs hP''
  have hPf : P' < h'.objs.size := Heap.lt_size hop'
  have old : ∀ b o, h₀.get? b = some o → h'.get? b = some o := fun b o e => hx' b o (fun q => by rw [q, hm.2.2] at e; cases e) (F.keep b o e)
  have fresh : ∀ b, L < b → h₀.get? b = none := fun b hb => Heap.get?_none_of_le (Nat.le_trans F.above (Nat.le_of_lt hb))
  refine h h'.objs.size c' oc P' op' vs t (.ref s.heap.objs.size) _ tk ⟨(F.ns.extBut hx' hm.2.1.symm).push _, fun b o e => Heap.get?_push_of_some _ (old b o e), F.above⟩ ?_ hd hv hcf
    (fun q hq => Nat.lt_of_lt_of_le (Heap.lt_size (N q hq).1) hge') (fun q hq => Nat.lt_of_lt_of_le (Heap.lt_size (N q hq).1) hP'') hlt hPf
  intro q hq
  rcases List.mem_cons.mp hq with rfl | hq
  · exact ⟨Heap.get?_push_size _ rfl, Nat.ne_of_gt (Nat.lt_trans hLc hlt), fresh _ (Nat.lt_trans hLc hlt)⟩
  · rcases List.mem_cons.mp hq with rfl | hq
    · exact ⟨Heap.get?_push_of_some _ hoc, Nat.ne_of_gt hLc, fresh _ hLc⟩
    · rcases List.mem_cons.mp hq with rfl | hq
      · exact ⟨Heap.get?_push_of_some _ hop', Nat.ne_of_gt hLP, fresh _ hLP⟩
      · rw [hgr] at hq
        rcases List.mem_append.mp hq with hq | hq
        · have n := N q (List.mem_append_left _ hq)
          exact ⟨Heap.get?_push_of_some _ (hx' _ _ (h1 q hq) n.1), n.2⟩
        · rcases List.mem_cons.mp hq with rfl | hq
          · exact ⟨Heap.get?_push_of_some _ htb.2, hm.2⟩
          · have n := N q (List.mem_append_right _ (.tail _ hq))
            exact ⟨Heap.get?_push_of_some _ (hx' _ _ (h2 q hq) n.1), n.2⟩
end
end Mine
end
section -- G1
open PySem PySem.W PyProof.Rows
set_option Elab.async false
set_option maxRecDepth 100000
set_option maxHeartbeats 0
namespace Mine
open PySem.W.X (SegX s_call s_again s_pop s_end s_yield s_cmd wake_any)
/-- a smaller around says more -/
theorem wpLess {M : Model} {A A' : Around} {α : Type} {t : Sem α} {Q : α → Shared → Prop} {E : Value → Shared → Prop} {s : Shared}
    (hh : A'.handled = A.handled) (hd : A'.depth ≤ A.depth) (hf : A.frames = none ∨ A'.frames = A.frames) (hg : A.guards = none ∨ A'.guards = A.guards) (hu : A'.units ≤ A.units)
    (h : wpAny M A t Q E s) : wpAny M A' t Q E s := fun Γ p hΓ =>
  h Γ p ⟨hΓ.1.trans hh, Nat.le_trans hΓ.2.1 hd, fun l hl => hΓ.2.2.1 l (by rcases hf with e | e; (rw [e] at hl; cases hl); rw [e]; exact hl),
    fun g hl => hΓ.2.2.2.1 g (by rcases hg with e | e; (rw [e] at hl; cases hl); rw [e]; exact hl), Nat.le_trans hΓ.2.2.2.2 hu⟩
structure LessA (A' A : Around) : Prop where
  hh : A'.handled = A.handled
  hd : A'.depth ≤ A.depth
  hf : A.frames = none ∨ A'.frames = A.frames
  hg : A.guards = none ∨ A'.guards = A.guards
  hu : A'.units ≤ A.units
theorem wokenLess {Γ : Ctx} {A A' : Around} (l : LessA A' A) (hΓ : Γ.Woken A') : Γ.Woken A :=
  ⟨⟨hΓ.1.1.trans l.hh, Nat.le_trans hΓ.1.2.1 l.hd, fun f hl => hΓ.1.2.2.1 f (by rcases l.hf with e | e; (rw [e] at hl; cases hl); rw [e]; exact hl),
    fun g hl => hΓ.1.2.2.2.1 g (by rcases l.hg with e | e; (rw [e] at hl; cases hl); rw [e]; exact hl), Nat.le_trans hΓ.1.2.2.2.2 l.hu⟩, hΓ.2⟩
theorem segLess {M : Model} {A A' : Around} {c : Code} {t : Sem Fin} {fs : List Frame} {s : Shared} {P : End → Shared → Prop} (l : LessA A' A) (h : SegX M A c t fs s P) : SegX M A' c t fs s P :=
  fun Γ p hc hΓ => h Γ p hc (wokenLess l hΓ)
section
variable {M : Model} {A : Around} {c : Code} {fs : List Frame} {P : End → Shared → Prop} {s : Shared}
theorem sx_wrap {α : Type} {m : Sem α} {K : α → Sem Fin} {H : Value → Sem Fin} {gd : Bool → Bool} {lv : List Value → List Value}
    (h : wpAny M (A.over c fs) m (fun a s' => SegX M A c (K a) fs s' P) (fun x s' => SegX M A c (H x) fs s' P) s) : SegX M A c (m.wrap K H gd lv) fs s P := by
  rintro Γ p rfl hΓ
  obtain ⟨e, s', hr, hq⟩ := runs_wrap_of_wp (Φ := fun e s' => e.quiet = true ∧ P e s') K H gd lv m (h (Γ.over fs) p (hΓ.over fs)) (fun a p' s' h' => h' Γ p' rfl hΓ) (fun x p' s' h' => h' Γ p' rfl hΓ)
  exact ⟨e, s', hr, hq⟩
/-- a command that does not raise -/
theorem sx_wrapF {α : Type} {m : Sem α} {K : α → Sem Fin} {H : Value → Sem Fin} {gd : Bool → Bool} {lv : List Value → List Value}
    (h : wpAny M (A.over c fs) m (fun a s' => SegX M A c (K a) fs s' P) (fun _ _ => False) s) : SegX M A c (m.wrap K H gd lv) fs s P :=
  sx_wrap (wpAny_mono h (fun _ _ x => x) fun _ _ x => x.elim)
theorem sx_bw {α β : Type} {m : Sem α} {k : α → Sem β} {K : β → Sem Fin} {H : Value → Sem Fin} {gd : Bool → Bool} {lv : List Value → List Value}
    (h : wpAny M (A.over c fs) m (fun a s' => SegX M A c ((k a).wrap K H gd lv) fs s' P) (fun _ _ => False) s) : SegX M A c ((m >>= k).wrap K H gd lv) fs s P := by
  rw [Sem.bind_eq_wrap', Sem.wrap_wrap]; exact sx_wrapF h
theorem sx_at {p' : Pos} {k : Unit → Sem Fin} (h : SegX M A c (k ()) fs s P) : SegX M A c (.at p' k) fs s P :=
  sx_wrap (m := standAt p') (K := k) (H := .raise) (gd := id) (lv := id) (wpAny_standAt h)
theorem sx_point {l : List Value} {k : Unit → Sem Fin} (h : SegX M A c (k ()) fs s P) : SegX M A c (.point l k) fs s P :=
  sx_wrap (m := point) (K := k) (H := .raise) (gd := id) (lv := fun _ => l) (wpAny_point h)
theorem sx_callM {c' : Code} {h : Option Value} {g : Bool} {l : List Value} {k : Result → Sem Fin} (x : ∀ p, SegX M A c' (M.den c') (.ret k h g l c p [] :: fs) s P) : SegX M A c (.call c' h g l k) fs s P := by
  rintro Γ p rfl hΓ
  obtain ⟨e, s', hr, hq⟩ := x p (Γ.goto c') p rfl (hΓ.goto c')
  exact ⟨e, s', runs_call_seg hr, hq⟩
theorem sx_againM {c' : Code} (hq : c'.quiet = true) (x : SegX M A c' (M.den c') fs s P) : SegX M A c (.pure (.again c')) fs s P := by
  rintro Γ p rfl hΓ
  obtain ⟨e, s', hr, hq'⟩ := x (Γ.goto c') p rfl (hΓ.goto c')
  exact ⟨e, s', Runs.head (c₁ := c') (fun _ _ y => .again hq y) hr, hq'⟩
theorem sx_pop {r : Result} {k : Result → Sem Fin} {h : Option Value} {g : Bool} {l : List Value} {c₁ : Code} {p₁ : Pos} {kp} (x : SegX M A c₁ (k r) fs s P) : SegX M A c (leafOf r) (.ret k h g l c₁ p₁ kp :: fs) s P := by
  rintro Γ p rfl hΓ
  obtain ⟨e, s', hr, hq⟩ := x (Γ.goto c₁) p₁ rfl (hΓ.goto c₁)
  exact ⟨e, s', Runs.pop r hr, hq⟩
theorem sx_end {r : Result} (x : P (.ret r) s) : SegX M A c (leafOf r) [] s P := by
  rintro Γ p rfl _
  exact ⟨.ret r, s, Runs.leaf r, rfl, x⟩
variable {env : Env} {K : Flow → Sem Fin} {H : Value → Sem Fin} {gd : Bool → Bool} {lv : List Value → List Value}
theorem sx_nil (h : SegX M A c (K .next) fs s P) : SegX M A c ((execs [] env).wrap K H gd lv) fs s P := h
theorem sx_cons {st : Stmt} {rest : List Stmt}
    (h : SegX M A c ((exec st env).wrap (fun f => match f with | .next => (execs rest env).wrap K H gd lv | f => K f) H gd lv) fs s P) :
    SegX M A c ((execs (st :: rest) env).wrap K H gd lv) fs s P := by rw [execs_cons_wrap]; exact h
/-- a statement without a yield, at the head of a row -/
theorem sx_stmt {st : Stmt} {rest : List Stmt} (h : wpAny M (A.over c fs) (exec st env) (fun f s' => f = .next ∧ SegX M A c ((execs rest env).wrap K H gd lv) fs s' P) (fun _ _ => False) s) :
    SegX M A c ((execs (st :: rest) env).wrap K H gd lv) fs s P :=
  sx_cons (sx_wrapF (wpAny_mono h (fun f s' x => by obtain ⟨rfl, x⟩ := x; exact x) fun _ _ x => x))
theorem sx_If {test : Expr} {body orelse : List Stmt} {pos : Pos}
    (h : wpAny M (A.over c fs) (isTrue test env (eval test env)) (fun b s' => (b = true → SegX M A c ((execs body env).wrap K H gd lv) fs s' P) ∧ (b = false → SegX M A c ((execs orelse env).wrap K H gd lv) fs s' P)) (fun _ _ => False) s) :
    SegX M A c ((exec (.If test body orelse pos) env).wrap K H gd lv) fs s P := by
  rw [exec_If]
  refine sx_bw (wpAny_standAt (sx_bw (wpAny_mono h (fun b s' x => ?_) fun _ _ x => x)))
  cases b with
  | true => exact x.1 rfl
  | false => exact x.2 rfl
theorem sx_Yield {e : Expr} {ypos pos : Pos} (hfs : splitAtGen fs = none) (hgd : gd false = false) (hfg : fs.any Frame.guarded = false)
    (h : wpAny M (A.over c fs) (eval e env) (fun v s' => ∀ k l p, (∀ s'' P', SegX M A c (K .next) fs s'' P' → SegX M A c (k (.send .none)) fs s'' P') → P (.susp v false l k c p fs) s') (fun _ _ => False) s)
    (hco : env.scope.isCoroutine = false := by rfl) (hi : interactive env = false := by rfl) :
    SegX M A c ((exec (.Expr (.Yield (some e) ypos) pos) env).wrap K H gd lv) fs s P := by
  rw [exec_Expr env _ pos hi rfl]
  show SegX M A c (.at pos fun _ => ((eval e env >>= fun v => (standAt ypos >>= fun _ => yieldOut env v)) >>= fun x =>
    dropValue (.Yield (some e) ypos) pos x).wrap K H gd lv) fs s P
  have hy : ∀ v, yieldOut env v = yieldValue v := fun v => by simp only [yieldOut, hco, Bool.false_eq_true, if_false]
  simp only [hy]
  refine sx_at ?_
  rw [Sem.bind_eq_wrap', Sem.bind_eq_wrap', Sem.wrap_wrap, Sem.wrap_wrap]
  refine sx_wrapF (wpAny_mono h (fun v s' h' => ?_) fun _ _ x => x)
  refine sx_at ?_
  show SegX M A c (Sem.yield v (gd false) _ _) fs s' P
  rw [hgd]
  rintro Γ p rfl _
  exact ⟨_, s', Runs.yield' fs hfs, by simp [End.quiet, hfg], h' _ _ p fun s'' P' hx => hx⟩
end
section
variable {prog : Program} {w : World} {A : Around} {c : Code} {fs : List Frame} {P : End → Shared → Prop} {s : Shared} {env : Env} {K : Flow → Sem Fin} {H : Value → Sem Fin} {gd : Bool → Bool} {lv : List Value → List Value}
def forBack (env : Env) (K : Flow → Sem Fin) (H : Value → Sem Fin) (gd : Bool → Bool) (lv : List Value → List Value) (r : Result) : Sem Fin :=
  ((match r with | .ok f => (.pure f : Sem Flow) | .error e => .raise e).onRaise fun (x : Value) => do
        if (← field x 1) == Value.none then unsupported "frame.own-activation:exception-without-traceback"
        setFlight x env.frame).wrap K H gd lv
theorem forBack_ok (f : Flow) : forBack env K H gd lv (.ok f) = K f := rfl
theorem sx_For {target iter : Expr} {body : List Stmt} {pos : Pos}
    (h : wpAny (model prog w) (A.over c fs) (eval iter env) (fun x s₁ => wpAny (model prog w) (A.over c fs) (pyIter x) (fun it s₂ =>
      ∀ p, SegX (model prog w) A (.forLoop target it body [] env) ((model prog w).den (.forLoop target it body [] env)) (.ret (forBack env K H gd lv) none (gd false) (lv []) c p [] :: fs) s₂ P) (fun _ _ => False) s₁) (fun _ _ => False) s)
    (hs : ∀ x, foldedSetIterable iter env x = pure x := by intro _; rfl) :
    SegX (model prog w) A c ((exec (.For target iter body [] pos) env).wrap K H gd lv) fs s P := by
  rw [exec_For]
  refine sx_bw (wpAny_standAt (sx_bw (wpAny_mono h (fun x s₁ h₁ => ?_) fun _ _ x => x)))
  refine sx_bw (wpAny_of_eq (hs x) (sx_bw (wpAny_standAt (sx_bw (wpAny_holding (wpAny_mono h₁ (fun it s₂ h₂ => ?_) fun _ _ x => x))))))
  exact sx_callM h₂
def turnK (target : Expr) (it : Value) (body : List Stmt) (env : Env) (f : Flow) : Sem Fin := match f with
  | .next | .cont => .pure (.again (.forLoop target it body [] env))
  | .brk => .pure (.done .next)
  | .ret v => .pure (.done (.ret v))
def turnH (env : Env) (x : Value) : Sem Fin := (do noteFrame x env; theTreesLotGoes x : Sem Unit).bind fun _ => .raise x
theorem sx_turn {target : Expr} {it : Value} {body : List Stmt} {k : Result → Sem Fin} {hd : Option Value} {g : Bool} {l : List Value} {c₁ : Code} {p₁ : Pos} {kp : List Value}
    (h : wpAny (model prog w) (A.over (.forLoop target it body [] env) (.ret k hd g l c₁ p₁ kp :: fs)) (pyNext it) (fun r s₁ => match r with
      | none => SegX (model prog w) A c₁ (k (.ok .next)) fs s₁ P
      | some v => wpAny (model prog w) (A.over (.forLoop target it body [] env) (.ret k hd g l c₁ p₁ kp :: fs)) (assign target env v) (fun _ s₂ =>
          SegX (model prog w) A (.forLoop target it body [] env) ((execs body env).wrap (turnK target it body env) (turnH env) id id) (.ret k hd g l c₁ p₁ kp :: fs) s₂ P) (fun _ _ => False) s₁) (fun _ _ => False) s)
    (ht : ∀ v, letOwnedTupleGo target it v = pure () := by intro _; rfl) :
    SegX (model prog w) A (.forLoop target it body [] env) ((model prog w).den (.forLoop target it body [] env)) (.ret k hd g l c₁ p₁ kp :: fs) s P := by
  show SegX _ A _ ((forTurn target it body [] env).onRaise (fun x => do noteFrame x env; theTreesLotGoes x)) _ s P
  rw [Sem.onRaise_eq_wrap]
  unfold forTurn
  refine sx_bw (wpAny_standAt (sx_bw (wpAny_onRaise (wpAny_mono h (fun r s₁ h₁ => ?_) fun _ _ x => x.elim))))
  cases r with
  | none =>
    refine sx_againM rfl ?_
    show SegX _ A _ (.pure (.done .next)) _ s₁ P
    exact sx_pop (r := .ok .next) h₁
  | some v =>
    refine sx_bw (wpAny_of_eq (ht v) (sx_bw (wpAny_mono h₁ (fun _ s₂ h₂ => ?_) fun _ _ x => x)))
    rw [Sem.bind_eq_wrap', Sem.wrap_wrap]
    rw [Sem.wrap_congr (execs body env) _ _ (K' := turnK target it body env) (H' := turnH env) (fun f => by cases f <;> rfl) (fun e => by rfl)]
    exact h₂
theorem sx_func {body : List Stmt}
    (h : SegX (model prog w) A (.func body env) ((execs body env).wrap (fun f => .pure (.done (.ret (match f with | .ret v => v | _ => .none))))
      (fun e => (leaving env e).wrap (fun _ => .raise e) .raise id id) id id) fs s P) :
    SegX (model prog w) A (.func body env) ((model prog w).den (.func body env)) fs s P := by
  show SegX (model prog w) A (.func body env) (.point [] fun _ => ((execs body env).onRaise (leaving env)) >>= _) fs s P
  refine sx_point ?_
  rw [Sem.onRaise_eq_wrap, Sem.bind_eq_wrap', Sem.wrap_wrap]
  rw [Sem.wrap_congr (execs body env) _ _ (K' := fun f => .pure (.done (.ret (match f with | .ret v => v | _ => .none))))
    (H' := fun e => (leaving env e).wrap (fun _ => .raise e) .raise id id) (fun f => by cases f <;> rfl)
    (fun e => by rw [Sem.bind_eq_wrap, Sem.wrap_wrap]; rfl)]
  exact h
end
end Mine
end
section -- G2
open PySem PySem.W PyProof.Rows
set_option Elab.async false
set_option maxRecDepth 100000
set_option maxHeartbeats 0
namespace Mine
open PySem.W.X (SegX wake_any)
structure Kp (g : Nat) (cm : List Addr) (s s' : Shared) : Prop where
  os : s'.os = s.os
  drawn : s'.drawn = s.drawn
  cms : ∀ b ∈ cm, s'.heap.get? b = s.heap.get? b
  gens : ∀ k, k ≤ g → s'.gens[k]? = s.gens[k]?
  gsize : s.gens.size ≤ s'.gens.size
  bare : AllBare s.gens → AllBare s'.gens
theorem Kp.refl (g : Nat) (cm : List Addr) (s : Shared) : Kp g cm s s := ⟨rfl, rfl, fun _ _ => rfl, fun _ _ => rfl, Nat.le_refl _, fun x => x⟩
theorem Kp.trans {g : Nat} {cm : List Addr} {s s' s'' : Shared} (a : Kp g cm s s') (b : Kp g cm s' s'') : Kp g cm s s'' :=
  ⟨b.os.trans a.os, b.drawn.trans a.drawn, fun x hx => (b.cms x hx).trans (a.cms x hx), fun k hk => (b.gens k hk).trans (a.gens k hk), Nat.le_trans a.gsize b.gsize, fun x => b.bare (a.bare x)⟩
theorem Kp.heap {g : Nat} {cm : List Addr} {s : Shared} {h : Heap} {tk : Nat} (hc : ∀ b ∈ cm, h.get? b = s.heap.get? b) : Kp g cm s { s with heap := h, toks := tk } :=
  ⟨rfl, rfl, hc, fun _ _ => rfl, Nat.le_refl _, fun x => x⟩
structure Ext (g : Nat) (cm : List Addr) (s' s'' : Shared) : Prop where
  heap : ∀ b o, b ∉ cm → s'.heap.get? b = some o → s''.heap.get? b = some o
  gens : ∀ k, g < k → s''.gens[k]? = s'.gens[k]?
  gsize : s''.gens.size = s'.gens.size
  bare : AllBare s'.gens → AllBare s''.gens
  live : ∀ b ∈ cm, ∃ o, s''.heap.get? b = some o
  os : s''.os = s'.os
  drawn : s''.drawn = s'.drawn
structure Holds (cm : List Addr) (B : Heap) (Fx : List (Addr × Obj)) (h : Heap) : Prop where
  base : ∀ b o, B.get? b = some o → h.get? b = some o
  fx : ∀ p ∈ Fx, h.get? p.1 = some p.2
  offB : ∀ b ∈ cm, B.get? b = none
  offF : ∀ p ∈ Fx, p.1 ∉ cm
theorem Holds.ext {cm : List Addr} {B h h' : Heap} {Fx : List (Addr × Obj)} (x : Holds cm B Fx h) (k : ∀ b o, b ∉ cm → h.get? b = some o → h'.get? b = some o) : Holds cm B Fx h' :=
  ⟨fun b o e => k b o (fun hb => by rw [x.offB b hb] at e; cases e) (x.base b o e), fun p hp => k _ _ (x.offF p hp) (x.fx p hp), x.offB, x.offF⟩
theorem bare_set {gens : Array GenState} {g : Nat} {y : GenState} (x : AllBare gens) (hy : y.bare = true) : AllBare (gens.setIfInBounds g y) := fun z hz => by
  obtain ⟨i, hi, rfl⟩ := Array.mem_iff_getElem.mp hz
  have hi' : i < gens.size := by rw [Array.size_setIfInBounds] at hi; exact hi
  rw [Array.getElem_setIfInBounds hi']
  split
  · exact hy
  · exact x _ (Array.getElem_mem hi')
section
variable {O : Type}
def PP (M : Model) (Ag : Around) (g : Nat) (cm : List Addr) (B : Heap) (Out : O → Value → List (Addr × Obj) → Prop) (Fin : Shared → Prop) : List O → List (Addr × Obj) → Shared → End → Shared → Prop
  | [], Fx, s₀, e, s' => e = .ret (.ok (.ret .none)) ∧ Kp g cm s₀ s' ∧ Holds cm B Fx s'.heap ∧ Fin s'
  | o :: os, Fx, s₀, e, s' => ∃ v l k c p fs new, e = .susp v false l k c p fs ∧ Kp g cm s₀ s' ∧ Holds cm B (new ++ Fx) s'.heap ∧ Out o v new ∧
      ∀ s'', Ext g cm s' s'' → SegX M Ag c (k (.send .none)) fs s'' (PP M Ag g cm B Out Fin os (new ++ Fx) s'')
theorem PP.from {M : Model} {Ag : Around} {g : Nat} {cm : List Addr} {B : Heap} {Out : O → Value → List (Addr × Obj) → Prop} {Fin : Shared → Prop} {s₀ s₁ : Shared} (k : Kp g cm s₀ s₁) :
    ∀ {os : List O} {Fx : List (Addr × Obj)} {e : End} {s' : Shared}, PP M Ag g cm B Out Fin os Fx s₁ e s' → PP M Ag g cm B Out Fin os Fx s₀ e s'
  | [], _, _, _, ⟨a, b, c⟩ => ⟨a, k.trans b, c⟩
  | _ :: _, _, _, _, ⟨v, l, kk, c, p, fs, new, e, b, r⟩ => ⟨v, l, kk, c, p, fs, new, e, k.trans b, r⟩
def GS (M : Model) (Ag : Around) (g : Nat) (cm : List Addr) (B : Heap) (Out : O → Value → List (Addr × Obj) → Prop) (Fin : Shared → Prop) (os : List O) (Fx : List (Addr × Obj)) (gs : GenState) (s : Shared) : Prop := match gs with
  | .fresh c => SegX M Ag c (M.den c) [] s (PP M Ag g cm B Out Fin os Fx s)
  | .suspended k _ c _ fs _ => SegX M Ag c (k (.send .none)) fs s (PP M Ag g cm B Out Fin os Fx s)
  | _ => False
variable {prog : Program} {w : World} {A Ag : Around} {g : Nat} {cm : List Addr} {B : Heap} {Out : O → Value → List (Addr × Obj) → Prop} {Fin : Shared → Prop} {E : Value → Shared → Prop} {s : Shared} {J : Addr} {Fx : List (Addr × Obj)} {gs : GenState} {Q : Option Value → Shared → Prop}
theorem wpResume {α : Type} {l : List Value} {k : GenResult → Sem α} {Q : α → Shared → Prop} {os : List O} (hle : LessA A Ag) (hgs : s.gens[g]? = some gs) (hgo : GS (model prog w) Ag g cm B Out Fin os Fx gs (s.setGen g .running))
    (h : ∀ e s₁, e.genState.bare = true → PP (model prog w) Ag g cm B Out Fin os Fx (s.setGen g .running) e s₁ → wpAny (model prog w) A (k e.result) Q E (s₁.setGen g e.genState)) :
    wpAny (model prog w) A (.resume g (.send .none) l k) Q E s := by
  cases gs with
  | running => exact hgo.elim
  | finished => exact hgo.elim
  | fresh c =>
    exact wake_any _ prog w hgs (.inl ⟨rfl, rfl, rfl, rfl⟩) (fun Γ => Γ.In A) (fun _ h => h) (segLess (A := Ag) (A' := A) hle (fun Γ p hc hΓ => by
      obtain ⟨e, s', hr, hq, hp⟩ := hgo Γ p hc hΓ
      exact ⟨e, s', hr, hq, fun Γ' p' h' => h e s' (End.bare_of_quiet hq) hp Γ' p' h'⟩))
  | suspended k₀ l₀ c₀ p₀ fs₀ cl =>
    exact wake_any _ prog w hgs (.inr ⟨k₀, l₀, p₀, cl, rfl, rfl⟩) (fun Γ => Γ.In A) (fun _ h => h) (segLess (A := Ag) (A' := A) hle (fun Γ p hc hΓ => by
      obtain ⟨e, s', hr, hq, hp⟩ := hgo Γ p hc hΓ
      exact ⟨e, s', hr, hq, fun Γ' p' h' => h e s' (End.bare_of_quiet hq) hp Γ' p' h'⟩))
/-- what one `next` answers -/
def NextIs (M : Model) (Ag : Around) (g : Nat) (cm : List Addr) (B : Heap) (Out : O → Value → List (Addr × Obj) → Prop) (Fin : Shared → Prop) (Q : Option Value → Shared → Prop) (Fx : List (Addr × Obj)) (s₀ : Shared) : List O → Prop
  | [] => ∀ s₁ h', Kp g cm s₀ s₁ → Holds cm B Fx s₁.heap → Fin s₁ → (∀ b o, s₁.heap.get? b = some o → h'.get? b = some o) → Q none { s₁.setGen g .finished with heap := h' }
  | o :: os => ∀ v s₁ new gs', Kp g cm s₀ s₁ → Holds cm B (new ++ Fx) s₁.heap → Out o v new → gs'.bare = true → (∀ s'', Ext g cm s₁ s'' → GS M Ag g cm B Out Fin os (new ++ Fx) gs' s'') → Q (some v) (s₁.setGen g gs')
theorem next_play {os : List O} (hh : A.handled = none) (hl : s.heap.NoLimit) (hroom : A.depth < recursionLimit) (hle : LessA A.in1 Ag) (hg : s.heap.IsGen J g) (hgs : s.gens[g]? = some gs)
    (hgo : GS (model prog w) Ag g cm B Out Fin os Fx gs (s.setGen g .running))
    (hQ : NextIs (model prog w) Ag g cm B Out Fin Q Fx (s.setGen g .running) os) : wpAny (model prog w) A (pyNext (.ref J)) Q E s := by
  unfold pyNext
  refine wpAny_bind (wpAny_attempt (wpAny_callSpecial?_slot (name := Str.ofString "__next__") hg.typeIs slot_gen_next
    (wpAny_call_entry slot_gen_next hg.typeIs entry_gen_next ?_ (args_gen_next _))))
  show wpAny _ _ (Builtin.Generator.genWake (.ref J) (.send .none)) _ _ s
  unfold Builtin.Generator.genWake
  refine wpAny_bind (wpAny_holding (wpAny_genNumber hg (wpAny_bind (wpAny_genState hgs ?_))))
  have key : ∀ e s₁, e.genState.bare = true → PP (model prog w) Ag g cm B Out Fin os Fx (s.setGen g .running) e s₁ → _ := fun e s₁ hb hp => hp
  cases gs with
  | running => exact hgo.elim
  | finished => exact hgo.elim
  | _ =>
    refine wpAny_bind (wpAny_roomToWake hl hroom ?_)
    show wpAny _ _ (.resume g (.send .none) [] _) _ _ s
    refine wpResume hle hgs hgo fun e s₁ hb hp => ?_
    cases os with
    | nil =>
      obtain ⟨rfl, hk, hH, hF⟩ := hp
      show wpAny _ _ (newExc (.type "StopIteration") [] >>= _) _ _ _
      refine wpAny_bind ?_
      simp only [newExc, newTuple]
      refine wpAny_bind (wpAny_newObj_type ?_ (by size_fits))
      refine wpAny_bind (m := firstArgMember _ _) (wpAny_of_eq (a := Value.none) (by first | rfl | (simp only [firstArgMember]; rfl)) ?_)
      refine wpAny_newObj_type ?_ (by size_fits)
      simp only [raiseNew]
      refine wpAny_bind (wpAny_bind (wpAny_handled ?_))
      rw [show A.in1.handled = none from hh]
      refine wpAny_throw ?_
      refine wpAny_bind (wpAny_isInstance (T := "StopIteration") (b := true) ⟨_, Heap.get?_push_size _ rfl, rfl⟩ isSubtype_stop ?_)
      exact wpAny_pure (hQ s₁ _ hk hH hF (fun b o hb => Heap.get?_push_of_some _ (Heap.get?_push_of_some _ hb)))
    | cons o os =>
      obtain ⟨v, l, k, c, p, fs, new, rfl, hk, hH, hO, hn⟩ := hp
      exact wpAny_pure ⟨v, rfl, wpAny_pure (hQ v s₁ new _ hk hH hO hb fun s'' hx => hn s'' hx)⟩
end
end Mine
end
section -- G3
open PySem PySem.W PyProof.Rows
set_option Elab.async false
set_option maxRecDepth 100000
set_option maxHeartbeats 0
namespace Mine
open PySem.W.X (SegX wake_any)
abbrev lst (acc : Array Value) (c : Nat) : Obj := { cls := .type "list", dict := none, data := .seq acc c, slots := #[] }
section
variable {O : Type} {prog : Program} {w : World} {A Ag : Around} {g : Nat} {B : Heap} {Out : O → Value → List (Addr × Obj) → Prop} {Fin : Shared → Prop} {J S : Addr} {R : Result → Shared → Prop}
def RowsOf (Out : O → Value → List (Addr × Obj) → Prop) (Fx : List (Addr × Obj)) : List O → List Value → Prop
  | [], [] => True
  | o :: os, v :: vs => (∃ new, Out o v new ∧ ∀ p ∈ new, p ∈ Fx) ∧ RowsOf Out Fx os vs
  | _, _ => False
theorem extend_play (hFin : ∀ a b : Shared, Fin a → (∀ c o, a.heap.get? c = some o → b.heap.get? c = some o) → Fin b) (hh : A.handled = none) (hl : B.NoLimit) (hroom : A.depth < recursionLimit) (hle : LessA A.in1.in1 Ag) (hJ : B.IsGen J g) (res : Value) :
    ∀ (os : List O) (Fx : List (Addr × Obj)) (gs : GenState) (s : Shared) (acc : Array Value) (c : Nat), s.gens[g]? = some gs → GS (model prog w) Ag g [S] B Out Fin os Fx gs (s.setGen g .running) → Holds [S] B Fx s.heap →
    s.heap.get? S = some (lst acc c) → acc.size + os.length ≤ 1000 → AllBare s.gens →
    (∀ s' vs Fx' c', RowsOf Out Fx' os vs → (∀ p ∈ Fx, p ∈ Fx') → Holds [S] B Fx' s'.heap → s'.heap.get? S = some (lst (acc ++ vs.toArray) c') → AllBare s'.gens → s'.os = s.os → s'.drawn = s.drawn → Fin s' → R (.ok (.ret res)) s') →
    codeAny (model prog w) A (.builtin "list.extend.loop" ⟨[.ref S, .ref J, res], []⟩) R s := by
  intro os
  induction os with
  | nil =>
    intro Fx gs s acc c hgs hgo hH hS hn hb hR
    refine codeAny_builtin F.entry_extend_loop ?_
    rw [Around.under_plainId F.plain_extend_loop _]
    show wpAny _ A.in1 (pyNext (.ref J) >>= _) _ _ s
    refine wpAny_bind (next_play (A := A.in1) hh (hl.keeps hH.base) hroom hle (hJ.keeps hH.base) hgs hgo ?_)
    intro s₁ h' hk hH₁ hfin hx
    have hS₁ : s₁.heap.get? S = some (lst acc c) := (hk.cms S (List.mem_singleton.mpr rfl)).trans hS
    refine wpAny_pure (hR _ [] Fx c trivial (fun _ h => h) ⟨fun b o e => hx b o (hH₁.base b o e), fun p hp => hx _ _ (hH₁.fx p hp), hH₁.offB, hH₁.offF⟩ (by simpa using hx _ _ hS₁) ?_ hk.os hk.drawn (hFin s₁ _ hfin hx))
    exact bare_set (hk.bare (bare_set hb rfl)) rfl
  | cons o os ih =>
    intro Fx gs s acc c hgs hgo hH hS hn hb hR
    refine codeAny_builtin F.entry_extend_loop ?_
    rw [Around.under_plainId F.plain_extend_loop _]
    show wpAny _ A.in1 (pyNext (.ref J) >>= _) _ _ s
    refine wpAny_bind (next_play (A := A.in1) hh (hl.keeps hH.base) hroom hle (hJ.keeps hH.base) hgs hgo ?_)
    intro v s₁ new gs' hk hH₁ hO hbg hG
    have hS₁ : s₁.heap.get? S = some (lst acc c) := (hk.cms S (List.mem_singleton.mpr rfl)).trans hS
    have hlen : acc.size + (os.length + 1) ≤ 1000 := hn
    have hglt : g < s₁.gens.size := Nat.lt_of_lt_of_le (by
      have : g < s.gens.size := by
        cases h : s.gens[g]? with
        | none => rw [h] at hgs; cases hgs
        | some _ => exact (Array.getElem?_eq_some_iff.mp h).1
      show g < (s.setGen g .running).gens.size
      simpa [Shared.setGen] using this) hk.gsize
    show wpAny _ A.in1 (updateSeq S (·.push v) >>= _) _ _ _
    refine wpAny_bind ?_
    have oth : ∀ b o, b ≠ S → s₁.heap.get? b = some o → (s₁.heap.update S (Obj.mapSeq (·.push v))).get? b = some o := fun b o hne e => (Heap.get?_update_other _ _ (Ne.symm hne)).trans e
    refine wpAny_updateSeq (s := s₁.setGen g gs') hS₁ rfl (wpAny_pure ⟨plainId_quiet F.plain_extend_loop _, ih (new ++ Fx) gs' { s₁.setGen g gs' with heap := s₁.heap.update S (Obj.mapSeq (·.push v)) } (acc.push v) _ ?_ ?_ ?_ (Heap.get?_update_self (Obj.mapSeq (·.push v)) hS₁ rfl) ?_ ?_ ?_⟩) (by show acc.size ≤ sizeLine; rw [sizeLine_eq]; omega) (by show (acc.push v).size ≤ sizeLine + 1; rw [Array.size_push, sizeLine_eq]; omega)
    · show (s₁.gens.setIfInBounds g gs')[g]? = some gs'
      simp [hglt]
    · refine hG _ ⟨fun b o hb' e => ?_, fun k hk' => ?_, ?_, fun hb' => ?_, fun b hb' => by
        have e : b = S := List.mem_singleton.mp hb'
        subst e
        exact ⟨_, Heap.get?_update_self (Obj.mapSeq (·.push v)) hS₁ rfl⟩, rfl, rfl⟩
      · exact oth b o (fun h => hb' (h ▸ List.mem_singleton.mpr rfl)) e
      · show ((s₁.gens.setIfInBounds g gs').setIfInBounds g .running)[k]? = s₁.gens[k]?
        have : g ≠ k := Nat.ne_of_lt hk'
        simp [this]
      · show ((s₁.gens.setIfInBounds g gs').setIfInBounds g .running).size = s₁.gens.size
        simp
      · exact bare_set (bare_set hb' hbg) rfl
    · exact hH₁.ext fun b o hb' e => oth b o (fun h => hb' (h ▸ List.mem_singleton.mpr rfl)) e
    · rw [Array.size_push]; omega
    · exact bare_set (hk.bare (bare_set hb rfl)) hbg
    · intro s' vs Fx' c' hrow hsub hH' hS' hb' ho hd hfin
      refine hR s' (v :: vs) Fx' c' ⟨⟨new, hO, fun p hp => hsub p (List.mem_append_left _ hp)⟩, hrow⟩ (fun p hp => hsub p (List.mem_append_right _ hp)) hH' ?_ hb' (ho.trans hk.os) (hd.trans hk.drawn) hfin
      rw [hS']
      simp
theorem list_play {E : Value → Shared → Prop} {s : Shared} {Q : Value → Shared → Prop} {os : List O} {Fx : List (Addr × Obj)} {c₀ : Code} (hFin : ∀ a b : Shared, Fin a → (∀ c o, a.heap.get? c = some o → b.heap.get? c = some o) → Fin b) (hh : A.handled = none) (hl : B.NoLimit) (hroom : A.depth < recursionLimit) (hle : LessA A.in1.in1.in1 Ag) (hJ : B.IsGen J g) (hgs : s.gens[g]? = some (.fresh c₀))
    (hH : Holds [s.heap.objs.size] B Fx s.heap) (hn : os.length ≤ 1000) (hb : AllBare s.gens)
    (hgo : ∀ h₁ c, (∀ b o, s.heap.get? b = some o → h₁.get? b = some o) → h₁.objs.size = s.heap.objs.size + 1 → h₁.get? s.heap.objs.size = some (lst #[] c) → GS (model prog w) Ag g [s.heap.objs.size] B Out Fin os Fx (.fresh c₀) ({ s with heap := h₁ }.setGen g .running))
    (hQ : ∀ s' vs Fx' c', RowsOf Out Fx' os vs → (∀ p ∈ Fx, p ∈ Fx') → Holds [s.heap.objs.size] B Fx' s'.heap → s'.heap.get? s.heap.objs.size = some (lst vs.toArray c') → AllBare s'.gens → s'.os = s.os → s'.drawn = s.drawn → Fin s' → Q (.ref s.heap.objs.size) s') :
    wpAny (model prog w) A (call (.type "list") [.ref J]) Q E s := by
  have hJs : s.heap.IsGen J g := hJ.keeps hH.base
  refine callType_codes (Q₁ := fun obj s₁ => obj = .ref s.heap.objs.size ∧ s₁ = { s with heap := s.heap.push { cls := .type "list", data := .seq #[] } }) F.called_list (F.typeCall_list_1 _) F.entry_list_init
    (code_list_new _ ⟨rfl, rfl⟩) fun obj s₁ h₁ => ?_
  obtain ⟨rfl, rfl⟩ := h₁
  generalize hSe : s.heap.objs.size = S at *
  have psz : (s.heap.push { cls := .type "list", data := .seq #[] }).objs.size = S + 1 := by simp [Heap.push, hSe]
  have up₁ : ∀ b o, s.heap.get? b = some o → (s.heap.push { cls := .type "list", data := .seq #[] }).get? b = some o := fun b o e => Heap.get?_push_of_some _ e
  have hS : (s.heap.push { cls := .type "list", data := .seq #[] }).get? S = some { cls := .type "list", data := .seq #[] } := hSe ▸ Heap.get?_push_size _ rfl
  generalize s.heap.push { cls := .type "list", data := .seq #[] } = hp at *
  have hSnew : ∀ b o, s.heap.get? b = some o → b ≠ S := fun b o e => Nat.ne_of_lt (hSe ▸ Heap.lt_size e)
  have hSJ : S ≠ J := fun e => by
    obtain ⟨o, _, _, ho, _⟩ := hJs
    exact hSnew J o ho e.symm
  refine ⟨⟨_, hS, rfl⟩, F.args_list_init_2 _ _, ?_⟩
  show wpAny _ A.in1.in1 (do let old ← Builtin.List.listItems (.ref S); Builtin.List.listUpdate (.ref S) (fun _ => #[]); letGo old.toList.reverse; Builtin.List.listExtendWith (.ref S) (.ref J) .none) _ _ _
  refine wpAny_bind ?_
  unfold Builtin.List.listItems
  refine wpAny_bind (wpAny_seqItems hS rfl (wpAny_pure ?_))
  show wpAny _ A.in1.in1 (updateSeq S (fun _ => #[]) >>= fun _ => letGo (#[] : Array Value).toList.reverse >>= fun _ => Builtin.List.listExtendWith (.ref S) (.ref J) .none) _ _ _
  refine wpAny_bind (wpAny_updateSeq hS rfl ?_)
  have hS₂ := Heap.get?_update_self (Obj.mapSeq (fun _ => (#[] : Array Value))) hS rfl
  refine wpAny_bind (wpAny_letGo ?_)
  unfold Builtin.List.listExtendWith
  have up₂ : ∀ b o, s.heap.get? b = some o → (hp.update S (Obj.mapSeq (fun _ => (#[] : Array Value)))).get? b = some o := fun b o e => (Heap.get?_update_other _ _ (Ne.symm (hSnew b o e))).trans (up₁ b o e)
  have hJ₂ := hJs.keeps up₂
  refine wpAny_bind (wpAny_typeOf hJ₂.typeIs ?_)
  have e1 : Builtin.List.listSameRef (.ref S) (.ref J) = false := by simp [Builtin.List.listSameRef, hSJ]
  have e2 : (Value.type "generator" == Value.type "list") = false := by decide
  have e3 : (Value.type "generator" == Value.type "tuple") = false := by decide
  simp only [e1, e2, e3, Bool.or_false, Bool.false_eq_true, if_false]
  refine wpAny_bind (wpAny_pyIter_gen hJ₂ ?_)
  refine wpAny_bind (wpAny_holding ?_)
  unfold Builtin.List.listLengthHint
  refine wpAny_bind (wpAny_specialOf hJ₂.typeIs F.gen_no_len ?_)
  show wpAny _ A.in1.in1 (specialOf (Value.ref J) (Str.ofString "__length_hint__") >>= _) _ _ _
  refine wpAny_bind (wpAny_specialOf hJ₂.typeIs F.gen_no_hint ?_)
  refine wpAny_pure ?_
  show wpAny _ A.in1.in1 (rule "list.extend.makes-room" >>= fun _ => Builtin.List.listTouch (.ref S) >>= fun _ =>
    again (.builtin "list.extend.loop" ⟨[.ref S, .ref J, .none], []⟩)) _ _ _
  refine wpAny_bind (wpAny_rule ?_)
  refine wpAny_bind ?_
  show wpAny _ A.in1.in1 (updateSeq S (·.push .none) >>= fun _ => updateSeq S (·.pop)) _ _ _
  refine wpAny_bind (wpAny_updateSeq hS₂ rfl ?_)
  have hS₃ := Heap.get?_update_self (Obj.mapSeq (·.push Value.none)) hS₂ rfl
  refine wpAny_updateSeq (hz := by seq_fits) hS₃ rfl ?_
  have hS₄ := Heap.get?_update_self (Obj.mapSeq (·.pop)) hS₃ rfl
  have up₄ : ∀ b o, s.heap.get? b = some o → (((hp.update S (Obj.mapSeq (fun _ => (#[] : Array Value)))).update S (Obj.mapSeq (·.push Value.none))).update S (Obj.mapSeq (·.pop))).get? b = some o :=
    fun b o e => (Heap.get?_update_other _ _ (Ne.symm (hSnew b o e))).trans ((Heap.get?_update_other _ _ (Ne.symm (hSnew b o e))).trans (up₂ b o e))
  have sz₄ : (((hp.update S (Obj.mapSeq (fun _ => (#[] : Array Value)))).update S (Obj.mapSeq (·.push Value.none))).update S (Obj.mapSeq (·.pop))).objs.size = S + 1 := by
    simp [Heap.update, psz]
  generalize (((hp.update S (Obj.mapSeq (fun _ => (#[] : Array Value)))).update S (Obj.mapSeq (·.push Value.none))).update S (Obj.mapSeq (·.pop))) = h₄ at *
  refine wpAny_pure ⟨plainId_quiet F.plain_extend_loop _, extend_play (A := A.in1) (S := S) hFin hh hl hroom hle hJ _ os Fx (.fresh c₀) _ #[] _ hgs (hgo h₄ _ up₄ sz₄ hS₄) (hH.ext fun b o _ e => up₄ b o e) hS₄ (by simpa using hn) hb fun s' vs Fx' c' hrow hsub hH' hS' hb' ho hd hfin => ?_⟩
  exact ⟨rfl, hQ s' vs Fx' c' hrow hsub hH' (by simpa using hS') hb' ho hd hfin⟩
end
end Mine
end
section -- G4
open PySem PySem.W PyProof.Rows PySem.Calls
set_option Elab.async false
set_option maxRecDepth 100000
set_option maxHeartbeats 0
namespace Mine
abbrev genObj (g : Nat) (name qual : Str) (t1 t2 : Tok) : Obj := { cls := .type "generator", data := .fields #[.int g 0, .str name t1, .str qual t2] }
section
variable {prog : Program} {w : World} {A : Around} {s : Shared} {R : Result → Shared → Prop} {name qual : Str} {params : Arguments} {body : List Stmt} {scope : Scope} {cl : List (Str × Addr)} {dV kV doc pm cdv ct : Value} {an : Option Addr} {fo : Obj} {f : Addr} {args : Args} {binds : List (Str × Value)}
theorem gen_cells (hlim : s.heap.NoLimit)
    (ho : s.heap.get? f = some fo) (hd : fo.data = .func (fnX name qual params body scope [] dV kV doc pm an cdv ct)) (hcd : s.heap.CodeRec cdv qual) (hroom : A.depth < recursionLimit)
    (hbind : BindsTo s (fnX name qual params body scope [] dV kV doc pm an cdv ct) args binds)
    (hkind : ∀ n, ∀ x ∈ binds, scope.names.lookup x.1 = some .local ∨ (scope.names.lookup x.1 = some .cell ∧ ((cellsFrom n scope.names []).lookup x.1).isSome = true))
    (hnd : ((cellsFrom 0 scope.names []).map (·.1)).Nodup)
    (h : ∀ (h₁ : Heap) (tk : Tok) (cells : List (Addr × Obj)), h₁.Ns s.heap.objs.size (bindL (envOfC qual scope s.heap.objs.size f cdv).kindOf binds fun _ => none) → (∀ b o, s.heap.get? b = some o → h₁.get? b = some o) → s.heap.objs.size < h₁.objs.size → News s.heap s.heap.objs.size h₁ cells →
      CellsAre (bindC (envOfC qual scope s.heap.objs.size f cdv).kindOf binds fun _ => none) (cellsFrom (s.heap.objs.size + 1) scope.names []) cells →
      R (.ok (.ret (.ref h₁.objs.size))) { s with heap := h₁.push (genObj s.gens.size name qual tk (tk + 1)), gens := s.gens.push (.fresh (.func body (envOfC qual scope s.heap.objs.size f cdv))), toks := tk + 1 + 1 })
    (hco : scope.isCoroutine = false := by rfl) (hgen : scope.isGenerator = true := by rfl) (hk : scope.kind = .function := by rfl) : codeAny (model prog w) A (.call (.ref f) args) R s := by
  refine codeAny_call_generator (fd := fnX name qual params body scope [] dV kV doc pm an cdv ct) (body := body) hroom ho hd hco hgen rfl hcd (hbind _ _ _ _ ?_)
  refine wpAny_newFunctionEnv_cells hk (hkind _) fun env' he s' x => ?_
  subst he
  refine ⟨hlim.keeps x.toInCall.keep, ?_⟩
  obtain ⟨h₁, tk, rfl, _⟩ := x.done
  have hk₁ := x.toInCall.keep
  obtain ⟨cells, NC, Y⟩ := Cl.news (h₀ := s.heap) (Nat.le_refl _) fun n c hm => ⟨x.cell n c (lookup_of_mem_nodup (cellsFrom_names scope.names 0 (s.heap.objs.size + 1) [] [] rfl ▸ hnd) hm), x.above n c hm⟩
  refine h h₁ tk cells x.toInCall.ns hk₁ ?_ NC Y
  obtain ⟨o, _, _, ho', _⟩ := x.toInCall.ns
  exact Heap.lt_size ho'
theorem gen_plain (hlim : s.heap.NoLimit)
    (ho : s.heap.get? f = some fo) (hd : fo.data = .func (fnX name qual params body scope cl dV kV doc pm an cdv ct)) (hcd : s.heap.CodeRec cdv qual) (hroom : A.depth < recursionLimit)
    (hbind : BindsTo s (fnX name qual params body scope cl dV kV doc pm an cdv ct) args binds) (hloc : ∀ y ∈ binds, scope.names.lookup y.1 = some .local)
    (h : ∀ h₁ : Heap, h₁.Ns s.heap.objs.size (fun y => binds.reverse.lookup y) → (∀ b o, s.heap.get? b = some o → h₁.get? b = some o) → s.heap.objs.size < h₁.objs.size →
      R (.ok (.ret (.ref h₁.objs.size))) { s with heap := h₁.push (genObj s.gens.size name qual (s.toks + binds.length) (s.toks + binds.length + 1)), gens := s.gens.push (.fresh (.func body (envX qual scope s.heap.objs.size f cdv cl))), toks := s.toks + binds.length + 1 + 1 })
    (hcell : ∀ x ∈ scope.names, x.2 ≠ .cell) (hco : scope.isCoroutine = false := by rfl) (hgen : scope.isGenerator = true := by rfl) (hk : scope.kind = .function := by rfl) : codeAny (model prog w) A (.call (.ref f) args) R s := by
  refine codeAny_call_generator (fd := fnX name qual params body scope cl dV kV doc pm an cdv ct) (body := body) hroom ho hd hco hgen rfl hcd (hbind _ _ _ _ ?_)
  refine wpAny_newFunctionEnv hcell hloc (fun h₁ hns hsb => ?_) hk
  have hk₁ : ∀ b o, s.heap.get? b = some o → h₁.get? b = some o := fun b o e => hsb.extBut b o (Nat.ne_of_lt (Heap.lt_size e)) (Heap.get?_push_of_some _ e)
  refine ⟨hlim.keeps hk₁, h h₁ hns hk₁ ?_⟩
  obtain ⟨o, _, _, ho', _⟩ := hns
  exact Heap.lt_size ho'
end
end Mine
end
section -- G5
open PySem PySem.W PyProof.Rows
set_option Elab.async false
set_option maxRecDepth 100000
set_option maxHeartbeats 12000000
namespace Mine
open PySem.W.X (SegX)
section
variable {M : Model} {A : Around} {c : Code} {fs : List Frame} {P : End → Shared → Prop} {s : Shared} {env : Env} {K : Flow → Sem Fin} {H : Value → Sem Fin} {gd : Bool → Bool} {lv : List Value → List Value}
theorem execs_append_wrap (l2 : List Stmt) : ∀ l1 : List Stmt, (execs (l1 ++ l2) env).wrap K H gd lv = (execs l1 env).wrap (fun f => match f with | .next => (execs l2 env).wrap K H gd lv | f => K f) H gd lv
  | [] => rfl
  | st :: l1 => by
    rw [List.cons_append, execs_cons_wrap, execs_cons_wrap]
    refine Sem.wrap_congr _ _ _ (fun f => ?_) fun _ => rfl
    cases f with
    | next => exact execs_append_wrap l2 l1
    | _ => rfl
/-- a row of statements without a yield -/
theorem sx_block {l1 l2 : List Stmt} (h : wpAny M (A.over c fs) (execs l1 env) (fun f s' => f = .next ∧ SegX M A c ((execs l2 env).wrap K H gd lv) fs s' P) (fun _ _ => False) s) :
    SegX M A c ((execs (l1 ++ l2) env).wrap K H gd lv) fs s P := by
  rw [execs_append_wrap]
  exact sx_wrapF (wpAny_mono h (fun f s' x => by obtain ⟨rfl, x⟩ := x; exact x) fun _ _ x => x)
end
section
variable {prog : Program} {w : World} {A : Around} {fs : List Frame} {P : End → Shared → Prop} {s : Shared} {env : Env} {k : Result → Sem Fin} {hd : Option Value} {g : Bool} {l : List Value} {c₁ : Code} {p₁ : Pos} {kp : List Value}
  {x : Str} {px : Pos} {body : List Stmt} {I ax L : Addr} {items : Array Value} {i : Nat} {m : Str → Option Value}
theorem sx_list_item {v : Value} (hh : (A.over (.forLoop (.Name x px) (.ref I) body [] env) (.ret k hd g l c₁ p₁ kp :: fs)).handled = none)
    (hit : s.heap.IsListIter I ax i) (hl : s.heap.IsList ax items) (hax : ax ≠ I) (hi : items[i]? = some v) (hn : s.heap.Ns L m) (hL : env.locals = L) (hLI : L ≠ I) (hLax : L ≠ ax)
    (hx : env.kindOf x = some .local) (hp : (env.scope.kind == .class || (env.scope.kind == .module && env.locals != env.globals)) = false)
    (h : ∀ h' tk, h'.Ns L (fun y => if y = x then some v else m y) → h'.IsListIter I ax (i + 1) → h'.IsList ax items → (∀ b o, b ≠ I → b ≠ L → s.heap.get? b = some o → h'.get? b = some o) →
      SegX (model prog w) A (.forLoop (.Name x px) (.ref I) body [] env) ((execs body env).wrap (turnK (.Name x px) (.ref I) body env) (turnH env) id id) (.ret k hd g l c₁ p₁ kp :: fs) { s with heap := h', toks := tk } P) :
    SegX (model prog w) A (.forLoop (.Name x px) (.ref I) body [] env) ((model prog w).den (.forLoop (.Name x px) (.ref I) body [] env)) (.ret k hd g l c₁ p₁ kp :: fs) s P := by
  subst hL
  have hlt : i < items.size := by
    rcases Nat.lt_or_ge i items.size with q | q
    · exact q
    · rw [Array.getElem?_eq_none q] at hi; cases hi
  refine sx_turn ((Walks.list (prog := prog) (w := w) hh I ax hax items).item i s _ _ hlt ⟨hit, hl⟩ fun v' h₁ tk₁ hv hst hk => ?_)
  have e : v' = v := Option.some.inj (hv.symm.trans hi)
  subst e
  have hk' : ∀ b o, b ≠ I → s.heap.get? b = some o → h₁.get? b = some o := fun b o hb e => hk b o (fun hm => hb (List.mem_singleton.mp hm)) e
  refine wpAny_assign_Name (wpAny_storeName_local hx (hn.at' fun o e => hk' _ o hLI e) (fun h₂ hn₂ hs₂ => ?_) hp)
  refine h h₂ _ hn₂ (hst.1.at fun o e => hs₂.extBut _ o (Ne.symm hLI) e) (hst.2.at fun o e => hs₂.extBut _ o (Ne.symm hLax) e) fun b o h1 h2 e => hs₂.extBut b o h2 (hk' b o h1 e)
theorem sx_list_done (hh : (A.over (.forLoop (.Name x px) (.ref I) body [] env) (.ret k hd g l c₁ p₁ kp :: fs)).handled = none)
    (hit : s.heap.IsListIter I ax i) (hl : s.heap.IsList ax items) (hax : ax ≠ I) (hi : i = items.size)
    (h : ∀ h' tk, (∀ b o, b ≠ I → s.heap.get? b = some o → h'.get? b = some o) → SegX (model prog w) A c₁ (k (.ok .next)) fs { s with heap := h', toks := tk } P) :
    SegX (model prog w) A (.forLoop (.Name x px) (.ref I) body [] env) ((model prog w).den (.forLoop (.Name x px) (.ref I) body [] env)) (.ret k hd g l c₁ p₁ kp :: fs) s P := by
  subst hi
  exact sx_turn ((Walks.list (prog := prog) (w := w) hh I ax hax items).done s _ _ ⟨hit, hl⟩ fun h₁ tk₁ hk => h h₁ tk₁ fun b o hb e => hk b o (fun hm => hb (List.mem_singleton.mp hm)) e)
end
end Mine
end
section -- P1
open PySem PySem.W PyProof.Rows
set_option Elab.async false
set_option maxRecDepth 100000
set_option maxHeartbeats 0
namespace Mine
abbrev AA (fr : List Env) (gs : Option (List Code)) : Around := ⟨none, 400, some fr, gs, 2000⟩
abbrev EE (nm : List (Str × NameKind)) (ig ic : Bool) (mo : List (Str × Const)) (lc gl : Addr) (cl : List (Str × Addr)) (q : Str) (fn : Option Addr) (cd : Value) (L bi : Addr) : Env :=
  ⟨⟨.function, nm, ig, ic, mo⟩, lc, gl, cl, q, fn, cd, some L, bi⟩
def symEs (P : Params) (key : Str) (t1 t2 t3 t4 t5 t6 tk : Tok) (a1 a2 : Addr) : List DictEntry :=
  [⟨PyData.keyHash P (Str.ofString "key"), .str (Str.ofString "key") t1, .str key tk⟩,
   ⟨PyData.keyHash P (Str.ofString "aliases"), .str (Str.ofString "aliases") t2, .ref a1⟩,
   ⟨PyData.keyHash P (Str.ofString "is_deprecated"), .str (Str.ofString "is_deprecated") t3, .bool false⟩,
   ⟨PyData.keyHash P (Str.ofString "is_exception"), .str (Str.ofString "is_exception") t4, .bool false⟩,
   ⟨PyData.keyHash P (Str.ofString "args"), .str (Str.ofString "args") t5, .ref a2⟩,
   ⟨PyData.keyHash P (Str.ofString "obj"), .str (Str.ofString "obj") t6, .str key tk⟩]
theorem sub2 {h₀ h : Heap} {L : Addr} {l news : List (Addr × Obj)} {a b : Addr × Obj} (N : News h₀ L h l) (h1 : a ∈ l) (h2 : b ∈ l) (h3 : ∀ p ∈ news, p ∈ l) : News h₀ L h (a :: b :: news) := fun p hp => by
  rcases List.mem_cons.mp hp with rfl | hp
  · exact N _ h1
  · rcases List.mem_cons.mp hp with rfl | hp
    · exact N _ h2
    · exact N _ (h3 _ hp)
local macro_rules | `(tactic| walk_at "m_tail") => `(tactic| first | assumption | (refine List.Mem.tail _ ?_; walk_at "m_tail"))
local macro_rules | `(tactic| walk_at "getMethod ref") => `(tactic| ((with_reducible show wpAny _ _ (getMethod (Value.ref 271) _ _) _ _ _); k_dflt (refine' getMethod_pat ?k1 ?k2 ?k3 ?_; (case k1 => k_asm); (case k2 => k_asm); (case k3 => k_is); k_whole)))
local macro_rules | `(tactic| walk_at "call builtin:re.Pattern.match") => `(tactic| (k_dflt (refine' match_callK ?k1 ?k2 ?k3 ?k4 ?k5 ?n ?b ?a ?_; (case k1 => k_asm); (case k2 => k_asm); (case k3 => k_asm); (case k4 => k_is); (case k5 => k_is); (case n => exact KeyOk.pos (by assumption)); (case b => exact Nat.le_trans (KeyOk.len (by assumption)) (by decide)); (case a => exact KeyOk.chars (by assumption)); k_whole); intro a' vs' h' F' N' l1; (try k_lt l1)))
local macro_rules | `(tactic| walk_at "truthy ref") => `(tactic| (refine' truthy_match ?N ?m ?_; (case N => k_asm); (case m => k_mem)))
local macro_rules | `(tactic| walk_at "truthy ref") => `(tactic| ((with_reducible show wpAny _ _ (truthy (Value.ref 378)) _ _ _); k_dflt (refine' truthy_378 ?k1 ?k2 ?k3 ?_; (case k1 => k_asm); (case k2 => k_asm); (case k3 => k_is); k_whole); intro _))
local macro_rules | `(tactic| walk_at "call type:tuple") => `(tactic| ((with_reducible show wpAny _ _ (call (Value.type "tuple") []) _ _ _); (refine call_tuple0 (by k_asm) (by k_asm) ?_; intro a' h' F' N' l1; (try k_lt l1))))
local macro_rules | `(tactic| walk_at "truthy str") => `(tactic| (refine KXt.truthy_pos (K := 1000) (KeyOk.pos (by assumption)) (KeyOk.len (by assumption)) (by decide) ?_; intro _))
local macro_rules | `(tactic| walk_at "call builtin:str.strip") => `(tactic| (refine strip_key (by assumption) ?_; intro _ _))
local macro_rules | `(tactic| walk_at "call builtin:str.lower") => `(tactic| (refine lower_key (by assumption) ?_; intro _ _))
local macro_rules | `(tactic| walk_at "call builtin:str.split") => `(tactic| (refine split_key (by assumption) (by k_asm) (by k_asm) ?_; intro D' l' h' k' e' F' N' l1; (try k_lt l1)))
local macro_rules | `(tactic| walk_at "call builtin:str.join") => `(tactic| (refine join_key (by assumption) (by k_asm) (by k_mem) (by assumption) ?_; intro _ _))
local macro_rules | `(tactic| walk_at "compareOp In str ref") => `(tactic| (k_dflt (refine' in_kw ?h ?k1 ?k2 ?k3 ?_; (case h => assumption); (case k1 => k_asm); (case k2 => k_asm); (case k3 => k_is); k_whole)))
local macro_rules | `(tactic| k_all) => `(tactic| first | exact List.forall_mem_nil _ | (refine' List.forall_mem_cons.mpr ⟨?a, ?b⟩; (case a => k_ne); (case b => k_all)) | exact ne_tail (by assumption) (by omega))
theorem sym_call : ∀ {w : World} {A₀ : Around} {base h₀ : Heap} {outer : List Env} {gs : Option (List Code)} {nm : List (Str × NameKind)} {ig ic : Bool} {mo : List (Str × Const)} {lc gl : Addr} {cl : List (Str × Addr)} {q : Str} {fn : Option Addr} {cd : Value} {L bi : Addr}
   {m mg mb : Str → Option Value} {p : Program} {loose : List Str} {mean : ExcName → Option Value} {news : List (Addr × Obj)} {s : Shared} {Q : Value → Shared → Prop} {E : Value → Shared → Prop} {key : Str} {tk : Tok},
   (Mine.hd.heap_39 w.params).In h₀ → Top p loose mean mg mb h₀ → Below A₀ base outer h₀ → Fr h₀ L s.heap m → News h₀ L s.heap news →
   KeyOk key →
   (∀ x dx h' tk' t1 t2 t3 t4 t5 t6 tv a1 a2, Fr h₀ L h' m → News h₀ L h' ((x, instObj 471 dx) :: (dx, dictOf (symEs w.params key t1 t2 t3 t4 t5 t6 tv a1 a2) 6) :: news) → (∀ p ∈ news, p.1 < dx) → dx < x → Q (.ref x) { s with heap := h', toks := tk' }) →
   wpAny (model PySem.Challenge.rw_ew0014_01.row.prog w) (AA (EE nm ig ic mo lc gl cl q fn cd L bi :: outer) gs) (call (.ref 471) [.str key tk] []) Q E s := by
  k_fill
  intro w A₀ base h₀ outer gs nm ig ic mo lc gl cl q fn cd L bi m mg mb p loose mean news s Q E key tk X T B F N hk hQ
  k_dflt (refine' call_cls ?k1 ?k2 ?k3 ?k4 ?k5 ?k6 ?_; (case k1 => k_asm); (case k2 => k_asm); (case k3 => k_asm); (case k4 => k_is); (case k5 => k_is); (case k6 => k_is); k_whole; intro x' d' h' F' N' l1 l2; (try k_lt l1); (try k_lt2 l2); (try k_sweep))
  refine' initEnter (to := { cls := .type "tuple", data := .seq #[] }) (binds := fun C D => [(Str.ofString "self", .ref x'), (Str.ofString "key", .str key tk), (Str.ofString "aliases", .ref 378), (Str.ofString "is_deprecated", .bool false), (Str.ofString "is_exception", .bool false), (Str.ofString "args", .ref C), (Str.ofString "kwargs", .ref D)]) (outer := outer) (env := EE nm ig ic mo lc gl cl q fn cd L bi) ?k1 ?k2 ?k3 ?k4 ?k5 ?kA ?kF ?kK ?k6 ?k7 ?k8 ?kT ?p1 ?p2 ?p3 ?kB ?_ ?c2 ?c3 ?c4 ?c5
  case kA => exact rfl
  case kF => exact rfl
  case kK => exact rfl
  case k1 => k_asm
  case k2 => k_asm
  case k3 => k_asm
  case k4 => k_asm
  case k5 => k_asm
  case k6 => k_is
  case k7 => k_is
  case k8 => k_room
  case p1 => exact rfl
  case kT => exact rfl
  case p2 => exact fun _ => rfl
  case p3 => exact fun _ _ => rfl
  case kB => exact fun _ _ => locs rfl
  case c2 => exact rfl
  case c3 => exact rfl
  case c4 => exact rfl
  case c5 => decide
  intro C' D' g' L' h' l3 l4 l5 FG' F' N' B' X' T'
  (try k_lt l3)
  k_lt2 l4
  k_lt2 l5
  (try dsimp only)
  try k_fold
  repeat' (first | (k_unfold; (try dsimp only)) | (k_end; wrow_close) | (refine ks_wpAt_execs_cons ?_) | (refine ks_wpAt_Expr_any ?_; refine ks_wpAt_MethodCall ?_) | walk1 | (dsimp only; walk1) | (leave1; walk_say "STEP leave1"; try dsimp only))
  refine hQ x' d' _ _ _ _ _ _ _ _ _ _ _ (by k_asm) (sub2 (by k_asm) (by k_mem) (by k_mem) ?_) l1 l2
  intro p hp
  walk_at "m_tail"
end Mine
end
section -- X1
open PySem PySem.W PyProof.Rows PySem.Calls
set_option Elab.async false
set_option maxRecDepth 100000
set_option maxHeartbeats 0
namespace Mine
def bodyOf (K : Frag) (a : Addr) : List Stmt := match K.lookup a with
  | some ⟨_, _, .func fd, _⟩ => (match fd.body with | .stmts b => b | _ => [])
  | _ => []
def scopeOf (K : Frag) (a : Addr) : Scope := match K.lookup a with
  | some ⟨_, _, .func fd, _⟩ => fd.scope
  | _ => default
def outB (P : Params) : { b : List Stmt // bodyOf (Mine.hd.heap_39 P) 210 = b } := by
  refine ⟨?b, ?h⟩
  case h =>
    conv => lhs; whnf
def inB (P : Params) : { b : List Stmt // (match (outB P).1 with | _ :: _ :: .FunctionDef _ _ b _ _ _ _ _ _ _ :: _ => b | _ => []) = b } := by
  refine ⟨?b, ?h⟩
  case h =>
    conv => lhs; whnf
def outS (P : Params) : { b : Scope // scopeOf (Mine.hd.heap_39 P) 210 = b } := by
  refine ⟨?b, ?h⟩
  case h =>
    conv => lhs; whnf
def inS (P : Params) : { b : Scope // (match (outB P).1 with | _ :: _ :: .FunctionDef _ _ _ _ _ _ s _ _ _ :: _ => s | _ => default) = b } := by
  refine ⟨?b, ?h⟩
  case h =>
    conv => lhs; whnf
end Mine
end
section -- K1
open PySem PySem.W PyProof.Rows
set_option Elab.async false
set_option maxRecDepth 100000
set_option maxHeartbeats 4000000
namespace Mine
/-! the plain law of the keys: words of four, joined by a blank -/
def okw (c : Nat) : Bool := [103,112,108,50,46,48,111,114,45,97,116,101,120].contains c
theorem okw_cases {P : Nat → Prop} (h : ∀ c ∈ [103,112,108,50,46,48,111,114,45,97,116,101,120], P c) : ∀ c, okw c = true → P c := fun c hc => h c (by simpa [okw] using hc)
theorem sp_w : ∀ c, okw c = true → Unicode.isSpace c = false := okw_cases (by
  intro c hc
  simp only [List.mem_cons, List.not_mem_nil, or_false] at hc
  rcases hc with rfl | rfl | rfl | rfl | rfl | rfl | rfl | rfl | rfl | rfl | rfl | rfl | rfl <;> decide +kernel)
theorem sp_32 : Unicode.isSpace 32 = true := by decide +kernel
theorem low_w : ∀ c, okw c = true → Unicode.lowerOf c = [c] := okw_cases (by
  intro c hc
  simp only [List.mem_cons, List.not_mem_nil, or_false] at hc
  rcases hc with rfl | rfl | rfl | rfl | rfl | rfl | rfl | rfl | rfl | rfl | rfl | rfl | rfl <;> decide +kernel)
theorem low_32 : Unicode.lowerOf 32 = [32] := by decide +kernel
theorem okc_w : ∀ c, okw c = true → okc c = true := okw_cases (by decide)
theorem ne_sig : ∀ c, okc c = true → (c == 0x3A3) = false := by
  have h : ∀ c ∈ [103,112,108,50,46,48,111,114,45,97,116,101,120,32], (c == 0x3A3) = false := by decide
  intro c hc
  exact h c (by simpa [okc] using hc)
theorem low_c : ∀ c, okc c = true → Unicode.lowerOf c = [c] := fun c hc => by
  have h : ∀ c, okc c = true → okw c = true ∨ c = 32 := by
    intro c hc
    have := (show c ∈ [103,112,108,50,46,48,111,114,45,97,116,101,120,32] from by simpa [okc] using hc)
    simp only [List.mem_cons, List.not_mem_nil, or_false] at this
    rcases this with rfl | rfl | rfl | rfl | rfl | rfl | rfl | rfl | rfl | rfl | rfl | rfl | rfl | rfl <;> first | exact .inl rfl | exact .inr rfl
  rcases h c hc with h | rfl
  · exact low_w c h
  · exact low_32
def joinL : List (List Nat) → List Nat
  | [] => []
  | [w] => w
  | w :: r => w ++ 32 :: joinL r
theorem join_toList : ∀ ws : List Str, (Txt.join (Str.ofString " ") ws).cps.toList = joinL (ws.map (·.cps.toList)) := fun ws => by
  show (Builtin.Str.glued _ ws).cps.toList = _
  rw [StrLaws.glued_eq_join]
  induction ws with
  | nil => rfl
  | cons x r ih =>
    cases r with
    | nil => rfl
    | cons y r =>
      show (x ++ Str.ofString " " ++ Str.join (Str.ofString " ") (y :: r)).cps.toList = x.cps.toList ++ 32 :: joinL ((y :: r).map (·.cps.toList))
      rw [← ih]
      simp only [Str.cps_append, Array.toList_append, List.append_assoc]
      rfl
structure GoodL (w : List Nat) : Prop where
  ne : w ≠ []
  ok : ∀ c ∈ w, okw c = true
theorem lower_ok (x : Str) (h : ∀ c ∈ x.cps.toList, okc c = true) : Txt.lower x = x := by
  apply Str.ext'
  show (x.cps.mapIdx fun i c => (Unicode.lowerAt x.cps i).toArray).flatten = x.cps
  have e : (x.cps.mapIdx fun i c => (Unicode.lowerAt x.cps i).toArray) = x.cps.map fun c => #[c] := by
    apply Array.ext
    · simp
    · intro i h1 h2
      have hi : i < x.cps.size := by simpa using h1
      have hc : okc x.cps[i] = true := h _ (by simp)
      simp only [Array.getElem_mapIdx, Array.getElem_map]
      unfold Unicode.lowerAt
      rw [Array.getElem?_eq_getElem hi]
      simp only [ne_sig _ hc, Bool.false_and, Bool.false_eq_true, if_false, low_c _ hc]
  rw [e]
  apply Array.ext'
  have z : ∀ l : List Nat, (l.map fun c => [c]).flatten = l := fun l => by
    induction l with
    | nil => rfl
    | cons a r ih => rw [List.map_cons, List.flatten_cons, ih]; rfl
  simp only [Array.toList_flatten, Array.toList_map, List.map_map]
  exact z _
theorem strip_ok (x : Str) (h1 : ∀ c, x.cps.toList.head? = some c → Unicode.isSpace c = false) (h2 : ∀ c, x.cps.toList.getLast? = some c → Unicode.isSpace c = false) : Txt.strip x = x := by
  have t1 : ∀ l : List Nat, (∀ c, l.head? = some c → Unicode.isSpace c = false) → l.takeWhile Unicode.isSpace = [] := fun l hl => by
    cases l with
    | nil => rfl
    | cons a r => rw [List.takeWhile_cons, hl a rfl]; rfl
  have e1 : stripLo Unicode.isSpace true x = 0 := by unfold stripLo; rw [if_pos rfl, t1 _ h1]; rfl
  have e2 : stripHi Unicode.isSpace true x 0 = x.length := by
    unfold stripHi
    rw [if_pos rfl, List.drop_zero, t1 _ (fun c hc => h2 c (by rw [List.head?_reverse] at hc; exact hc))]
    rfl
  show (if stripSame Unicode.isSpace true true x = true then x else _) = x
  have e : stripSame Unicode.isSpace true true x = true := by unfold stripSame; rw [e1, e2]; simp
  rw [if_pos e]
open PySem.StrLaws PySem.Builtin PySem.Builtin.Str
def spansL : Nat → List (List Nat) → List (Nat × Nat)
  | _, [] => []
  | p, w :: r => (p, p + w.length) :: spansL (p + w.length + 1) r
theorem joinL_cons2 (w v : List Nat) (r : List (List Nat)) : joinL (w :: v :: r) = w ++ 32 :: joinL (v :: r) := rfl
theorem getD_drop {x : Str} {p : Nat} {l : List Nat} (h : x.cps.toList.drop p = l) (k : Nat) : x.cps.getD (p + k) 0 = l.getD k 0 := by
  subst h
  rw [List.getD_eq_getElem?_getD, List.getElem?_drop, Array.getD_eq_getD_getElem?]
  simp
theorem run_word (x : Str) (limit m b : Nat) (arr : Array (Nat × Nat)) (ha : arr.size ≠ limit) : ∀ (n p : Nat), (∀ k, k < n → Unicode.isSpace (x.cps.getD (p + k) 0) = false) →
    (forIn (List.range' p (n + m)) ((none, arr, some b) : SwSt) (swBody x limit) : Id SwSt) = forIn (List.range' (p + n) m) ((none, arr, some b) : SwSt) (swBody x limit)
  | 0, p, _ => by rw [Nat.zero_add, Nat.add_zero]
  | n + 1, p, h => by
    have e : n + 1 + m = (n + m) + 1 := by omega
    rw [e, List.range'_succ, List.forIn_cons]
    have hb : swBody x limit p (none, arr, some b) = pure (ForInStep.yield (none, arr, some b)) := by
      unfold swBody
      have h0 := h 0 (by omega)
      rw [Nat.add_zero] at h0
      rw [if_neg (by simpa using ha), h0]
    rw [hb, pure_bind]; dsimp only
    have ih := run_word x limit m b arr ha n (p + 1) (fun k hk => by
      have := h (k + 1) (by omega)
      rw [show p + (k + 1) = p + 1 + k by omega] at this
      exact this)
    rw [show p + (n + 1) = p + 1 + n by omega]
    exact ih
theorem run_words (x : Str) (limit : Nat) : ∀ (ws : List (List Nat)) (p : Nat) (arr : Array (Nat × Nat)), ws ≠ [] → (∀ w ∈ ws, GoodL w) → x.cps.toList.drop p = joinL ws → arr.size ≤ p → x.length < limit → p + (joinL ws).length = x.length →
    swEnd x (Id.run (forIn (List.range' p (joinL ws).length) ((none, arr, none) : SwSt) (swBody x limit))) = arr.toList ++ spansL p ws
  | [], _, _, h, _, _, _, _, _ => absurd rfl h
  | w :: r, p, arr, _, hg, hd, ha, hl, hs => by
    have gw := hg w (.head _)
    obtain ⟨c, w', rfl⟩ : ∃ c w', w = c :: w' := by
      cases w with
      | nil => exact absurd rfl gw.ne
      | cons c w' => exact ⟨c, w', rfl⟩
    have hpl : p < x.length := by
      cases r with
      | nil => simp [joinL] at hs; omega
      | cons v r => rw [joinL_cons2] at hs; simp at hs; omega
    have hal : arr.size ≠ limit := by omega
    have hj : ∃ t, joinL ((c :: w') :: r) = (c :: w') ++ t := by
      cases r with
      | nil => exact ⟨[], by simp [joinL]⟩
      | cons v r => exact ⟨_, joinL_cons2 _ _ _⟩
    have hw : ∀ k, k < w'.length + 1 → Unicode.isSpace (x.cps.getD (p + k) 0) = false := fun k hk => by
      obtain ⟨t, ht⟩ := hj
      rw [getD_drop (hd.trans ht) k]
      have : ((c :: w') ++ t).getD k 0 = (c :: w')[k]'(by simpa using hk) := by
        rw [List.getD_eq_getElem?_getD, List.getElem?_append_left (by simpa using hk), List.getElem?_eq_getElem (by simpa using hk)]
        rfl
      rw [this]
      exact sp_w _ (gw.ok _ (List.getElem_mem _))
    have hb : swBody x limit p (none, arr, none) = pure (ForInStep.yield (none, arr, some p)) := by
      unfold swBody
      have h0 := hw 0 (by omega)
      rw [Nat.add_zero] at h0
      rw [if_neg (by simpa using hal), h0]
    cases r with
    | nil =>
      have e : (joinL [c :: w']).length = w'.length + 1 := rfl
      rw [e, List.range'_succ, List.forIn_cons, hb, pure_bind]; dsimp only
      have z := run_word x limit 0 p arr hal w'.length (p + 1) (fun k hk => by
        have := hw (k + 1) (by omega)
        rw [show p + (k + 1) = p + 1 + k by omega] at this
        exact this)
      simp only [Nat.add_zero] at z
      rw [z]
      show swEnd x (none, arr, some p) = _
      rw [e] at hs
      show (arr.push (p, x.length)).toList = _
      rw [Array.toList_push, ← hs]
      rfl
    | cons v r =>
      have e : (joinL ((c :: w') :: v :: r)).length = (w'.length + (1 + (joinL (v :: r)).length)) + 1 := by
        rw [joinL_cons2]; simp; omega
      rw [e, List.range'_succ, List.forIn_cons, hb, pure_bind]; dsimp only
      have z := run_word x limit (1 + (joinL (v :: r)).length) p arr hal w'.length (p + 1) (fun k hk => by
        have := hw (k + 1) (by omega)
        rw [show p + (k + 1) = p + 1 + k by omega] at this
        exact this)
      rw [z, Nat.add_comm 1, List.range'_succ, List.forIn_cons]
      have hq : Unicode.isSpace (x.cps.getD (p + 1 + w'.length) 0) = true := by
        rw [show p + 1 + w'.length = p + (w'.length + 1) by omega, getD_drop hd, joinL_cons2]
        have : ((c :: w') ++ 32 :: joinL (v :: r)).getD (w'.length + 1) 0 = 32 := by
          rw [List.getD_eq_getElem?_getD, List.getElem?_append_right (by simp)]
          simp
        rw [this]; exact sp_32
      have hb2 : swBody x limit (p + 1 + w'.length) (none, arr, some p) = pure (ForInStep.yield (none, arr.push (p, p + 1 + w'.length), none)) := by
        unfold swBody
        rw [if_neg (by simpa using hal), hq]
      rw [hb2, pure_bind]; dsimp only
      have ih := run_words x limit (v :: r) (p + 1 + w'.length + 1) (arr.push (p, p + 1 + w'.length)) (by simp) (fun u hu => hg u (.tail _ hu)) (by
          have := congrArg (List.drop (w'.length + 2)) hd
          rw [List.drop_drop, joinL_cons2] at this
          rw [show p + 1 + w'.length + 1 = p + (w'.length + 2) by omega, this]
          rw [show (c :: w') ++ 32 :: joinL (v :: r) = ((c :: w') ++ [32]) ++ joinL (v :: r) by simp]
          rw [List.drop_append_of_le_length (by simp)]
          simp)
        (by simp; omega) hl (by rw [e] at hs; omega)
      rw [ih, Array.toList_push, List.append_assoc]
      show _ = arr.toList ++ ((p, p + (w'.length + 1)) :: spansL (p + (w'.length + 1) + 1) (v :: r))
      rw [show p + (w'.length + 1) = p + 1 + w'.length by omega]
      rfl
theorem spans_sub (x : Str) : ∀ (ws : List (List Nat)) (p : Nat), x.cps.toList.drop p = joinL ws → (spansL p ws).map (fun (q : Nat × Nat) => strSub x q.1 q.2) = ws.map fun w => (⟨w.toArray⟩ : Str)
  | [], _, _ => rfl
  | w :: r, p, hd => by
    have hj : ∃ t, joinL (w :: r) = w ++ t := by
      cases r with
      | nil => exact ⟨[], by simp [joinL]⟩
      | cons v r => exact ⟨_, joinL_cons2 _ _ _⟩
    obtain ⟨t, ht⟩ := hj
    have h1 : strSub x p (p + w.length) = ⟨w.toArray⟩ := by
      apply Str.ext'
      apply Array.ext'
      rw [strSub_toList, hd, ht, Nat.add_sub_cancel_left, List.take_append_of_le_length (Nat.le_refl _), List.take_length]
    show strSub x p (p + w.length) :: _ = _
    rw [h1]
    cases r with
    | nil => rfl
    | cons v r =>
      have ih := spans_sub x (v :: r) (p + w.length + 1) (by
        have := congrArg (List.drop (w.length + 1)) hd
        rw [List.drop_drop, joinL_cons2] at this
        rw [Nat.add_assoc, this, show w ++ 32 :: joinL (v :: r) = (w ++ [32]) ++ joinL (v :: r) by simp]
        rw [List.drop_append_of_le_length (by simp)]
        simp)
      rw [ih]; rfl
theorem words_ok {x : Str} {ws : List (List Nat)} (hx : x.cps.toList = joinL ws) (hne : ws ≠ []) (hg : ∀ w ∈ ws, GoodL w) : Txt.words x = ws.map fun w => (⟨w.toArray⟩ : Str) := by
  have hl : x.length = (joinL ws).length := by rw [← hx]; rfl
  have h1 : spaceWords x (x.length + 1) = spansL 0 ws := by
    rw [sw_eq]
    have z := run_words x (x.length + 1) ws 0 #[] hne hg (by rw [List.drop_zero]; exact hx) (Nat.zero_le _) (Nat.lt_succ_self _) (by rw [Nat.zero_add]; exact hl.symm)
    rw [← hl] at z
    simpa using z
  have h2 : Txt.words x = PySem.wordsOf x := by
    unfold Txt.words
    split
    · rename_i h
      unfold PySem.wordsOf
      rw [eq_of_beq h]
      show [x] = [strSub x 0 x.length]
      rw [sub_whole]
    · rfl
  rw [h2]
  unfold PySem.wordsOf
  rw [h1]
  exact spans_sub x ws 0 (by rw [List.drop_zero]; exact hx)
abbrev menu : List Str := [Str.ofString "gpl", Str.ofString "2.0", Str.ofString "or-later", Str.ofString "x"]
theorem menu_good : ∀ s ∈ menu, GoodL s.cps.toList ∧ s.length ≤ 8 ∧ Txt.strip s = s ∧ 1 ≤ s.length := by
  intro s hs
  simp only [menu, List.mem_cons, List.not_mem_nil, or_false] at hs
  rcases hs with rfl | rfl | rfl | rfl <;> exact ⟨⟨by decide, by decide⟩, by decide, by decide +kernel, by decide⟩
theorem joinL_chars : ∀ (ws : List (List Nat)), (∀ w ∈ ws, GoodL w) → ∀ c ∈ joinL ws, okc c = true
  | [], _, c, h => nomatch h
  | [w], hg, c, h => okc_w c ((hg w (.head _)).ok c h)
  | w :: v :: r, hg, c, h => by
    rw [joinL_cons2] at h
    rcases List.mem_append.mp h with h | h
    · exact okc_w c ((hg w (.head _)).ok c h)
    · rcases List.mem_cons.mp h with rfl | h
      · decide
      · exact joinL_chars (v :: r) (fun u hu => hg u (.tail _ hu)) c h
theorem joinL_head : ∀ (ws : List (List Nat)), ws ≠ [] → (∀ w ∈ ws, GoodL w) → ∃ c t, joinL ws = c :: t ∧ okw c = true
  | [], h, _ => absurd rfl h
  | [w], _, hg => by
    have g := hg w (.head _)
    cases w with
    | nil => exact absurd rfl g.ne
    | cons c t => exact ⟨c, t, rfl, g.ok c (.head _)⟩
  | w :: v :: r, _, hg => by
    have g := hg w (.head _)
    cases w with
    | nil => exact absurd rfl g.ne
    | cons c t => exact ⟨c, _, rfl, g.ok c (.head _)⟩
theorem joinL_last : ∀ (ws : List (List Nat)), ws ≠ [] → (∀ w ∈ ws, GoodL w) → ∃ c t, joinL ws = t ++ [c] ∧ okw c = true
  | [], h, _ => absurd rfl h
  | [w], _, hg => by
    have g := hg w (.head _)
    exact ⟨w.getLast g.ne, w.dropLast, (List.dropLast_concat_getLast g.ne).symm, g.ok _ (List.getLast_mem g.ne)⟩
  | w :: v :: r, _, hg => by
    obtain ⟨c, t, e, h⟩ := joinL_last (v :: r) (by simp) (fun u hu => hg u (.tail _ hu))
    exact ⟨c, w ++ 32 :: t, by rw [joinL_cons2, e]; simp, h⟩
theorem joinL_len : ∀ (ws : List (List Nat)), (∀ w ∈ ws, w.length ≤ 8) → (joinL ws).length ≤ 9 * ws.length
  | [], _ => Nat.le_refl _
  | [w], h => by have := h w (.head _); show w.length ≤ _; simp; omega
  | w :: v :: r, h => by
    have ih := joinL_len (v :: r) (fun u hu => h u (.tail _ hu))
    have := h w (.head _)
    rw [joinL_cons2]
    simp only [List.length_append, List.length_cons] at ih ⊢
    omega
theorem joinL_first : ∀ (w : List Nat) (r : List (List Nat)), ∃ t, joinL (w :: r) = w ++ t
  | w, [] => ⟨[], by simp [joinL]⟩
  | w, v :: r => ⟨_, joinL_cons2 w v r⟩
theorem first_of {s : Str} (hs : s ∈ menu) {t : List Nat} {key : Str} (hk : key.cps.toList = s.cps.toList ++ t) : ∀ k ∈ ([Str.ofString "and", Str.ofString "or", Str.ofString "(", Str.ofString ")", Str.ofString "with"] : List Str), (k == key) = false := by
  intro k hk'
  refine beq_eq_false_iff_ne.mpr fun e => ?_
  subst e
  have h1 : ∀ s ∈ menu, ∀ k ∈ ([Str.ofString "and", Str.ofString "or", Str.ofString "(", Str.ofString ")", Str.ofString "with"] : List Str), s.cps.toList.isPrefixOf k.cps.toList = false := by decide
  have h2 := h1 s hs _ hk'
  rw [hk, List.isPrefixOf_iff_prefix.mpr (List.prefix_append _ _)] at h2
  cases h2
theorem key_ok {ws : List Str} (hne : ws ≠ []) (hm : ∀ s ∈ ws, s ∈ menu) (hl : ws.length ≤ 100) : KeyOk (Txt.join (Str.ofString " ") ws) := by
  have hx := join_toList ws
  generalize hkey : Txt.join (Str.ofString " ") ws = key at hx ⊢
  have hne' : ws.map (·.cps.toList) ≠ [] := by simpa using hne
  have hg : ∀ w ∈ ws.map (·.cps.toList), GoodL w := fun w hw => by
    obtain ⟨s, hs, rfl⟩ := List.mem_map.mp hw
    exact (menu_good s (hm s hs)).1
  have hlen : key.length = (joinL (ws.map (·.cps.toList))).length := by rw [← hx]; rfl
  obtain ⟨c1, t1, e1, o1⟩ := joinL_head _ hne' hg
  obtain ⟨c2, t2, e2, o2⟩ := joinL_last _ hne' hg
  have hch : ∀ c ∈ key.cps.toList, okc c = true := fun c hc => joinL_chars _ hg c (by rw [← hx]; exact hc)
  refine ⟨?_, ?_, hch, ?_, ?_, lower_ok _ hch, ?_⟩
  · have z := joinL_len (ws.map (·.cps.toList)) (fun w hw => by
      obtain ⟨s, hs, rfl⟩ := List.mem_map.mp hw
      exact (menu_good s (hm s hs)).2.1)
    rw [hlen]
    simp only [List.length_map] at z
    omega
  · rw [hlen, e1]; simp
  · refine strip_ok _ (fun c hc => ?_) (fun c hc => ?_)
    · rw [hx, e1] at hc
      rw [← Option.some.inj hc]; exact sp_w _ o1
    · rw [hx, e2, List.getLast?_append] at hc
      rw [← Option.some.inj hc]; exact sp_w _ o2
  · rw [words_ok hx hne' hg]
    have : (ws.map (·.cps.toList)).map (fun w => (⟨w.toArray⟩ : Str)) = ws := by
      rw [List.map_map]
      exact (List.map_congr_left (g := fun s => s) fun s _ => rfl).trans (List.map_id' _)
    rw [this]; exact hkey
  · cases ws with
    | nil => exact absurd rfl hne
    | cons s r =>
      obtain ⟨t, ht⟩ := joinL_first s.cps.toList (r.map (·.cps.toList))
      exact first_of (hm s (.head _)) (hx.trans ht)
end Mine
end
section -- L0
open PySem PySem.W PyProof.Rows PySem.Calls
set_option Elab.async false
set_option maxRecDepth 100000
set_option maxHeartbeats 12000000
namespace Mine
section
variable {prog : Program} {w : World} {A : Around} {E : Value → Shared → Prop} {s : Shared} {env : Env} {h₀ : Heap} {x : Str} {body : List Stmt} {Q : Flow → Shared → Prop}
/-- one turn of a loop whose ledger may grow -/
def RTurn (h₀ : Heap) (L : Addr) (s₁ : Shared) (I : Addr) (it : Obj) (J : (Str → Option Value) → List (Addr × Obj) → Prop) (s₂ : Shared) : Prop :=
  ∃ h' tk m' nx, s₂ = { s₁ with heap := h', toks := tk } ∧ Fr h₀ L h' m' ∧ News h₀ L h' ((I, it) :: nx) ∧ (∀ p ∈ nx, p.1 ≠ I) ∧ J m' nx
theorem range_inv {r : Addr} {a₀ b₀ : Int} {t₀ u₀ v₀ : Tok} {n : Nat} {m₀ : Str → Option Value} {news : List (Addr × Obj)} (J : Nat → (Str → Option Value) → List (Addr × Obj) → Prop)
    (hh : A.handled = none) (hr : IsRange s.heap r a₀ b₀ 1 t₀ u₀ v₀) (hsmall : Builtin.Range.small a₀ b₀ 1 = true) (hn : Builtin.Range.rangeSize a₀ b₀ 1 = (n : Int)) (F : Fr h₀ env.locals s.heap m₀) (N : News h₀ env.locals s.heap news) (h0 : J 0 m₀ news)
    (turn : ∀ I i t m₁ nx h tk, i < n → J i m₁ nx → (∀ p ∈ nx, p.1 ≠ I) → Fr h₀ env.locals h (fun y => if y = x then some (.int (a₀ + (i : Int)) t) else m₁ y) → News h₀ env.locals h ((I, itR (a₀ + ((i + 1 : Nat) : Int)) ((n : Int) - ((i + 1 : Nat) : Int))) :: nx) →
      wpAny (model prog w) A (execs body env) (fun f s₂ => f = .next ∧ RTurn h₀ env.locals { s with heap := h, toks := tk } I (itR (a₀ + ((i + 1 : Nat) : Int)) ((n : Int) - ((i + 1 : Nat) : Int))) (J (i + 1)) s₂) E { s with heap := h, toks := tk })
    (done : ∀ m₁ nx h tk, J n m₁ nx → Fr h₀ env.locals h m₁ → News h₀ env.locals h nx → Q .next { s with heap := h, toks := tk }) :
    wpAny (model prog w) A (pyIter (.ref r)) (fun it s₂ => LoopAtV prog w A h₀ env x body Q E it s₂) E s := by
  refine wpAny_pyIter_range hr hsmall ?_
  have W : Walks prog w A s.heap.objs.size [s.heap.objs.size] [s.heap.objs.size] n (fun i v => i < n ∧ ∃ t, v = .int (a₀ + i * 1) t)
      (fun i h => IsRangeIter h s.heap.objs.size (a₀ + (i : Nat) * 1) ((n : Int) - (i : Nat)) 1) := (Walks.range hh _ a₀ 1 n).bound
  have hnew := next_is_new F
  refine ⟨_, _, _, n, _, _, m₀, news, J, rfl, W, ?_, ?_, ?_, (by show IsRangeIter _ _ _ _ _; rw [hn]; simpa using Heap.get?_push_size _ rfl), F.push _, (fun p hp => ⟨Heap.get?_push_of_some _ (N p hp).1, (N p hp).2⟩), h0, ?_, ?_⟩
  · intro hm
    exact absurd F.ns.lt ((List.mem_singleton.mp hm) ▸ Nat.lt_irrefl _)
  · intro b hb
    rw [List.mem_singleton.mp hb]
    exact hnew
  · intro p hp hI
    exact absurd (Heap.lt_size (N p hp).1) ((List.mem_singleton.mp hI) ▸ Nat.lt_irrefl _)
  · rintro i v m₁ nx s₁ own ⟨hh', tk', rfl⟩ hin ⟨_, t, rfl⟩ hJ hoff hown hget hall hst F₁ N₁
    have hst' : hh'.get? s.heap.objs.size = some (itR (a₀ + ((i + 1 : Nat) : Int)) ((n : Int) - ((i + 1 : Nat) : Int))) := by
      have q : IsRangeIter hh' s.heap.objs.size (a₀ + ((i + 1 : Nat) : Int) * 1) ((n : Int) - ((i + 1 : Nat) : Int)) 1 := hst
      rw [Int.mul_one] at q
      exact q
    have hmem := hall s.heap.objs.size (List.mem_singleton.mpr rfl) hnew _ hst'
    have e1 : a₀ + (i : Int) * 1 = a₀ + (i : Int) := by rw [Int.mul_one]
    rw [e1] at F₁
    have hoff' : ∀ p ∈ nx, p.1 ≠ s.heap.objs.size := fun p hp e => hoff p hp (List.mem_singleton.mpr e)
    have N₂ : News h₀ env.locals hh' ((s.heap.objs.size, itR (a₀ + ((i + 1 : Nat) : Int)) ((n : Int) - ((i + 1 : Nat) : Int))) :: nx) := fun p hp => by
      rcases List.mem_cons.mp hp with rfl | hp
      · exact N₁ _ (List.mem_append_left _ hmem)
      · exact N₁ _ (List.mem_append_right _ hp)
    refine wpAny_mono (turn _ i t m₁ nx hh' tk' hin hJ hoff' F₁ N₂) (fun f s₂ p => ?_) fun _ _ e => e
    obtain ⟨rfl, h', tk, m', nx', e, F', N', ho, hj⟩ := p
    refine .next ⟨rfl, h', tk, m', nx', e, F', fun p hp => ?_, fun p hp hI => ho p hp (List.mem_singleton.mp hI), hj⟩
    rcases List.mem_append.mp hp with hp | hp
    · have h1 : p.1 = s.heap.objs.size := List.mem_singleton.mp (hown p hp)
      have h2 : hh'.get? p.1 = some p.2 := hget p hp
      have h3 : p = (s.heap.objs.size, itR (a₀ + ((i + 1 : Nat) : Int)) ((n : Int) - ((i + 1 : Nat) : Int))) := by
        rw [h1, hst'] at h2
        exact Prod.ext h1 (Option.some.inj h2).symm
      rw [h3]; exact N' _ (List.mem_cons_self ..)
    · exact N' _ (List.mem_cons_of_mem _ hp)
  · rintro h' tk m' nx' F' N' _ hJ
    exact done m' nx' h' tk hJ F' N'
end
end Mine
end
section -- L2
open PySem PySem.W PyProof.Rows PySem.Calls
set_option Elab.async false
set_option maxRecDepth 100000
set_option maxHeartbeats 12000000
namespace Mine
/-- enter a plain def; what the sub-ledger does not name lies still in the callee's base -/
theorem defEnterF {prog : Program} {w : World} {A A₀ : Around} {s : Shared} {K : Frag} {L : Addr} {h₀ base : Heap} {m mg mb : Str → Option Value} {sub : List (Addr × Obj)} {p : Program} {loose : List Str} {mean : ExcName → Option Value}
    {env : Env} {outer : List Env} {R : Result → Shared → Prop} {name qual : Str} {params : Arguments} {body : List Stmt} {scope : Scope} {dV kV doc pm cdv ct oc : Value} {an od : Option Addr} {osl : Array (Option Value)} {f : Addr} {args : Args} {binds : List (Str × Value)}
    (B : Below A₀ base outer h₀) (F : Fr h₀ L s.heap m) (X₀ : K.In h₀) (N : News h₀ L s.heap sub) (T : Top p loose mean mg mb h₀) (hA : A.frames = some (env :: outer)) (hf : env.frame = some L) (hke : env.scope.kind = .function)
    (ho : K.lookup f = some ⟨oc, od, .func (fnX name qual params body scope [] dV kV doc pm an cdv ct), osl⟩) (hcd : codeIn K cdv qual = true) (hroom : A.depth < recursionLimit)
    (hbind : BindsTo s (fnX name qual params body scope [] dV kV doc pm an cdv ct) args binds) (hloc : ∀ y ∈ binds, scope.names.lookup y.1 = some .local)
    (h : ∀ (g : Heap) (L' : Addr) (h₁ : Heap), (∀ b o, s.heap.get? b = some o → b ∉ sub.map (·.1) → g.get? b = some o) → (∀ b o, g.get? b = some o → s.heap.get? b = some o) → s.heap.objs.size ≤ L' → Fr g L' h₁ (fun y => binds.reverse.lookup y) → News g L' h₁ sub → Below A base (env :: outer) g → K.In g → Top p loose mean mg mb g →
      wpAny (model prog w) (A.deeper (envX qual scope L' f cdv [])) (execs body (envX qual scope L' f cdv [])) (fun fl s' => R (.ok (.ret (match fl with | .ret v => v | _ => .none))) s') (fun _ _ => False) { s with heap := h₁, toks := s.toks + binds.length })
    (hcell : ∀ x ∈ scope.names, x.2 ≠ .cell) (hco : scope.isCoroutine = false := by rfl) (hgen : scope.isGenerator = false := by rfl) (hk : scope.kind = .function := by rfl) : codeAny (model prog w) A (.call (.ref f) args) R s := by
  obtain ⟨FG, BG, st, _⟩ := groundX (R := R) B F N hA hf hke
  refine codeAny_call_def (fd := fnX name qual params body scope [] dV kV doc pm an cdv ct) (body := body) (binds := binds) hroom ((X₀.keeps F.keep) _ _ ho) rfl (T.nolimit.keeps F.keep) (codeRec_of (X₀.keeps F.keep) hcd) rfl hbind hcell hloc (fun h₁ hns hk₁ => ?_) hco hgen hk
  exact wpAny_mono (h _ s.heap.objs.size h₁ (fun b o e hn => hideAll_get _ e hn) (fun b o e => of_hideAll _ e) (Nat.le_refl _) ⟨hns, fun b o e => hk₁ b o (of_hideAll _ e), Nat.le_of_eq (hideAll_size _ _)⟩
    (fun q hq => ⟨hk₁ _ _ (N q hq).1, Nat.ne_of_lt (Heap.lt_size (N q hq).1), hideAll_none _ (List.mem_map_of_mem hq)⟩) BG (X₀.keeps st) (T.keeps st)) (fun fl s' hl => hl) fun _ _ y => y.elim
end Mine
end
section -- L3
open PySem PySem.W PyProof.Rows PySem.Calls
set_option Elab.async false
set_option maxRecDepth 100000
set_option maxHeartbeats 12000000
namespace Mine
section
variable {prog : Program} {w : World} {A : Around} {E : Value → Shared → Prop} {s : Shared} {env : Env} {h₀ : Heap} {x : Str} {body : List Stmt} {Q : Flow → Shared → Prop}
/-- a loop over a list that lies in the base, by an invariant; the ledger may grow -/
theorem list_inv {l : Addr} {vs : List Value} {m₀ : Str → Option Value} {news : List (Addr × Obj)} (J : Nat → (Str → Option Value) → List (Addr × Obj) → Prop)
    (hh : A.handled = none) (hl : h₀.IsList l vs.toArray) (F : Fr h₀ env.locals s.heap m₀) (N : News h₀ env.locals s.heap news) (h0 : J 0 m₀ news)
    (turn : ∀ I oI i v m₁ nx h tk, vs[i]? = some v → oI.cls = .type "list_iterator" → J i m₁ nx → (∀ p ∈ nx, p.1 ≠ I) → Fr h₀ env.locals h (fun y => if y = x then some v else m₁ y) → News h₀ env.locals h ((I, oI) :: nx) →
      wpAny (model prog w) A (execs body env) (fun f s₂ => f = .next ∧ RTurn h₀ env.locals { s with heap := h, toks := tk } I oI (J (i + 1)) s₂) E { s with heap := h, toks := tk })
    (done : ∀ m₁ nx h tk, J vs.length m₁ nx → Fr h₀ env.locals h m₁ → News h₀ env.locals h nx → Q .next { s with heap := h, toks := tk }) :
    wpAny (model prog w) A (pyIter (.ref l)) (fun it s₂ => LoopAtV prog w A h₀ env x body Q E it s₂) E s := by
  have hls : s.heap.IsList l vs.toArray := hl.at fun o e => F.keep l o e
  obtain ⟨ol, hol, _⟩ := id hl
  have hlt : l < h₀.objs.size := Heap.lt_size hol
  have hne : l ≠ s.heap.objs.size := Nat.ne_of_lt (Nat.lt_trans (Nat.lt_of_lt_of_le hlt F.above) F.ns.lt)
  refine wpAny_pyIter_list hls ?_
  have W := Walks.list (prog := prog) (w := w) hh s.heap.objs.size l hne vs.toArray
  have hlen : vs.toArray.size = vs.length := by simp
  rw [hlen] at W
  have hnew := next_is_new F
  refine ⟨_, _, _, vs.length, _, _, m₀, news, J, rfl, W, ?_, ?_, ?_, ⟨⟨_, Heap.get?_push_size _ rfl, rfl, rfl⟩, hls.at fun o e => Heap.get?_push_of_some _ e⟩, F.push _, (fun p hp => ⟨Heap.get?_push_of_some _ (N p hp).1, (N p hp).2⟩), h0, ?_, ?_⟩
  · intro hm
    rcases List.mem_cons.mp hm with e | hm
    · exact absurd F.ns.lt (e ▸ Nat.lt_irrefl _)
    · exact absurd (Nat.lt_of_lt_of_le hlt F.above) ((List.mem_singleton.mp hm) ▸ Nat.lt_irrefl _)
  · intro b hb
    rw [List.mem_singleton.mp hb]
    exact hnew
  · intro p hp hI
    exact absurd (Heap.lt_size (N p hp).1) ((List.mem_singleton.mp hI) ▸ Nat.lt_irrefl _)
  · rintro i v m₁ nx s₁ own ⟨hh', tk', rfl⟩ hin hP hJ hoff hown hget hall hst F₁ N₁
    obtain ⟨⟨oI, hoI, hIc, _⟩, _⟩ := hst
    have hmem := hall s.heap.objs.size (.head _) hnew _ hoI
    have hv : vs[i]? = some v := by simpa using hP
    have hoff' : ∀ p ∈ nx, p.1 ≠ s.heap.objs.size := fun p hp e => hoff p hp (List.mem_singleton.mpr e)
    have N₂ : News h₀ env.locals hh' ((s.heap.objs.size, oI) :: nx) := fun p hp => by
      rcases List.mem_cons.mp hp with rfl | hp
      · exact N₁ _ (List.mem_append_left _ hmem)
      · exact N₁ _ (List.mem_append_right _ hp)
    refine wpAny_mono (turn _ oI i v m₁ nx hh' tk' hv hIc hJ hoff' F₁ N₂) (fun f s₂ p => ?_) fun _ _ e => e
    obtain ⟨rfl, h', tk, m', nx', e, F', N', ho, hj⟩ := p
    refine .next ⟨rfl, h', tk, m', nx', e, F', fun p hp => ?_, fun p hp hI => ho p hp (List.mem_singleton.mp hI), hj⟩
    rcases List.mem_append.mp hp with hp | hp
    · have h1 : p.1 = s.heap.objs.size := by
        rcases List.mem_cons.mp (hown p hp) with q | q
        · exact q
        · have z := (N₁ p (List.mem_append_left _ hp)).2.2
          rw [List.mem_singleton.mp q, hol] at z; cases z
      have h2 : hh'.get? p.1 = some p.2 := hget p hp
      have h3 : p = (s.heap.objs.size, oI) := by
        rw [h1, hoI] at h2
        exact Prod.ext h1 (Option.some.inj h2).symm
      rw [h3]; exact N' _ (List.mem_cons_self ..)
    · exact N' _ (List.mem_cons_of_mem _ hp)
  · rintro h' tk m' nx' F' N' _ hJ
    exact done m' nx' h' tk hJ F' N'
end
end Mine
end
section -- T1
open PySem PySem.W PyProof.Rows
set_option Elab.async false
set_option maxRecDepth 100000
set_option maxHeartbeats 0
namespace Mine
def tokObj (dx : Addr) (st en : Int) (ts te tk : Tok) (sg : Str) (v : Value) : Obj := { cls := .ref 183, dict := some dx, slots := #[some (.int en te), some (.int st ts), some (.str sg tk), some v] }
theorem ltN {a b : Addr} (h : a < b) : @LT.lt Nat instLTNat a b := h
theorem ne_tail2 {d x : Addr} {news : List (Addr × Obj)} (h : ∀ p ∈ news, p.1 < d) (hx : @LE.le Nat instLENat d x) : ∀ p ∈ news, p.1 ≠ x := fun p hp => Nat.ne_of_lt (Nat.lt_of_lt_of_le (h p hp) hx)
local macro_rules | `(tactic| walk_at "m_tail") => `(tactic| first | assumption | (refine List.Mem.tail _ ?_; walk_at "m_tail"))
local macro_rules | `(tactic| k_all) => `(tactic| first | exact List.forall_mem_nil _ | (refine' List.forall_mem_cons.mpr ⟨?a, ?b⟩; (case a => k_ne); (case b => k_all)) | exact ne_tail2 (by assumption) (by omega))
theorem token_call : ∀ {w : World} {A₀ : Around} {base h₀ : Heap} {outer : List Env} {gs : Option (List Code)} {nm : List (Str × NameKind)} {ig ic : Bool} {mo : List (Str × Const)} {lc gl : Addr} {cl : List (Str × Addr)} {q : Str} {fn : Option Addr} {cd : Value} {L bi : Addr}
   {m mg mb : Str → Option Value} {p : Program} {loose : List Str} {mean : ExcName → Option Value} {news : List (Addr × Obj)} {s : Shared} {Q : Value → Shared → Prop} {E : Value → Shared → Prop} {st en : Int} {ts te tk : Tok} {sg : Str} {v : Value},
   (Mine.hd.heap_39 w.params).In h₀ → Top p loose mean mg mb h₀ → Below A₀ base outer h₀ → Fr h₀ L s.heap m → News h₀ L s.heap news →
   (∀ (x dx : Addr) (h' : Heap) (tk' : Tok), Fr h₀ L h' m → News h₀ L h' ((x, tokObj dx st en ts te tk sg v) :: (dx, dictOf [] 0) :: news) → (∀ p ∈ news, p.1 < dx) → dx < x → Q (.ref x) { s with heap := h', toks := tk' }) →
   wpAny (model PySem.Challenge.rw_ew0014_01.row.prog w) (AA (EE nm ig ic mo lc gl cl q fn cd L bi :: outer) gs) (call (.ref 183) [.int st ts, .int en te, .str sg tk, v] []) Q E s := by
  k_fill
  intro w A₀ base h₀ outer gs nm ig ic mo lc gl cl q fn cd L bi m mg mb p loose mean news s Q E st en ts te tk sg v X T B F N hQ
  try k_fold
  repeat' (first | (k_unfold; (try dsimp only)) | (k_end; wrow_close) | walk1 | (dsimp only; walk1) | (leave1; walk_say "STEP leave1"; try dsimp only))
  exact hQ _ _ _ _ (by k_asm) (by k_asm) (by assumption) (by assumption)
end Mine
end
section -- D1
open PySem PySem.W PyProof.Rows
set_option Elab.async false
set_option maxRecDepth 100000
set_option maxHeartbeats 0
namespace Mine
open PySem.W.X (SegX)
abbrev cellObj (o : Obj) (v : Option Value) : Obj := { o with data := .cell v }
structure Tk where
  a : Addr
  dx : Addr
  st : Int
  en : Int
  ts : Tok
  te : Tok
  tk : Tok
  sg : Str
  v : Value
def Tk.obj (t : Tk) : Obj := tokObj t.dx t.st t.en t.ts t.te t.tk t.sg t.v
def TkIn (h : Heap) (t : Tk) : Prop := h.get? t.a = some t.obj ∧ h.get? t.dx = some (dictOf [] 0)
theorem TkIn.keeps {h h' : Heap} {t : Tk} (x : TkIn h t) (k : ∀ b o, h.get? b = some o → h'.get? b = some o) : TkIn h' t := ⟨k _ _ x.1, k _ _ x.2⟩
theorem inst_tok {h : Heap} {t : Tk} (x : TkIn h t) : InstAt h t.a t.obj 183 (some (dictOf [] 0)) := ⟨x.1, rfl, rfl, x.2⟩
abbrev rf (t : Tk) : Value := .ref t.a
structure Word (t : Tk) : Prop where
  strip : Txt.strip t.sg = t.sg
  pos : 1 ≤ t.sg.length
  len : t.sg.length ≤ 100
structure Blank (t : Tk) : Prop where
  sg : t.sg = Str.ofString " "
theorem strip_word {prog : Program} {w : World} {A : Around} {E : Value → Shared → Prop} {s : Shared} {t : Tok} {x : Tk} {Q : Value → Shared → Prop} (hx : Word x) (h : ∀ t' k, Q (.str x.sg t') { s with toks := k }) : wpAny (model prog w) A (call (.builtin "str.strip") [.str x.sg t]) Q E s :=
  KXw.strip hx.strip (Nat.le_trans hx.len (by decide)) h
theorem truthy_word {prog : Program} {w : World} {A : Around} {E : Value → Shared → Prop} {s : Shared} {t : Tok} {x : Tk} {Q : Bool → Shared → Prop} (hx : Word x) (h : ∀ k, Q true { s with toks := k }) : wpAny (model prog w) A (truthy (.str x.sg t)) Q E s :=
  KXt.truthy_pos (K := 1000) hx.pos (Nat.le_trans hx.len (by decide)) (by decide) h
theorem strip_blank {prog : Program} {w : World} {A : Around} {E : Value → Shared → Prop} {s : Shared} {t : Tok} {x : Tk} {Q : Value → Shared → Prop} (hx : Blank x) (h : ∀ t' k, Q (.str (Str.ofString "") t') { s with toks := k }) : wpAny (model prog w) A (call (.builtin "str.strip") [.str x.sg t]) Q E s := by
  rw [hx.sg]
  exact KXw.strip (by decide +kernel) (by decide) h
theorem truthy_empty {prog : Program} {w : World} {A : Around} {E : Value → Shared → Prop} {s : Shared} {t : Tok} {Q : Bool → Shared → Prop} (h : ∀ k, Q false { s with toks := k }) : wpAny (model prog w) A (truthy (.str (Str.ofString "") t)) Q E s :=
  KXt.truthy (by decide) (by decide) h
def gxOf (b : List Stmt) : PySem.Expr := match b with
  | _ :: _ :: _ :: .If _ (.Assign _ (.Call _ [g] _ _) _ :: _) _ _ :: _ => g
  | _ => .Constant .none 0 ⟨0, 0, 0, 0⟩
def gxE (P : Params) : { e : PySem.Expr // (match gxOf (inB P).1 with | .GeneratorExp e _ _ _ => e | e => e) = e } := by
  refine ⟨?b, ?h⟩
  case h =>
    conv => lhs; whnf
def gxI (P : Params) : { e : List PySem.Expr // (match gxOf (inB P).1 with | .GeneratorExp _ [c] _ _ => c.ifs | _ => []) = e } := by
  refine ⟨?b, ?h⟩
  case h =>
    conv => lhs; whnf
def gxS (P : Params) : { e : Scope // (match gxOf (inB P).1 with | .GeneratorExp _ _ s _ => s | _ => default) = e } := by
  refine ⟨?b, ?h⟩
  case h =>
    conv => lhs; whnf
end Mine
end
section -- Q1
open PySem PySem.W PyProof.Rows
set_option Elab.async false
set_option maxRecDepth 100000
set_option maxHeartbeats 0
namespace Mine
def pzOf (run : List Tk) (i : Nat) : Bool := match run[i]? with | some t => t.sg != Str.ofString " " | none => false
local macro_rules | `(tactic| walk_at "eval Name") => `(tactic| (k_dflt (refine' nameX_F ?N ?c ?m ?d ?_ ?a ?b; (case a => rfl); (case b => rfl); (case N => k_asm); (case c => rfl); (case m => k_mem); (case d => rfl); k_whole)))
local macro_rules | `(tactic| k_inst) => `(tactic| exact inst_tok (TkIn.keeps (by assumption) (Fr.keep (by k_asm))))
local macro_rules | `(tactic| walk_at "truthy ref") => `(tactic| (k_dflt (refine' tl_truthyT ?k1 ?k2 ?k3 ?_; (case k1 => k_asm); (case k2 => k_mem); (case k3 => assumption); k_whole); intro _; (try dsimp only)))
local macro_rules | `(tactic| walk_at "subscriptTail") => `(tactic| (k_dflt (refine' tl_lastS ?k1 ?k2 ?_; (case k1 => k_asm); (case k2 => k_mem); k_whole)))
local macro_rules | `(tactic| walk_at "call builtin:str.strip") => `(tactic| (refine strip_word (by assumption) ?_; intro _ _; (try dsimp only)))
local macro_rules | `(tactic| walk_at "call builtin:str.strip") => `(tactic| (refine strip_blank (by assumption) ?_; intro _ _; (try dsimp only)))
local macro_rules | `(tactic| walk_at "truthy str") => `(tactic| (refine truthy_word (by assumption) ?_; intro _; (try dsimp only)))
local macro_rules | `(tactic| walk_at "truthy str") => `(tactic| (refine truthy_empty ?_; intro _; (try dsimp only)))
local macro_rules | `(tactic| walk_at "call builtin:list.pop") => `(tactic| (k_dflt (refine' tl_pop ?F ?N ?U ?z ?_; (case F => k_asm); (case N => k_asm); (case U => k_upd); (case z => assumption)); kl_rest))
local macro_rules | `(tactic| k_all) => `(tactic| first | exact List.forall_mem_nil _ | (refine' List.forall_mem_cons.mpr ⟨?a, ?b⟩; (case a => k_ne); (case b => k_all)) | assumption)
local macro_rules | `(tactic| walk_at "eval Name") => `(tactic| (refine wpAny_Name (wpAny_loadName_local (by rfl) (by rfl) (Fr.ns (by k_asm)) (by assumption) ?_) (by decide)))
theorem q_tests : ∀ {w : World} {B : Heap} {C bi : Addr} {cl : List (Str × Addr)} {code : Value} {env : Env} {m mg mb : Str → Option Value} {p : Program} {loose : List Str} {mean : ExcName → Option Value} {s : Shared} {x : Tk} {A : Around} {Q : Bool → Shared → Prop} {E : Value → Shared → Prop},
   (Mine.hd.heap_39 w.params).In B → Top p loose mean mg mb B → Fr B C s.heap m → m (Str.ofString "t") = some (rf x) → TkIn B x →
   (Word x → ∀ k, Q true { s with toks := k }) → (Blank x → ∀ k, Q false { s with toks := k }) → (Word x ∨ Blank x) →
   wpAny (model PySem.Challenge.rw_ew0014_01.row.prog w) A
     (match (gxI w.params).1 with | c :: _ => isTrue c (genEnv (gxS w.params).1 cl C code bi env) (eval c (genEnv (gxS w.params).1 cl C code bi env)) | _ => unsupported "") Q E s := by
  k_fill
  intro w B C bi cl code env m mg mb p loose mean s x A Q E X T F hm hx h1 h2 hor
  dsimp only [gxI, gxS]
  have N : News B C s.heap [] := News.nil
  rcases hor with hw | hw
  · repeat' (first | (k_unfold; (try dsimp only)) | (k_end; wrow_close) | walk1 | (dsimp only; walk1) | (leave1; walk_say "STEP leave1"; try dsimp only))
    exact h1 hw _
  · repeat' (first | (k_unfold; (try dsimp only)) | (k_end; wrow_close) | walk1 | (dsimp only; walk1) | (leave1; walk_say "STEP leave1"; try dsimp only))
    exact h2 hw _
theorem q_elt : ∀ {w : World} {B : Heap} {C bi : Addr} {cl : List (Str × Addr)} {code : Value} {env : Env} {m mg mb : Str → Option Value} {p : Program} {loose : List Str} {mean : ExcName → Option Value} {s : Shared} {x : Tk} {A : Around} {Q : Value → Shared → Prop} {E : Value → Shared → Prop},
   (Mine.hd.heap_39 w.params).In B → Top p loose mean mg mb B → Fr B C s.heap m → m (Str.ofString "t") = some (rf x) → TkIn B x →
   (∀ k, Q (.str x.sg x.tk) { s with toks := k }) →
   wpAny (model PySem.Challenge.rw_ew0014_01.row.prog w) A
     (eval (gxE w.params).1 (genEnv (gxS w.params).1 cl C code bi env)) Q E s := by
  k_fill
  intro w B C bi cl code env m mg mb p loose mean s x A Q E X T F hm hx h1
  dsimp only [gxE, gxS]
  have N : News B C s.heap [] := News.nil
  repeat' (first | (k_unfold; (try dsimp only)) | (k_end; wrow_close) | walk1 | (dsimp only; walk1) | (leave1; walk_say "STEP leave1"; try dsimp only))
  exact h1 _
theorem word_ne {x : Tk} (h : Word x) : (x.sg != Str.ofString " ") = true := by
  refine bne_iff_ne.mpr fun e => ?_
  have h1 := h.strip
  have h2 := h.pos
  rw [e] at h1 h2
  have h3 : Txt.strip (Str.ofString " ") = Str.ofString "" := by decide +kernel
  rw [h3] at h1
  exact absurd h1 (by decide)
theorem blank_eq {x : Tk} (h : Blank x) : (x.sg != Str.ofString " ") = false := by rw [h.sg]; exact bne_self_eq_false _
theorem quiet_gx {w : World} {B href : Heap} {C bi : Addr} {cl : List (Str × Addr)} {code : Value} {env : Env} {mg mb : Str → Option Value} {p : Program} {loose : List Str} {mean : ExcName → Option Value} {run : List Tk} {fp wr : List Addr}
   (X : (Mine.hd.heap_39 w.params).In B) (T : Top p loose mean mg mb B) (kB : ∀ b o, B.get? b = some o → href.get? b = some o) (hfp : ∀ b o, B.get? b = some o → b ∈ fp ∧ b ∉ wr) (hsz : B.objs.size ≤ C)
   (htk : ∀ t ∈ run, TkIn B t ∧ (Word t ∨ Blank t)) :
   QuietGen PySem.Challenge.rw_ew0014_01.row.prog w (genEnv (gxS w.params).1 cl C code bi env) (Str.ofString "t") (gxI w.params).1 (gxE w.params).1 fp wr (fun i v => (run.map rf).toArray[i]? = some v) (pzOf run) (fun i v => ∃ t u, run[i]? = some t ∧ v = .str t.sg u) href where
  tests A' E' i v s₂ m₂ hA hP hns hmx hkp := by
    have hP' : (run.map rf)[i]? = some v := by simpa using hP
    rw [List.getElem?_map] at hP'
    cases ht : run[i]? with
    | none => rw [ht] at hP'; cases hP'
    | some t =>
      rw [ht] at hP'
      have hv : v = rf t := (Option.some.inj hP').symm
      subst hv
      have hz : pzOf run i = (t.sg != Str.ofString " ") := by unfold pzOf; rw [ht]
      obtain ⟨ht1, ht2⟩ := htk t (List.mem_of_getElem? ht)
      have F : Fr B C s₂.heap m₂ := ⟨hns, fun b o e => hkp b (hfp b o e).1 (hfp b o e).2 o (kB b o e), hsz⟩
      have kp : ∀ k, Keeps s₂ { s₂ with toks := k } := fun k => ⟨s₂.heap, k, rfl, fun _ _ e => e⟩
      have key := q_tests (cl := cl) (code := code) (bi := bi) (env := env) (A := A') (E := E') (Q := fun ok s₃ => ok = pzOf run i ∧ Keeps s₂ s₃) X T F hmx ht1 (fun h k => ⟨by rw [hz, word_ne h], kp k⟩) (fun h k => ⟨by rw [hz, blank_eq h], kp k⟩) ht2
      have e : (forIn (gxI w.params).1 true fun c r => if r = true then do let ok ← isTrue c (genEnv (gxS w.params).1 cl C code bi env) (eval c (genEnv (gxS w.params).1 cl C code bi env)); pure (ForInStep.yield ok) else pure (ForInStep.yield r)) =
        (match (gxI w.params).1 with | c :: _ => isTrue c (genEnv (gxS w.params).1 cl C code bi env) (eval c (genEnv (gxS w.params).1 cl C code bi env)) | _ => unsupported "") >>= fun ok => (pure ok : Sem Bool) := by
        dsimp only [gxI]
        simp only [List.forIn_cons, List.forIn_nil, if_true, bind_assoc, pure_bind]
      rw [e]
      exact wpAny_bind (wpAny_mono key (fun _ _ x => wpAny_pure x) fun _ _ x => x)
  elt A' E' i v s₂ m₂ hA hP hz hns hmx hkp := by
    have hP' : (run.map rf)[i]? = some v := by simpa using hP
    rw [List.getElem?_map] at hP'
    cases ht : run[i]? with
    | none => rw [ht] at hP'; cases hP'
    | some t =>
      rw [ht] at hP'
      have hv : v = rf t := (Option.some.inj hP').symm
      subst hv
      obtain ⟨ht1, ht2⟩ := htk t (List.mem_of_getElem? ht)
      have F : Fr B C s₂.heap m₂ := ⟨hns, fun b o e => hkp b (hfp b o e).1 (hfp b o e).2 o (kB b o e), hsz⟩
      exact q_elt (cl := cl) (code := code) (bi := bi) (env := env) (A := A') (E := E') X T F hmx ht1 fun k => ⟨⟨t, _, rfl, rfl⟩, s₂.heap, k, rfl, fun _ _ e => e⟩
end Mine
end
section -- I2
open PySem PySem.W PyProof.Rows
set_option Elab.async false
set_option maxRecDepth 100000
set_option maxHeartbeats 0
namespace Mine
abbrev envI (P : Params) (q : Str) (Li f C : Addr) (cd : Value) : Env := envX q (inS P).1 Li f cd [(Str.ofString "unmatched", C)]
local macro_rules | `(tactic| walk_at "eval Name") => `(tactic| (k_dflt (refine' nameX_F ?N ?c ?m ?d ?_ ?a ?b; (case a => rfl); (case b => rfl); (case N => k_asm); (case c => rfl); (case m => k_mem); (case d => rfl); k_whole)))
local macro_rules | `(tactic| k_inst) => `(tactic| exact inst_tok (TkIn.keeps (by assumption) (Fr.keep (by k_asm))))
local macro_rules | `(tactic| walk_at "truthy ref") => `(tactic| (k_dflt (refine' tl_truthyT ?k1 ?k2 ?k3 ?_; (case k1 => k_asm); (case k2 => k_mem); (case k3 => assumption); k_whole); intro _; (try dsimp only)))
local macro_rules | `(tactic| walk_at "subscriptTail") => `(tactic| (k_dflt (refine' tl_lastS ?k1 ?k2 ?_; (case k1 => k_asm); (case k2 => k_mem); k_whole)))
local macro_rules | `(tactic| walk_at "call builtin:str.strip") => `(tactic| (refine strip_word (by assumption) ?_; intro _ _; (try dsimp only)))
local macro_rules | `(tactic| walk_at "call builtin:str.strip") => `(tactic| (refine strip_blank (by assumption) ?_; intro _ _; (try dsimp only)))
local macro_rules | `(tactic| walk_at "truthy str") => `(tactic| (refine truthy_word (by assumption) ?_; intro _; (try dsimp only)))
local macro_rules | `(tactic| walk_at "truthy str") => `(tactic| (refine truthy_empty ?_; intro _; (try dsimp only)))
local macro_rules | `(tactic| walk_at "call builtin:list.pop") => `(tactic| (k_dflt (refine' tl_pop ?F ?N ?U ?z ?_; (case F => k_asm); (case N => k_asm); (case U => k_upd); (case z => assumption)); kl_rest))
local macro_rules | `(tactic| k_all) => `(tactic| first | exact List.forall_mem_nil _ | (refine' List.forall_mem_cons.mpr ⟨?a, ?b⟩; (case a => k_ne); (case b => k_all)) | assumption)
local macro_rules | `(tactic| walk_at "call builtin:list.append") => `(tactic| (k_dflt (refine' tl_append (vs := []) ?F ?N ?U ?z ?_; (case F => k_asm); (case N => k_asm); (case U => k_upd); (case z => exact Nat.zero_le _)); kl_rest))
theorem in_bA : ∀ {w : World} {co : Obj} {A₀ : Around} {base B : Heap} {outer : List Env} {q : Str} {Li f C U P : Addr} {cd : Value} {op oJ : Obj} {J : Addr}
   {m mg mb : Str → Option Value} {p : Program} {loose : List Str} {mean : ExcName → Option Value} {s : Shared} {vs : List Value} {x : Tk} {n : Nat} {Q : Flow → Shared → Prop},
   (Mine.hd.heap_39 w.params).In B → Top p loose mean mg mb B → Below A₀ base outer B → Fr B Li s.heap m → News B Li s.heap [(C, cellObj co (some (.ref U))), (U, listOf (vs ++ [rf x]).toArray n), (P, op), (J, oJ)] →
   @Ne Nat C U → @Ne Nat P U → @Ne Nat J U → TkIn B x → Word x → vs.length ≤ 900 → 
   (∀ TS h' tk, Fr B Li h' (fun y => if y = Str.ofString "trailing_spaces" then some (.ref TS) else m y) → News B Li h' [(TS, listOf #[] 0), (C, cellObj co (some (.ref U))), (U, listOf (vs ++ [rf x]).toArray n), (P, op), (J, oJ)] → (@LT.lt Nat _ U TS ∧ @LT.lt Nat _ C TS ∧ @LT.lt Nat _ P TS) → Q .next { s with heap := h', toks := tk }) →
   wpAny (model PySem.Challenge.rw_ew0014_01.row.prog w) (AA (envI w.params q Li f C cd :: outer) none)
     (execs ((inB w.params).1.tail.take 2) (envI w.params q Li f C cd)) Q (fun _ _ => False) s := by
  k_fill
  intro w co A₀ base B outer q Li f C U P cd op oJ J m mg mb p loose mean s vs x n Q X T Bl F N hCU hPU hJU hx hw hz hQ
  dsimp only [inB, inS, envI, List.tail, List.take]
  repeat' (first | (k_unfold; (try dsimp only)) | (k_end; wrow_close) | walk1 | (dsimp only; walk1) | (leave1; walk_say "STEP leave1"; try dsimp only))
  exact hQ _ _ _ (by k_asm) (by k_asm) (by omega)
theorem in_bB : ∀ {w : World} {co : Obj} {A₀ : Around} {base B : Heap} {outer : List Env} {q : Str} {Li f C U P : Addr} {cd : Value} {op oJ : Obj} {J : Addr}
   {m mg mb : Str → Option Value} {p : Program} {loose : List Str} {mean : ExcName → Option Value} {s : Shared} {vs : List Value} {x b : Tk} {n : Nat} {Q : Flow → Shared → Prop},
   (Mine.hd.heap_39 w.params).In B → Top p loose mean mg mb B → Below A₀ base outer B → Fr B Li s.heap m → News B Li s.heap [(C, cellObj co (some (.ref U))), (U, listOf ((vs ++ [rf x]) ++ [rf b]).toArray n), (P, op), (J, oJ)] →
   @Ne Nat C U → @Ne Nat P U → @Ne Nat J U → TkIn B x → Word x → TkIn B b → Blank b → vs.length ≤ 800 → (vs ++ [rf x]).length ≤ 900 → 
   (∀ TS h' tk, Fr B Li h' (fun y => if y = Str.ofString "trailing_spaces" then some (.ref TS) else m y) → News B Li h' [(TS, listOf [rf b].toArray 1), (C, cellObj co (some (.ref U))), (U, listOf (vs ++ [rf x]).toArray (n + 1)), (P, op), (J, oJ)] → (@LT.lt Nat _ U TS ∧ @LT.lt Nat _ C TS ∧ @LT.lt Nat _ P TS) → Q .next { s with heap := h', toks := tk }) →
   wpAny (model PySem.Challenge.rw_ew0014_01.row.prog w) (AA (envI w.params q Li f C cd :: outer) none)
     (execs ((inB w.params).1.tail.take 2) (envI w.params q Li f C cd)) Q (fun _ _ => False) s := by
  k_fill
  intro w co A₀ base B outer q Li f C U P cd op oJ J m mg mb p loose mean s vs x b n Q X T Bl F N hCU hPU hJU hx hw hb hbw hz0 hz hQ
  have hz1 : vs.length ≤ 900 := by omega
  dsimp only [inB, inS, envI, List.tail, List.take]
  repeat' (first | (k_unfold; (try dsimp only)) | (k_end; wrow_close) | walk1 | (dsimp only; walk1) | (leave1; walk_say "STEP leave1"; try dsimp only))
  trace_state
  exact hQ _ _ _ (by k_asm) (by k_asm) (by omega)
end Mine
end
section -- I3
open PySem PySem.W PyProof.Rows
set_option Elab.async false
set_option maxRecDepth 100000
set_option maxHeartbeats 12000000
namespace Mine
def ifB (P : Params) : { e : List Stmt // (match (inB P).1 with | _ :: _ :: _ :: .If _ b _ _ :: _ => b | _ => []) = e } := by
  refine ⟨?b, ?h⟩
  case h =>
    conv => lhs; whnf
local macro_rules | `(tactic| walk_at "eval Name") => `(tactic| (k_dflt (refine' nameX_F ?N ?c ?m ?d ?_ ?a ?b; (case a => rfl); (case b => rfl); (case N => k_asm); (case c => rfl); (case m => k_mem); (case d => rfl); k_whole)))
local macro_rules | `(tactic| k_inst) => `(tactic| exact inst_tok (TkIn.keeps (by assumption) (Fr.keep (by k_asm))))
local macro_rules | `(tactic| walk_at "truthy ref") => `(tactic| (k_dflt (refine' tl_truthyT ?k1 ?k2 ?k3 ?_; (case k1 => k_asm); (case k2 => k_mem); (case k3 => assumption); k_whole); intro _; (try dsimp only)))
local macro_rules | `(tactic| walk_at "subscriptTail") => `(tactic| ((with_reducible show wpAny _ _ (subscriptTail _ _ (Value.ref _) (Value.int (-1) _)) _ _ _); k_dflt (refine' tl_lastG ?k1 ?k2 ?k3 ?_; (case k1 => k_asm); (case k2 => k_mem); (case k3 => assumption); k_whole)))
local macro_rules | `(tactic| walk_at "call builtin:str.strip") => `(tactic| (refine strip_word (by assumption) ?_; intro _ _; (try dsimp only)))
local macro_rules | `(tactic| walk_at "call builtin:str.strip") => `(tactic| (refine strip_blank (by assumption) ?_; intro _ _; (try dsimp only)))
local macro_rules | `(tactic| walk_at "truthy str") => `(tactic| (refine truthy_word (by assumption) ?_; intro _; (try dsimp only)))
local macro_rules | `(tactic| walk_at "truthy str") => `(tactic| (refine truthy_empty ?_; intro _; (try dsimp only)))
local macro_rules | `(tactic| walk_at "call builtin:list.pop") => `(tactic| (k_dflt (refine' tl_pop ?F ?N ?U ?z ?_; (case F => k_asm); (case N => k_asm); (case U => k_upd); (case z => assumption)); kl_rest))
local macro_rules | `(tactic| k_all) => `(tactic| first | exact List.forall_mem_nil _ | (refine' List.forall_mem_cons.mpr ⟨?a, ?b⟩; (case a => k_ne); (case b => k_all)) | assumption)
local macro_rules | `(tactic| walk_at "subscriptTail") => `(tactic| ((with_reducible show wpAny _ _ (subscriptTail _ _ (Value.ref _) (Value.int 0 _)) _ _ _); k_dflt (refine' tl_firstG ?k1 ?k2 ?k3 ?_; (case k1 => k_asm); (case k2 => k_mem); (case k3 => assumption); k_whole)))
local macro_rules | `(tactic| walk_at "call builtin:list.clear") => `(tactic| (k_dflt (refine' tl_clear ?F ?N ?U ?ne ?z ?_; (case F => k_asm); (case N => k_asm); (case U => k_upd); (case ne => assumption); (case z => assumption)); kl_rest))
local macro_rules | `(tactic| walk_at "call ref") => `(tactic| ((with_reducible show wpAny _ _ (call (Value.ref 471) [Value.str _ _] _) _ _ _); k_dflt (refine' sym_call ?k1 ?k2 ?k3 ?k4 ?k5 ?k6 ?_; (case k1 => assumption); (case k2 => assumption); (case k3 => assumption); (case k4 => k_asm); (case k5 => k_asm); (case k6 => assumption); k_whole); intro x' d' h' tk' t1 t2 t3 t4 t5 t6 tv a1 a2 F' N' l1 l2; (try k_lt l1); (try k_lt2 l2); (try dsimp only)))
def wordsOf (run : List Tk) : List Str := (run.filter fun t => t.sg != Str.ofString " ").map (·.sg)
def textOf (run : List Tk) : Str := Txt.join (Str.ofString " ") (wordsOf run)
theorem pass_map : ∀ run : List Tk, ((List.range run.length).filter (pzOf run)).map (fun i => run[i]?) = (run.filter fun t => t.sg != Str.ofString " ").map some
  | [] => rfl
  | a :: r => by
    have ih := pass_map r
    have e0 : pzOf (a :: r) 0 = (a.sg != Str.ofString " ") := rfl
    have e1 : (pzOf (a :: r)) ∘ Nat.succ = pzOf r := by
      funext i
      show (match (a :: r)[i + 1]? with | some t => t.sg != Str.ofString " " | none => false) = _
      rw [List.getElem?_cons_succ]; rfl
    have e2 : (((List.range r.length).map Nat.succ).filter (pzOf (a :: r))).map (fun i => (a :: r)[i]?) = ((List.range r.length).filter (pzOf r)).map fun i => r[i]? := by
      rw [List.filter_map, e1, List.map_map]
      rfl
    rw [List.length_cons, List.range_succ_eq_map, List.filter_cons, List.filter_cons, e0]
    split
    · rw [List.map_cons, List.map_cons, e2, ih]; rfl
    · rw [e2, ih]
theorem pass_len (run : List Tk) : (passing (pzOf run) run.length 0).length = (wordsOf run).length := by
  have h := congrArg List.length (pass_map run)
  simp only [List.length_map] at h
  unfold passing wordsOf
  rw [List.drop_zero, List.length_map]
  exact h
theorem pass_at {run : List Tk} {j i : Nat} {t : Tk} (h : (passing (pzOf run) run.length 0)[j]? = some i) (ht : run[i]? = some t) : (wordsOf run)[j]? = some t.sg := by
  unfold passing at h
  rw [List.drop_zero] at h
  have e := congrArg (fun l => l[j]?) (pass_map run)
  simp only [List.getElem?_map, h, Option.map_some, ht] at e
  unfold wordsOf
  rw [List.getElem?_map]
  cases hq : (run.filter fun t => t.sg != Str.ofString " ")[j]? with
  | none => rw [hq] at e; cases e
  | some q => rw [hq] at e; simp only [Option.map_some, Option.some.injEq] at e; rw [e]; rfl
theorem sum_le : ∀ {l : List Nat} {b : Nat}, (∀ x ∈ l, x ≤ b) → l.sum ≤ b * l.length
  | [], _, _ => Nat.zero_le _
  | a :: r, b, h => by
    have h1 := h a (.head _)
    have h2 := sum_le (l := r) fun x hx => h x (.tail _ hx)
    rw [List.sum_cons, List.length_cons, Nat.mul_add, Nat.mul_one]
    omega
theorem words_weight {run : List Tk} (h : ∀ t ∈ run, Word t ∨ Blank t) (hl : run.length ≤ 900) : ((wordsOf run).map (·.length)).sum + (wordsOf run).length ≤ 1048576 := by
  have h1 : ((wordsOf run).map (·.length)).sum ≤ 100 * ((wordsOf run).map (·.length)).length := sum_le fun x hx => by
    obtain ⟨y, hy, rfl⟩ := List.mem_map.mp hx
    obtain ⟨t, ht, rfl⟩ := List.mem_map.mp hy
    rcases h t (List.mem_filter.mp ht).1 with q | q
    · exact q.len
    · rw [q.sg]; decide
  have h2 : (wordsOf run).length ≤ run.length := by unfold wordsOf; rw [List.length_map]; exact List.length_filter_le ..
  rw [List.length_map] at h1
  omega
theorem in_d : ∀ {w : World} {co : Obj} {A₀ : Around} {base B : Heap} {outer : List Env} {q : Str} {Li f c C U P TS : Addr} {oc op oJ : Obj} {J : Addr} {ps : Array Value}
   {m mg mb : Str → Option Value} {p : Program} {loose : List Str} {mean : ExcName → Option Value} {s : Shared} {run : List Tk} {tr : List Value} {n k : Nat} {fst x : Tk} {Q : Flow → Shared → Prop},
   (Mine.hd.heap_39 w.params).In B → Top p loose mean mg mb B → Below A₀ base outer B → Fr B Li s.heap m → News B Li s.heap [(TS, listOf tr.toArray k), (C, cellObj co (some (.ref U))), (U, listOf (run.map rf).toArray n), (P, op), (J, oJ)] →
   @Ne Nat C U → @Ne Nat P U → @Ne Nat P C → @Ne Nat J U → @Ne Nat J P → (@LT.lt Nat _ U TS ∧ @LT.lt Nat _ C TS ∧ @LT.lt Nat _ P TS) → (∀ t ∈ run, TkIn B t ∧ (Word t ∨ Blank t)) → TkIn B fst → TkIn B x → (run.map rf).head? = some (rf fst) → (run.map rf).getLast? = some (rf x) → (run.map rf).length ≤ 900 → run.map rf ≠ [] →
   B.get? c = some oc → CodeF oc op c P ps → AllBare s.gens → KeyOk (textOf run) → run.length ≤ 900 →
   (∀ (X dX : Addr) (h' : Heap) (tk : Tok) (gens' : Array GenState) (op' : Obj) (ps' : Array Value) (m' : Str → Option Value) (t1 t2 t3 t4 t5 t6 tv tx : Tok) (a1 a2 : Addr),
      Fr B Li h' m' → m' (Str.ofString "trailing_spaces") = m (Str.ofString "trailing_spaces") → m' (Str.ofString "string") = some (.str (textOf run) tx) → m' (Str.ofString "start") = some (.int fst.st fst.ts) → m' (Str.ofString "end") = some (.int x.en x.te) → m' (Str.ofString "toksym") = some (.ref X) →
      News B Li h' [(X, instObj 471 dX), (dX, dictOf (symEs w.params (textOf run) t1 t2 t3 t4 t5 t6 tv a1 a2) 6), (TS, listOf tr.toArray k), (C, cellObj co (some (.ref U))), (U, listOf #[] (n + 1)), (P, op'), (J, oJ)] →
      (@LT.lt Nat _ TS dX ∧ @LT.lt Nat _ dX X) → CodeF oc op' c P ps' → AllBare gens' → (∀ j, j < s.gens.size → gens'[j]? = s.gens[j]?) → s.gens.size ≤ gens'.size → Q .next { s with heap := h', gens := gens', toks := tk }) →
   wpAny (model PySem.Challenge.rw_ew0014_01.row.prog w) (AA (envI w.params q Li f C (.ref c) :: outer) none)
     (execs ((ifB w.params).1.take 5) (envI w.params q Li f C (.ref c))) Q (fun _ _ => False) s := by
  k_fill
  intro w co A₀ base B outer q Li f c C U P TS oc op oJ J ps m mg mb p loose mean s run tr n k fst x Q X T Bl F N hCU hPU hPC hJU hJP hTS hall hfst hx hhd hlt hlen hne hoc hcf hG hkey hrl hQ
  obtain ⟨hTS1, hTS2, hTS3⟩ := hTS
  dsimp only [ifB, inB, inS, envI, List.tail, List.take]
  repeat' (first | (k_unfold; (try dsimp only)) | (k_end; wrow_close) | walk1 | (dsimp only; walk1) | (leave1; walk_say "STEP leave1"; try dsimp only))
  refine genexp_N (U := U) (n := n) (m := m) (Li := Li) (l := run.map rf) (pre := [(TS, listOf tr.toArray k), (C, cellObj co (some (.ref U))), (U, listOf (run.map rf).toArray n)]) (post := [(J, oJ)]) (pzOf run) (fun i v => ∃ t u, run[i]? = some t ∧ v = .str t.sg u) (cl := []) ?F T ?N ?hU ?h1 ?h2 ?hUP rfl hoc hcf hG rfl ?hit ?hq ?hQ rfl rfl rfl ?hcell rfl rfl rfl ?hroom ?hs
  case F => k_asm
  case N => k_asm
  case hU => k_mem
  case h1 => k_all
  case h2 => k_all
  case hUP => exact fun e => hPU e.symm
  case hcell => decide
  case hroom => exact Nat.lt_of_lt_of_le (by decide : 400 < 900) (by decide)
  case hs => exact fun _ => rfl
  case hit => exact fun Q' hq' => nameX_F (by k_asm) rfl (by k_mem) rfl hq' rfl rfl
  case hq =>
    intro code h₃ href k1 k2 k3
    have kB : ∀ b o, B.get? b = some o → h₃.get? b = some o := fun b o e => k1 b o (fun q' => by rw [q', (N (P, op) (by k_mem)).2.2] at e; cases e) (F.keep b o e)
    have hLs : Li < s.heap.objs.size := F.ns.lt
    have hb1 : ∀ b o, B.get? b = some o → b < s.heap.objs.size := fun b o e => Nat.lt_trans (Nat.lt_of_lt_of_le (Heap.lt_size e) F.above) hLs
    exact quiet_gx (run := run) X T (fun b o e => k3 b o (kB b o e)) (fun b o e => ⟨List.mem_range.mpr (Nat.lt_trans (hb1 b o e) k2), fun hm => absurd (List.mem_singleton.mp hm) (Nat.ne_of_lt (hb1 b o e))⟩) (Nat.le_trans F.above (Nat.le_of_lt (Nat.lt_trans hLs k2))) hall
  intro a h1 tk1 gs1 op1 ps1 F1 N1 hcf1 hgb1 hlt1 GI
  dsimp only [List.cons_append, List.nil_append] at N1 hlt1
  have hLs : Li < s.heap.objs.size := F.ns.lt
  clear N F
  repeat' (first | (k_unfold; (try dsimp only)) | (k_end; wrow_close) | walk1 | (dsimp only; walk1) | (leave1; walk_say "STEP leave1"; try dsimp only))
  have hwl : (passing (pzOf run) (run.map rf).length 0).length = (wordsOf run).length := by rw [List.length_map]; exact pass_len run
  refine join_N (tx := wordsOf run) (news := [(TS, listOf tr.toArray k), (C, cellObj co (some (.ref U))), (U, listOf (run.map rf).toArray n), (P, op1), (J, oJ)]) (K := s.heap.objs.size) (Fv := fun j y => ∃ i, (passing (pzOf run) (run.map rf).length 0)[j]? = some i ∧ ∃ t u, run[i]? = some t ∧ y = .str t.sg u) F1 N1 hlt1 hLs GI hwl ?htx2 (joinOk_of_weight (words_weight (fun t ht => (hall t ht).2) hrl) (by decide)) (hG.push hgb1) ?hQ2 ?hk2
  case htx2 =>
    rintro j v ⟨i, h1, t, u, h2, rfl⟩
    rw [List.length_map] at h1
    exact ⟨u, _, pass_at h1 h2, rfl⟩
  case hk2 =>
    rw [hwl]
    have h2 : (wordsOf run).length ≤ run.length := by unfold wordsOf; rw [List.length_map]; exact List.length_filter_le ..
    omega
  intro h2 tk2 gens2 t2 F2 N2 hG2 hgk hgs
  clear GI F1 N1
  (try dsimp only)
  have hgk' : ∀ j, j < s.gens.size → gens2[j]? = s.gens[j]? := fun j hj => by
    rw [hgk j (Nat.ne_of_lt hj)]
    show (s.gens.push gs1)[j]? = _
    rw [Array.getElem?_push]
    have : j ≠ s.gens.size := Nat.ne_of_lt hj
    simp [this]
  have hgs' : s.gens.size ≤ gens2.size := by
    rw [hgs]
    show s.gens.size ≤ (s.gens.push gs1).size
    rw [Array.size_push]; exact Nat.le_succ _
  have htxt : Txt.join (Str.ofString " ") (wordsOf run) = textOf run := rfl
  rw [htxt]
  walk_say "AT JOIN"
  repeat' (first | (k_unfold; (try dsimp only)) | (k_end; wrow_close) | walk1 | (dsimp only; walk1) | (leave1; walk_say "STEP leave1"; try dsimp only))
  exact hQ _ _ _ _ _ _ _ _ _ _ _ _ _ _ _ _ _ _ (by k_asm) (by rfl) (by rfl) (by rfl) (by rfl) (by rfl) (by k_asm) (by omega) hcf1 hG2 hgk' hgs'
end Mine
end
section -- I4
open PySem PySem.W PyProof.Rows
set_option Elab.async false
set_option maxRecDepth 100000
set_option maxHeartbeats 12000000
namespace Mine
def yE (P : Params) : { e : PySem.Expr // (match (ifB P).1 with | [_, _, _, _, _, .Expr (.Yield (some e) _) _] => e | _ => .Constant .none 0 ⟨0, 0, 0, 0⟩) = e } := by
  refine ⟨?b, ?h⟩
  case h =>
    conv => lhs; whnf
def ifT (P : Params) : { e : PySem.Expr // (match (inB P).1 with | _ :: _ :: _ :: .If t _ _ _ :: _ => t | _ => .Constant .none 0 ⟨0, 0, 0, 0⟩) = e } := by
  refine ⟨?b, ?h⟩
  case h =>
    conv => lhs; whnf
def if0T (P : Params) : { e : PySem.Expr // (match (inB P).1 with | .If t _ _ _ :: _ => t | _ => .Constant .none 0 ⟨0, 0, 0, 0⟩) = e } := by
  refine ⟨?b, ?h⟩
  case h =>
    conv => lhs; whnf
local macro_rules | `(tactic| walk_at "eval Name") => `(tactic| (k_dflt (refine' nameX_F ?N ?c ?m ?d ?_ ?a ?b; (case a => rfl); (case b => rfl); (case N => k_asm); (case c => rfl); (case m => k_mem); (case d => rfl); k_whole)))
local macro_rules | `(tactic| walk_at "truthy ref") => `(tactic| (k_dflt (refine' tl_truthy ?k1 ?k2 ?k3 ?_; (case k1 => k_asm); (case k2 => k_mem); (case k3 => assumption); k_whole); intro _; (try dsimp only)))
local macro_rules | `(tactic| walk_at "eval Name") => `(tactic| (refine wpAny_Name (wpAny_loadName_local (by rfl) (by rfl) (Fr.ns (by k_asm)) (by assumption) ?_) (by decide)))
local macro_rules | `(tactic| walk_at "call ref") => `(tactic| ((with_reducible show wpAny _ _ (call (Value.ref 183) _ _) _ _ _); k_dflt (refine' token_call ?k1 ?k2 ?k3 ?k4 ?k5 ?_; (case k1 => assumption); (case k2 => assumption); (case k3 => assumption); (case k4 => k_asm); (case k5 => k_asm); k_whole); intro x' d' h' tk' F' N' l1 l2; (try k_lt2 l2); (try dsimp only)))
theorem in_t : ∀ {w : World} {co : Obj} {A₀ : Around} {base B : Heap} {outer : List Env} {q : Str} {Li f C U : Addr} {cd : Value}
   {m mg mb : Str → Option Value} {p : Program} {loose : List Str} {mean : ExcName → Option Value} {s : Shared} {vs : List Value} {n : Nat} {news : List (Addr × Obj)} {Q : Bool → Shared → Prop},
   (Mine.hd.heap_39 w.params).In B → Top p loose mean mg mb B → Below A₀ base outer B → Fr B Li s.heap m → News B Li s.heap news → (C, cellObj co (some (.ref U))) ∈ news → (U, listOf vs.toArray n) ∈ news →
   vs.length ≤ 1000 → (∀ tk, Q (!vs.isEmpty) { s with toks := tk }) →
   wpAny (model PySem.Challenge.rw_ew0014_01.row.prog w) (AA (envI w.params q Li f C cd :: outer) none)
     (isTrue (ifT w.params).1 (envI w.params q Li f C cd) (eval (ifT w.params).1 (envI w.params q Li f C cd))) Q (fun _ _ => False) s := by
  k_fill
  intro w co A₀ base B outer q Li f C U cd m mg mb p loose mean s vs n news Q X T Bl F N hC hU hz hQ
  have hC' : News B Li s.heap [(C, cellObj co (some (.ref U))), (U, listOf vs.toArray n)] := fun p hp => by
    rcases List.mem_cons.mp hp with rfl | hp
    · exact N _ hC
    · rcases List.mem_cons.mp hp with rfl | hp
      · exact N _ hU
      · cases hp
  clear N
  dsimp only [ifT, inS, envI]
  repeat' (first | (k_unfold; (try dsimp only)) | (k_end; wrow_close) | walk1 | (dsimp only; walk1) | (leave1; walk_say "STEP leave1"; try dsimp only))
  exact hQ _
theorem in_0 : ∀ {w : World} {co : Obj} {A₀ : Around} {base B : Heap} {outer : List Env} {q : Str} {Li f C U : Addr} {cd : Value}
   {m mg mb : Str → Option Value} {p : Program} {loose : List Str} {mean : ExcName → Option Value} {s : Shared} {vs : List Value} {n : Nat} {news : List (Addr × Obj)} {Q : Bool → Shared → Prop},
   (Mine.hd.heap_39 w.params).In B → Top p loose mean mg mb B → Below A₀ base outer B → Fr B Li s.heap m → News B Li s.heap news → (C, cellObj co (some (.ref U))) ∈ news → (U, listOf vs.toArray n) ∈ news →
   vs.length ≤ 1000 → (∀ tk, Q (vs.isEmpty) { s with toks := tk }) →
   wpAny (model PySem.Challenge.rw_ew0014_01.row.prog w) (AA (envI w.params q Li f C cd :: outer) none)
     (isTrue (if0T w.params).1 (envI w.params q Li f C cd) (eval (if0T w.params).1 (envI w.params q Li f C cd))) Q (fun _ _ => False) s := by
  k_fill
  intro w co A₀ base B outer q Li f C U cd m mg mb p loose mean s vs n news Q X T Bl F N hC hU hz hQ
  have hC' : News B Li s.heap [(C, cellObj co (some (.ref U))), (U, listOf vs.toArray n)] := fun p hp => by
    rcases List.mem_cons.mp hp with rfl | hp
    · exact N _ hC
    · rcases List.mem_cons.mp hp with rfl | hp
      · exact N _ hU
      · cases hp
  clear N
  dsimp only [if0T, inS, envI]
  repeat' (first | (k_unfold; (try dsimp only)) | (k_end; wrow_close) | walk1 | (dsimp only; walk1) | (leave1; walk_say "STEP leave1"; try dsimp only))
  rw [Bool.not_not]
  exact hQ _
theorem in_e : ∀ {w : World} {A₀ : Around} {base B : Heap} {outer : List Env} {q : Str} {Li f C : Addr} {cd : Value}
   {m mg mb : Str → Option Value} {p : Program} {loose : List Str} {mean : ExcName → Option Value} {s : Shared} {news : List (Addr × Obj)} {st en : Int} {ts te tx : Tok} {sg : Str} {Xs : Addr} {Q : Value → Shared → Prop},
   (Mine.hd.heap_39 w.params).In B → Top p loose mean mg mb B → Below A₀ base outer B → Fr B Li s.heap m → News B Li s.heap news →
   m (Str.ofString "string") = some (.str sg tx) → m (Str.ofString "start") = some (.int st ts) → m (Str.ofString "end") = some (.int en te) → m (Str.ofString "toksym") = some (.ref Xs) → 
   (∀ (x dx : Addr) (h' : Heap) (tk' : Tok), Fr B Li h' m → News B Li h' ((x, tokObj dx st en ts te tx sg (.ref Xs)) :: (dx, dictOf [] 0) :: news) → (∀ p ∈ news, p.1 < dx) → @LT.lt Nat _ dx x → Q (.ref x) { s with heap := h', toks := tk' }) →
   wpAny (model PySem.Challenge.rw_ew0014_01.row.prog w) (AA (envI w.params q Li f C cd :: outer) none)
     (eval (yE w.params).1 (envI w.params q Li f C cd)) Q (fun _ _ => False) s := by
  k_fill
  intro w A₀ base B outer q Li f C cd m mg mb p loose mean s news st en ts te tx sg Xs Q X T Bl F N e1 e2 e3 e4 hQ
  dsimp only [yE, inS, envI]
  repeat' (first | (k_unfold; (try dsimp only)) | (k_end; wrow_close) | walk1 | (dsimp only; walk1) | (leave1; walk_say "STEP leave1"; try dsimp only))
  exact hQ _ _ _ _ (by k_asm) (by k_asm) (by assumption) (by assumption)
end Mine
end
section -- I5
open PySem PySem.W PyProof.Rows
set_option Elab.async false
set_option maxRecDepth 100000
set_option maxHeartbeats 12000000
namespace Mine
open PySem.W.X (SegX)
inductive OutS where
  | old (t : Tk)
  | new (st en : Int) (txt : Str)
def OutP (P : Params) (fr : Addr → Prop) : OutS → Value → List (Addr × Obj) → Prop
  | .old t, v, nw => v = rf t ∧ nw = []
  | .new st en txt, v, nw => ∃ x dx X dX ts te tx t1 t2 t3 t4 t5 t6 tv a1 a2, v = .ref x ∧
      nw = [(x, tokObj dx st en ts te tx txt (.ref X)), (dx, dictOf [] 0), (X, instObj 471 dX), (dX, dictOf (symEs P txt t1 t2 t3 t4 t5 t6 tv a1 a2) 6)] ∧ ∀ q ∈ nw, fr q.1
abbrev AgI (outer : List Env) : Around := ⟨none, 390, some outer, none, 1900⟩
def FinI (co : Obj) (C U P c : Addr) (oc : Obj) (s' : Shared) : Prop := ∃ op ps n, s'.heap.get? C = some (cellObj co (some (.ref U))) ∧ s'.heap.get? U = some (listOf #[] n) ∧ s'.heap.get? P = some op ∧ CodeF oc op c P ps
abbrev endK (f : Flow) : Sem PySem.Fin := .pure (.done (.ret (match f with | .ret v => v | _ => .none)))
theorem in_for {w : World} {co : Obj} {Bp : Heap} {outer : List Env} {q : Str} {Li f C U P TS c : Addr} {oc op : Obj} {ps : Array Value} {m : Str → Option Value} {s : Shared} {tr : List Tk} {k n g : Nat} {fr : Addr → Prop} {cm : List Addr} {Fx : List (Addr × Obj)} {H : Value → Sem PySem.Fin}
    (F : Fr Bp Li s.heap m) (N : News Bp Li s.heap [(TS, listOf (tr.map rf).toArray k), (C, cellObj co (some (.ref U))), (U, listOf #[] n), (P, op)]) (hcf : CodeF oc op c P ps)
    (hm : m (Str.ofString "trailing_spaces") = some (.ref TS)) (hH : Holds cm Bp Fx s.heap) (hFL : ∀ p ∈ Fx, p.1 ≠ Li) (hoff : ∀ b ∈ [TS, C, U, P, Li], b ∉ cm) (hlive : ∀ b ∈ cm, ∃ o, s.heap.get? b = some o) (htr : tr.length ≤ 1) :
    SegX (model PySem.Challenge.rw_ew0014_01.row.prog w) (AgI outer) (.func (inB w.params).1 (envI w.params q Li f C (.ref c))) ((execs ((inB w.params).1.drop 4) (envI w.params q Li f C (.ref c))).wrap endK H id id) [] s
      (PP (model PySem.Challenge.rw_ew0014_01.row.prog w) (AgI outer) g cm Bp (OutP w.params fr) (FinI co C U P c oc) (tr.map .old) Fx s) := by
  dsimp only [inB, inS, envI, List.drop]
  have hLlt : Li < s.heap.objs.size := F.ns.lt
  have hTS : (TS, listOf (tr.map rf).toArray k) ∈ [(TS, listOf (tr.map rf).toArray k), (C, cellObj co (some (.ref U))), (U, listOf #[] n), (P, op)] := .head _
  have hTSlt : TS < s.heap.objs.size := Heap.lt_size (N _ hTS).1
  have hTSL : TS ≠ Li := (N _ hTS).2.1
  refine sx_cons (sx_For (wpAny_Name (wpAny_loadName_local rfl rfl F.ns hm (wpAny_pyIter_list (isL N hTS) fun p => ?_)) (by decide)))
  have up : ∀ b o, s.heap.get? b = some o → (s.heap.push { cls := .type "list_iterator", data := .fields #[.ref TS, .int 0 0] }).get? b = some o := fun b o e => Heap.get?_push_of_some _ e
  have hI : (s.heap.push { cls := .type "list_iterator", data := .fields #[.ref TS, .int 0 0] }).get? s.heap.objs.size = some { cls := .type "list_iterator", data := .fields #[.ref TS, .int 0 0] } := Heap.get?_push_size _ rfl
  have hit : (s.heap.push { cls := .type "list_iterator", data := .fields #[.ref TS, .int 0 0] }).IsListIter s.heap.objs.size TS 0 := ⟨_, hI, rfl, rfl⟩
  generalize hge : s.heap.push { cls := .type "list_iterator", data := .fields #[.ref TS, .int 0 0] } = h1 at *
  have keepAll : ∀ (h' : Heap), (∀ b o, b ≠ s.heap.objs.size → b ≠ Li → h1.get? b = some o → h'.get? b = some o) → ∀ b o, b ≠ Li → s.heap.get? b = some o → h'.get? b = some o :=
    fun h' hk b o hb e => hk b o (Nat.ne_of_lt (Heap.lt_size e)) hb (up b o e)
  have holds' : ∀ h' : Heap, (∀ b o, b ≠ Li → s.heap.get? b = some o → h'.get? b = some o) → Holds cm Bp Fx h' := fun h' hk =>
    ⟨fun b o e => hk b o (fun q => absurd (Heap.lt_size e) (by rw [q]; exact Nat.not_lt.mpr F.above)) (hH.base b o e), fun p hp => hk _ _ (hFL p hp) (hH.fx p hp), hH.offB, hH.offF⟩
  have cms' : ∀ h' : Heap, (∀ b o, b ≠ Li → s.heap.get? b = some o → h'.get? b = some o) → ∀ b ∈ cm, h'.get? b = s.heap.get? b := fun h' hk b hb => by
    obtain ⟨o, ho⟩ := hlive b hb
    rw [ho]; exact hk b o (fun q => hoff Li (by simp) (q ▸ hb)) ho
  have fin' : ∀ s' : Shared, (∀ b o, b ≠ Li → b ∉ cm → s.heap.get? b = some o → s'.heap.get? b = some o) → FinI co C U P c oc s' := fun s' hk => by
    have hz : ∀ {a : Addr} {o : Obj}, (a, o) ∈ [(TS, listOf (tr.map rf).toArray k), (C, cellObj co (some (.ref U))), (U, listOf #[] n), (P, op)] → a ∈ [TS, C, U, P, Li] → s'.heap.get? a = some o := fun {a o} hm' ha => hk a o (N _ hm').2.1 (hoff a ha) (N _ hm').1
    exact ⟨op, ps, n, hz (by simp) (by simp), hz (by simp) (by simp), hz (by simp) (by simp), hcf⟩
  match tr, htr with
  | [], _ =>
    refine sx_list_done (i := 0) (ax := TS) (items := #[]) rfl hit ?_ (Nat.ne_of_lt hTSlt) rfl fun h' tk hk => ?_
    · exact ⟨_, up _ _ (N _ hTS).1, rfl, _, rfl⟩
    · have hk' : ∀ b o, b ≠ Li → s.heap.get? b = some o → h'.get? b = some o := fun b o _ e => hk b o (Nat.ne_of_lt (Heap.lt_size e)) (up b o e)
      exact sx_end (r := .ok (.ret .none)) ⟨rfl, Kp.heap (cms' h' hk'), holds' h' hk', fin' _ fun b o h1 _ e => hk' b o h1 e⟩
  | [b], _ =>
    refine sx_list_item (i := 0) (ax := TS) (items := #[rf b]) (v := rf b) (L := Li) (m := m) rfl hit ?_ (Nat.ne_of_lt hTSlt) rfl (F.ns.at' fun o e => up _ _ e) rfl (Nat.ne_of_lt hLlt) (Ne.symm hTSL) rfl rfl fun h' tk hns hit' hl' hk => ?_
    · exact ⟨_, up _ _ (N _ hTS).1, rfl, _, rfl⟩
    · have hk' := keepAll h' hk
      refine sx_cons (sx_Yield rfl rfl rfl (wpAny_Name (wpAny_loadName_local rfl rfl hns rfl fun k' l' p' hres => ?_) (by decide)))
      refine ⟨rf b, l', k', _, p', _, [], rfl, Kp.heap (cms' h' hk'), holds' h' hk', ⟨rfl, rfl⟩, fun s'' hx => hres s'' _ ?_⟩
      have hIcm : s.heap.objs.size ∉ cm := fun hb => by
        obtain ⟨o, ho⟩ := hlive _ hb
        exact absurd (Heap.lt_size ho) (Nat.lt_irrefl _)
      refine sx_againM rfl (sx_list_done (i := 1) (ax := TS) (items := #[rf b]) rfl (hit'.at fun o e => hx.heap _ o hIcm e) (hl'.at fun o e => hx.heap _ o (hoff TS (by simp)) e) (Nat.ne_of_lt hTSlt) rfl fun h₂ tk₂ hk₂ => ?_)
      have hk₃ : ∀ b o, b ≠ Li → b ∉ cm → s.heap.get? b = some o → h₂.get? b = some o := fun b o h1 h2 e => hk₂ b o (Nat.ne_of_lt (Heap.lt_size e)) (hx.heap b o h2 (hk' b o h1 e))
      refine sx_end (r := .ok (.ret .none)) ⟨rfl, Kp.heap fun b hb => ?_, ⟨fun b o e => ?_, fun p hp => ?_, hH.offB, hH.offF⟩, fin' _ hk₃⟩
      · obtain ⟨o, ho⟩ := hx.live b hb
        rw [ho]
        exact hk₂ b o (fun q => hIcm (q ▸ hb)) ho
      · exact hk₃ b o (fun q => absurd (Heap.lt_size e) (by rw [q]; exact Nat.not_lt.mpr F.above)) (fun hb => by rw [hH.offB b hb] at e; cases e) (hH.base b o e)
      · exact hk₃ _ _ (hFL p hp) (hH.offF p hp) (hH.fx p hp)
end Mine
end
section -- I6
open PySem PySem.W PyProof.Rows
set_option Elab.async false
set_option maxRecDepth 100000
set_option maxHeartbeats 12000000
namespace Mine
open PySem.W.X (SegX)
theorem lessI {outer : List Env} {P : Params} {q : Str} {Li f C : Addr} {cd : Value} {body : List Stmt} : LessA ((AgI outer).over (.func body (envI P q Li f C cd)) []) (AA (envI P q Li f C cd :: outer) none) :=
  ⟨rfl, by show 390 + 0 + 1 ≤ 400; decide, .inr rfl, .inl rfl, by show 1900 + 0 + 3 ≤ 2000; decide⟩
theorem wpI {M : Model} {outer : List Env} {P : Params} {q : Str} {Li f C : Addr} {cd : Value} {body : List Stmt} {α : Type} {t : Sem α} {Q : α → Shared → Prop} {E : Value → Shared → Prop} {s : Shared}
    (h : wpAny M (AA (envI P q Li f C cd :: outer) none) t Q E s) : wpAny M ((AgI outer).over (.func body (envI P q Li f C cd)) []) t Q E s :=
  wpLess (lessI (body := body)).hh (lessI (body := body)).hd (lessI (body := body)).hf (lessI (body := body)).hg (lessI (body := body)).hu h
theorem inB_shape (P : Params) : ∃ b0 p0 p3 y1 y2, (inB P).1 = .If (if0T P).1 b0 [] p0 :: ((inB P).1.tail.take 2 ++ (.If (ifT P).1 ((ifB P).1.take 5 ++ [.Expr (.Yield (some (yE P).1) y1) y2]) [] p3 :: (inB P).1.drop 4)) :=
  ⟨_, _, _, _, _, rfl⟩
theorem inner_first {w : World} {co : Obj} {A₀ : Around} {base B Bp : Heap} {outer : List Env} {q : Str} {Li f C U P c : Addr} {oc op oJ : Obj} {J : Addr} {ps : Array Value} {m mg mb : Str → Option Value} {p : Program} {loose : List Str} {mean : ExcName → Option Value}
    {s : Shared} {ws0 tr : List Tk} {fst x : Tk} {n g : Nat} {fr : Addr → Prop} {cm : List Addr}
    (X : (Mine.hd.heap_39 w.params).In Bp) (T : Top p loose mean mg mb Bp) (kBp : ∀ b o, Bp.get? b = some o → B.get? b = some o) (sBp : Bp.objs.size ≤ B.objs.size) (offB : ∀ b ∈ cm, Bp.get? b = none) (hcm : ∀ b ∈ cm, ∃ o, B.get? b = some o)
    (Bl : Below A₀ base outer B) (F : Fr B Li s.heap m) (N : News B Li s.heap [(C, cellObj co (some (.ref U))), (U, listOf (((ws0 ++ [x]) ++ tr).map rf).toArray n), (P, op), (J, oJ)]) (hCU : @Ne Nat C U) (hPU : @Ne Nat P U) (hPC : @Ne Nat P C) (hJU : @Ne Nat J U) (hJP : @Ne Nat J P) (hJc : J ∉ cm)
    (hall : ∀ t ∈ (ws0 ++ [x]) ++ tr, TkIn Bp t ∧ (Word t ∨ Blank t)) (hx : Word x) (hfst : (ws0 ++ [x]).head? = some fst) (htr : tr = [] ∨ ∃ b, tr = [b] ∧ Blank b) (hlen : ws0.length ≤ 700)
    (hoc : Bp.get? c = some oc) (hcf : CodeF oc op c P ps) (hG : AllBare s.gens) (hg : g < s.gens.size) (hkey : KeyOk (textOf (ws0 ++ [x]))) (hfr : ∀ a : Addr, B.get? a = none → @LT.lt Nat _ U a → @LT.lt Nat _ C a → @LT.lt Nat _ P a → fr a) (hoff : ∀ b ∈ [C, U, P, Li], b ∉ cm) :
    SegX (model PySem.Challenge.rw_ew0014_01.row.prog w) (AgI outer) (.func (inB w.params).1 (envI w.params q Li f C (.ref c))) ((model PySem.Challenge.rw_ew0014_01.row.prog w).den (.func (inB w.params).1 (envI w.params q Li f C (.ref c)))) [] s
      (PP (model PySem.Challenge.rw_ew0014_01.row.prog w) (AgI outer) g cm Bp (OutP w.params fr) (FinI co C U P c oc) (.new fst.st x.en (textOf (ws0 ++ [x])) :: tr.map .old) [(J, oJ)] s) := by
  have XB : (Mine.hd.heap_39 w.params).In B := X.keeps kBp
  have TB : Top p loose mean mg mb B := T.keeps kBp
  have hne : (((ws0 ++ [x]) ++ tr).map rf).isEmpty = false := by cases ws0 <;> rfl
  have hln : (((ws0 ++ [x]) ++ tr).map rf).length ≤ 1000 := by
    rcases htr with rfl | ⟨b, rfl, _⟩ <;> simp <;> omega
  refine sx_func ?_
  obtain ⟨b0, p0, p3, y1, y2, e⟩ := inB_shape w.params
  conv in execs (inB w.params).1 _ => rw [e]
  refine sx_cons (sx_If (wpI (in_0 XB TB Bl F N (.head _) (.tail _ (.head _)) hln fun tk => ⟨fun e => (by rw [hne] at e; cases e), fun _ => ?_⟩)))
  refine sx_nil ?_
  dsimp only
  refine sx_block (wpI ?_)
  have back : ∀ (TS : Addr) (h' : Heap) (tk k n' : Nat), Fr B Li h' (fun y => if y = Str.ofString "trailing_spaces" then some (.ref TS) else m y) →
      News B Li h' [(TS, listOf (tr.map rf).toArray k), (C, cellObj co (some (.ref U))), (U, listOf ((ws0 ++ [x]).map rf).toArray n'), (P, op), (J, oJ)] → (@LT.lt Nat _ U TS ∧ @LT.lt Nat _ C TS ∧ @LT.lt Nat _ P TS) →
      SegX (model PySem.Challenge.rw_ew0014_01.row.prog w) (AgI outer) (.func (inB w.params).1 (envI w.params q Li f C (.ref c)))
        ((execs (.If (ifT w.params).1 ((ifB w.params).1.take 5 ++ [.Expr (.Yield (some (yE w.params).1) y1) y2]) [] p3 :: (inB w.params).1.drop 4) (envI w.params q Li f C (.ref c))).wrap endK (fun e => (leaving (envI w.params q Li f C (.ref c)) e).wrap (fun _ => .raise e) .raise id id) id id) []
        { s with heap := h', toks := tk } (PP (model PySem.Challenge.rw_ew0014_01.row.prog w) (AgI outer) g cm Bp (OutP w.params fr) (FinI co C U P c oc) (.new fst.st x.en (textOf (ws0 ++ [x])) :: tr.map .old) [(J, oJ)] s) := by
    intro TS h' tk k n' F1 N1 hTS
    have hc0 : (C, cellObj co (some (.ref U))) ∈ [(TS, listOf (tr.map rf).toArray k), (C, cellObj co (some (.ref U))), (U, listOf ((ws0 ++ [x]).map rf).toArray n'), (P, op), (J, oJ)] := .tail _ (.head _)
    have hu0 : (U, listOf ((ws0 ++ [x]).map rf).toArray n') ∈ [(TS, listOf (tr.map rf).toArray k), (C, cellObj co (some (.ref U))), (U, listOf ((ws0 ++ [x]).map rf).toArray n'), (P, op), (J, oJ)] := .tail _ (.tail _ (.head _))
    have hl1 : ((ws0 ++ [x]).map rf).length ≤ 1000 := by simp; omega
    have hl9 : ((ws0 ++ [x]).map rf).length ≤ 900 := by simp; omega
    have hl9' : (ws0 ++ [x]).length ≤ 900 := by simp; omega
    have hne1 : (!((ws0 ++ [x]).map rf).isEmpty) = true := by cases ws0 <;> rfl
    have hall1 : ∀ t ∈ ws0 ++ [x], TkIn B t ∧ (Word t ∨ Blank t) := fun t ht => ⟨(hall t (List.mem_append_left _ ht)).1.keeps kBp, (hall t (List.mem_append_left _ ht)).2⟩
    have hxm : x ∈ ws0 ++ [x] := by simp
    have hfm : fst ∈ ws0 ++ [x] := List.mem_of_mem_head? hfst
    refine sx_cons (sx_If (wpI (in_t XB TB Bl F1 N1 hc0 hu0 hl1 fun tk1 => ⟨fun _ => ?_, fun e => (by rw [hne1] at e; cases e)⟩)))
    refine sx_block (wpI (in_d XB TB Bl F1 N1 hCU hPU hPC hJU hJP hTS hall1 (hall1 fst hfm).1 (hall1 x hxm).1 (by rw [List.head?_map, hfst]; rfl) (by simp) hl9 (by cases ws0 <;> simp) (kBp _ _ hoc) hcf hG hkey hl9' ?_))
    intro X2 dX h2 tk2 gens2 op2 ps2 m2 t1 t2 t3 t4 t5 t6 tv tx a1 a2 F2 e1 e2 e3 e4 e5 N2 l1 hcf2 hG2 hgk hgs
    refine ⟨rfl, sx_cons (sx_Yield rfl rfl rfl (wpI (in_e (s := { s with heap := h2, gens := gens2, toks := tk2 }) XB TB Bl F2 N2 e2 e3 e4 e5 fun x3 dx3 h3 tk3 F3 N3 l3 l4 => ?_)))⟩
    intro k' l' p' hres
    have hsub : ∀ q' ∈ [(x3, tokObj dx3 fst.st x.en fst.ts x.te tx (textOf (ws0 ++ [x])) (.ref X2)), (dx3, dictOf [] 0), (X2, instObj 471 dX), (dX, dictOf (symEs w.params (textOf (ws0 ++ [x])) t1 t2 t3 t4 t5 t6 tv a1 a2) 6)], h3.get? q'.1 = some q'.2 ∧ q'.1 ≠ Li ∧ B.get? q'.1 = none := fun q' hq' => by
      refine N3 q' ?_
      rcases List.mem_cons.mp hq' with rfl | hq'
      · exact .head _
      rcases List.mem_cons.mp hq' with rfl | hq'
      · exact .tail _ (.head _)
      rcases List.mem_cons.mp hq' with rfl | hq'
      · exact .tail _ (.tail _ (.head _))
      rcases List.mem_cons.mp hq' with rfl | hq'
      · exact .tail _ (.tail _ (.tail _ (.head _)))
      · cases hq'
    have l5 : @LT.lt Nat _ TS dx3 := l3 (TS, listOf (tr.map rf).toArray k) (by simp)
    have hbig : ∀ q' ∈ [(x3, tokObj dx3 fst.st x.en fst.ts x.te tx (textOf (ws0 ++ [x])) (.ref X2)), (dx3, dictOf [] 0), (X2, instObj 471 dX), (dX, dictOf (symEs w.params (textOf (ws0 ++ [x])) t1 t2 t3 t4 t5 t6 tv a1 a2) 6)], @LT.lt Nat _ TS q'.1 := fun q' hq' => by
      rcases List.mem_cons.mp hq' with rfl | hq'
      · exact Nat.lt_trans l5 l4
      rcases List.mem_cons.mp hq' with rfl | hq'
      · exact l5
      rcases List.mem_cons.mp hq' with rfl | hq'
      · exact Nat.lt_trans l1.1 l1.2
      rcases List.mem_cons.mp hq' with rfl | hq'
      · exact l1.1
      · cases hq'
    generalize hnw : [(x3, tokObj dx3 fst.st x.en fst.ts x.te tx (textOf (ws0 ++ [x])) (.ref X2)), (dx3, dictOf [] 0), (X2, instObj 471 dX), (dX, dictOf (symEs w.params (textOf (ws0 ++ [x])) t1 t2 t3 t4 t5 t6 tv a1 a2) 6)] = nw at hsub hbig
    have hcmne : ∀ a : Addr, B.get? a = none → a ∉ cm := fun a ha hb => by
      obtain ⟨o, ho⟩ := hcm a hb
      rw [ha] at ho; cases ho
    have hJ3 : h3.get? J = some oJ ∧ J ≠ Li ∧ B.get? J = none := N3 (J, oJ) (by simp)
    have hsub2 : ∀ q' ∈ nw ++ [(J, oJ)], h3.get? q'.1 = some q'.2 ∧ q'.1 ≠ Li ∧ B.get? q'.1 = none := fun q' hq' => by
      rcases List.mem_append.mp hq' with hq' | hq'
      · exact hsub q' hq'
      · rw [List.mem_singleton.mp hq']; exact hJ3
    have hH3 : Holds cm Bp (nw ++ [(J, oJ)]) h3 := ⟨fun b o e => F3.keep b o (kBp b o e), fun q' hq' => (hsub2 q' hq').1, offB, fun q' hq' => by
      rcases List.mem_append.mp hq' with hq' | hq'
      · exact hcmne _ (hsub q' hq').2.2
      · rw [List.mem_singleton.mp hq']; exact hJc⟩
    refine ⟨.ref x3, l', k', _, p', [], nw, rfl, ⟨rfl, rfl, fun b hb => ?_, fun j hj => hgk j (Nat.lt_of_le_of_lt hj hg), hgs, fun _ => hG2⟩, hH3, ⟨x3, dx3, X2, dX, _, _, _, _, _, _, _, _, _, _, _, _, rfl, hnw.symm, fun q' hq' => hfr _ (hsub q' hq').2.2 (Nat.lt_trans hTS.1 (hbig q' hq')) (Nat.lt_trans hTS.2.1 (hbig q' hq')) (Nat.lt_trans hTS.2.2 (hbig q' hq'))⟩, fun s'' hxt => hres s'' _ ?_⟩
    · obtain ⟨o, ho⟩ := hcm b hb
      exact (F3.keep b o ho).trans (F.keep b o ho).symm
    · refine sx_nil ?_
      dsimp only
      have hoff' : ∀ b ∈ [TS, C, U, P, Li], b ∉ cm := fun b hb => by
        rcases List.mem_cons.mp hb with rfl | hb
        · exact hcmne _ (N3 (b, listOf (tr.map rf).toArray k) (by simp)).2.2
        · exact hoff b hb
      have hk4 : ∀ b o, b ∉ cm → h3.get? b = some o → s''.heap.get? b = some o := hxt.heap
      have F4 : Fr Bp Li s''.heap m2 := ⟨F3.ns.at' fun o e => hk4 _ o (hoff' Li (by simp)) e, fun b o e => hk4 b o (fun hb => by rw [offB b hb] at e; cases e) (F3.keep b o (kBp b o e)), Nat.le_trans sBp F3.above⟩
      have N4 : News Bp Li s''.heap [(TS, listOf (tr.map rf).toArray k), (C, cellObj co (some (.ref U))), (U, listOf #[] (n' + 1)), (P, op2)] := fun q' hq' => by
        have hz := N3 q' (.tail _ (.tail _ (.tail _ (.tail _ (List.mem_append_left [(J, oJ)] hq')))))
        refine ⟨hk4 _ _ (hcmne _ hz.2.2) hz.1, hz.2.1, ?_⟩
        cases hb : Bp.get? q'.1 with
        | none => rfl
        | some o => rw [kBp _ _ hb] at hz; cases hz.2.2
      refine in_for F4 N4 hcf2 (by rw [e1]; rfl) (hH3.ext hk4) (fun q' hq' => (hsub2 q' hq').2.1) hoff' hxt.live ?_
      rcases htr with rfl | ⟨b, rfl, _⟩ <;> simp
  rcases htr with rfl | ⟨b, rfl, hb⟩
  · rw [List.append_nil, List.map_append] at N
    exact in_bA (s := { s with toks := tk }) (x := x) XB TB Bl F N hCU hPU hJU ((hall x (by simp)).1.keeps kBp) hx (by simp; omega) fun TS h' tk' F1 N1 l => ⟨rfl, back TS h' tk' 0 n F1 (by rw [List.map_append]; exact N1) l⟩
  · rw [List.map_append, List.map_append] at N
    exact in_bB (s := { s with toks := tk }) (x := x) (b := b) XB TB Bl F N hCU hPU hJU ((hall x (by simp)).1.keeps kBp) hx ((hall b (by simp)).1.keeps kBp) hb (by simp; omega) (by simp; omega) fun TS h' tk' F1 N1 l => ⟨rfl, back TS h' tk' 1 (n + 1) F1 (by rw [List.map_append]; exact N1) l⟩
theorem inB_shape0 (P : Params) : ∃ p1 p0 r, (inB P).1 = .If (if0T P).1 [.Return none p1] [] p0 :: r := ⟨_, _, _, rfl⟩
theorem inner_empty {w : World} {co : Obj} {A₀ : Around} {base B Bp : Heap} {outer : List Env} {q : Str} {Li f C U P c : Addr} {oc op oJ : Obj} {J : Addr} {ps : Array Value} {m mg mb : Str → Option Value} {p : Program} {loose : List Str} {mean : ExcName → Option Value}
    {s : Shared} {n g : Nat} {fr : Addr → Prop} {cm : List Addr}
    (X : (Mine.hd.heap_39 w.params).In Bp) (T : Top p loose mean mg mb Bp) (kBp : ∀ b o, Bp.get? b = some o → B.get? b = some o) (offB : ∀ b ∈ cm, Bp.get? b = none)
    (Bl : Below A₀ base outer B) (F : Fr B Li s.heap m) (N : News B Li s.heap [(C, cellObj co (some (.ref U))), (U, listOf ([] : List Value).toArray n), (P, op), (J, oJ)]) (hcf : CodeF oc op c P ps) (hJc : J ∉ cm) :
    SegX (model PySem.Challenge.rw_ew0014_01.row.prog w) (AgI outer) (.func (inB w.params).1 (envI w.params q Li f C (.ref c))) ((model PySem.Challenge.rw_ew0014_01.row.prog w).den (.func (inB w.params).1 (envI w.params q Li f C (.ref c)))) [] s
      (PP (model PySem.Challenge.rw_ew0014_01.row.prog w) (AgI outer) g cm Bp (OutP w.params fr) (FinI co C U P c oc) [] [(J, oJ)] s) := by
  refine sx_func ?_
  obtain ⟨p1, p0, r, e⟩ := inB_shape0 w.params
  conv in execs (inB w.params).1 _ => rw [e]
  refine sx_cons (sx_If (wpI (in_0 (X.keeps kBp) (T.keeps kBp) Bl F N (.head _) (.tail _ (.head _)) (by simp) fun tk => ⟨fun _ => ?_, fun e => (by cases e)⟩)))
  refine sx_cons (sx_wrapF (wpAny_Return_none ?_))
  exact sx_end (r := .ok (.ret .none)) ⟨rfl, Kp.heap fun _ _ => rfl, ⟨fun b o e => F.keep b o (kBp b o e), (fun q' hq' => by rw [List.mem_singleton.mp hq']; exact (N (J, oJ) (by simp)).1), offB, fun q' hq' => by rw [List.mem_singleton.mp hq']; exact hJc⟩, op, ps, n, (N _ (.head _)).1, (N _ (.tail _ (.head _))).1, (N _ (.tail _ (.tail _ (.head _)))).1, hcf⟩
end Mine
end
section -- O1
open PySem PySem.W PyProof.Rows
set_option Elab.async false
set_option maxRecDepth 100000
set_option maxHeartbeats 12000000
namespace Mine
abbrev envO (P : Params) (q : Str) (Lg f Cg : Addr) (cd : Value) : Env := envX q (outS P).1 Lg f cd [(Str.ofString "unmatched", Cg)]
theorem frIsL {B h : Heap} {L tl : Addr} {m : Str → Option Value} {vs : List Value} {n : Nat} (F : Fr B L h m) (e : B.get? tl = some (listOf vs.toArray n)) : h.IsList tl vs.toArray := ⟨_, F.keep _ _ e, rfl, _, rfl⟩
theorem szOk {vs : List Value} (h : vs.length ≤ 100) : vs.toArray.size ≤ sizeLine := by rw [sizeLine_eq]; simp; omega
local macro_rules | `(tactic| walk_at "eval Name") => `(tactic| (refine wpAny_Name (wpAny_loadName_local (by rfl) (by rfl) (Fr.ns (by k_asm)) (by assumption) ?_) (by decide)))
local macro_rules | `(tactic| walk_at "call type:list") => `(tactic| ((refine' list_copyK ?k1 ?k2 ?k3 ?_ ?z; (case k1 => k_asm); (case k2 => k_asm); (case k3 => exact frIsL (by k_asm) (by assumption)); (case z => exact szOk (by assumption))); intro D' c' h' F' N' l1; (try k_lt l1); (try dsimp only)))
theorem storeCellX {M : Model} {A : Around} {E : Value → Shared → Prop} {s : Shared} {h₀ : Heap} {L : Addr} {m : Str → Option Value} {env : Env} {x : Str} {v : Value} {v₀ : Option Value} {co : Obj} {Q : Unit → Shared → Prop} {news news' : List (Addr × Obj)} {c : Addr}
    (F : Fr h₀ L s.heap m) (N : News h₀ L s.heap news) (hc : env.cells.lookup x = some c) (U : Upd c (cellObj co v₀) (cellObj co (some v)) news news') (hf : (cellObj co (some v)).isFreed = false)
    (h : ∀ h', Fr h₀ L h' m → News h₀ L h' news' → Q () { s with heap := h' }) (hk : env.scope.kind = .function) (hx : env.kindOf x = some .cell) : wpAny M A (storeName env x v) Q E s := by
  obtain ⟨pre, post, rfl, rfl, a, b⟩ := U.split
  have z := N (c, cellObj co v₀) (List.mem_append.mpr (.inr (.head _)))
  unfold storeName
  simp only [hx, hk]
  refine wpAny_bind (wpAny_cellOf hc ?_)
  unfold cellSet
  refine wpAny_bind (wpAny_load z.1 ?_)
  have hs : Heap.SameBut c s.heap (s.heap.update c fun o => { o with data := .cell (some v) }) := Heap.SameBut.update ..
  have e : (s.heap.update c fun o => { o with data := .cell (some v) }).get? c = some (cellObj co (some v)) := Heap.get?_update_self (o := cellObj co v₀) (fun o => { o with data := .cell (some v) }) z.1 hf
  exact wpAny_update z.1 (h _ (F.change hs z.2.1 z.2.2) (news_set N a b hs e))
local macro_rules | `(tactic| walk_at "storeName") => `(tactic| (k_dflt (refine' storeCellX ?F ?N ?c ?U ?f ?_ ?hk ?hx; (case hk => rfl); (case hx => rfl); (case F => k_asm); (case N => k_asm); (case c => rfl); (case U => k_upd); (case f => exact rfl)); intro h' F' N'; (try dsimp only)))
local macro_rules | `(tactic| walk_at "exec FunctionDef") => `(tactic| (k_dflt (refine' nestDef_K ?d0 ?k0 ?a0 ?_; (case d0 => exact rfl); (case k0 => exact rfl); (case a0 => exact rfl)); (k_dflt (refine' nest_P ?F ?N ?T ?C ?cd ?U ?t ?n ?cl ?dc ?_; (case F => k_asm); (case N => k_asm); (case T => assumption); (case cd => exact rfl); (case C => assumption); (case U => k_updF); (case t => kn_triples); (case n => kn_among); (case cl => exact rfl); (case dc => exact rfl); k_whole); intro f' c' oc' P' op' vs' t' ct' h' tk' F' N' d1' d2' d3' l1 l2 l3 l4; (try dsimp only at N'); (try k_lt l1); (try k_lt l2); (try k_lt2 l3); (try k_lt2 l4))))
abbrev noArgs : Arguments := { posonlyargs := [], args := [], vararg := none, kwonlyargs := [], kw_defaults := [], kwarg := none, defaults := [] }
abbrev fnB (P : Params) (q : Str) (Cg c' : Addr) (pm ct : Value) : Obj := fnMade (Str.ofString "build_token_with_symbol") q noArgs (inB P).1 (inS P).1 [(Str.ofString "unmatched", Cg)] .none pm c' ct
theorem o_a : ∀ {w : World} {co : Obj} {A₀ : Around} {base B : Heap} {outer : List Env} {Lg Cg tl S J : Addr} {oS oJ : Obj}
   {m mg mb : Str → Option Value} {p : Program} {loose : List Str} {mean : ExcName → Option Value} {s : Shared} {vs : List Value} {n : Nat} {Q : Flow → Shared → Prop},
   (Mine.hd.heap_39 w.params).In B → Top p loose mean mg mb B → Below A₀ base outer B → Fr B Lg s.heap m → News B Lg s.heap [(Cg, cellObj co none), (205, tabObj #[]), (S, oS), (J, oJ)] →
   B.get? tl = some (listOf vs.toArray n) → m (Str.ofString "tokens") = some (.ref tl) → vs.length ≤ 100 → CodeHd B 209 205 → @Ne Nat Cg 205 → @Ne Nat S Cg → @Ne Nat S 205 → @Ne Nat J Cg → @Ne Nat J 205 →
   (∀ (f c' : Addr) (oc : Obj) (P' : Addr) (op' : Obj) (U tl2 : Addr) (c1 : Nat) (q : Str) (t : Tok) (vs' : Array Value) (pm ct : Value) (ps' : Array Value) (h' : Heap) (tk : Tok),
      Fr B Lg h' (fun y => if y = Str.ofString "build_token_with_symbol" then some (.ref f) else if y = Str.ofString "tokens" then some (.ref tl2) else m y) →
      News B Lg h' [(f, fnB w.params q Cg c' pm ct), (c', oc), (P', op'), (U, listOf #[] 0), (tl2, listOf vs.toArray c1), (Cg, cellObj co (some (.ref U))), (205, tabObj ps'), (S, oS), (J, oJ)] →
      oc.data = .fields vs' → vs'[1]? = some (.str q t) → CodeF oc op' c' P' #[] → (@LT.lt Nat _ Cg tl2 ∧ @LT.lt Nat _ 205 tl2 ∧ @LT.lt Nat _ S tl2 ∧ @LT.lt Nat _ J tl2 ∧ @LT.lt Nat _ tl2 U ∧ @LT.lt Nat _ U c' ∧ @LT.lt Nat _ U P' ∧ @LT.lt Nat _ c' f ∧ @LT.lt Nat _ P' f) → Q .next { s with heap := h', toks := tk }) →
   wpAny (model PySem.Challenge.rw_ew0014_01.row.prog w) (AA (envO w.params (Str.ofString "build_symbols_from_unknown_tokens") Lg 210 Cg (.ref 209) :: outer) none)
     (execs ((outB w.params).1.take 3) (envO w.params (Str.ofString "build_symbols_from_unknown_tokens") Lg 210 Cg (.ref 209))) Q (fun _ _ => False) s := by
  k_fill
  intro w co A₀ base B outer Lg Cg tl S J oS oJ m mg mb p loose mean s vs n Q X T Bl F N htl hm hlen hC0 hn1 hn2 hn3 hn4 hn5 hQ
  dsimp only [outB, outS, envO, List.take]
  repeat' (first | (k_unfold; (try dsimp only)) | (k_end; wrow_close) | walk1 | (dsimp only; walk1) | (leave1; walk_say "STEP leave1"; try dsimp only))
  exact hQ _ _ _ _ _ _ _ _ _ _ _ _ _ _ _ _ (by k_asm) (by k_asm) (by assumption) (by assumption) (by assumption) (by omega)
end Mine
end
section -- O2
open PySem PySem.W PyProof.Rows
set_option Elab.async false
set_option maxRecDepth 100000
set_option maxHeartbeats 12000000
namespace Mine
abbrev nmO : Str := Str.ofString "build_symbols_from_unknown_tokens"
abbrev envG (P : Params) (Lg Cg : Addr) : Env := envO P nmO Lg 210 Cg (.ref 209)
/-- the test of the loop's outer if, its body, the elif's test and its two rows -/
def oIf (P : Params) : { x : PySem.Expr × List Stmt × PySem.Expr × List Stmt × List Stmt × List Stmt // (match (outB P).1 with
    | _ :: _ :: _ :: .For _ _ [.If t1 b1 [.If t2 b2 b3 _] _] _ _ :: r => (t1, b1, t2, b2, b3, r) | _ => (.Constant .none 0 ⟨0, 0, 0, 0⟩, [], .Constant .none 0 ⟨0, 0, 0, 0⟩, [], [], [])) = x } := by
  refine ⟨?b, ?h⟩
  case h =>
    conv => lhs; whnf
structure SymAt (h : Heap) (x : Addr) : Prop where
  is : ∃ dx es n, h.get? x = some (instObj 471 dx) ∧ h.get? dx = some (dictOf es n)
theorem SymAt.inst {h : Heap} {x : Addr} (s : SymAt h x) : ∃ dx es n, InstAt h x (instObj 471 dx) 471 (some (dictOf es n)) := let ⟨dx, es, n, a, b⟩ := s.is; ⟨dx, es, n, a, rfl, rfl, b⟩
theorem inst_raw {h : Heap} {a dx C : Addr} {ox od : Obj} (e : h.get? a = some ox) (hc : ox.cls = .ref C) (hn : notCls ox = true) (hd : ox.dict = some dx) (e2 : h.get? dx = some od) : InstAt h a ox C (some od) := ⟨e, hc, hn, by rw [hd]; exact e2⟩
local macro_rules | `(tactic| walk_at "eval Name") => `(tactic| (refine wpAny_Name (wpAny_loadName_local (by rfl) (by rfl) (Fr.ns (by k_asm)) (by assumption) ?_) (by decide)))
local macro_rules | `(tactic| walk_at "eval Name") => `(tactic| (k_dflt (refine' nameX_C ?N ?c ?m ?d ?_ ?a ?b; (case a => rfl); (case b => rfl); (case N => k_asm); (case c => rfl); (case m => k_mem); (case d => rfl); k_whole)))
local macro_rules | `(tactic| k_inst) => `(tactic| exact inst_tok (TkIn.keeps (by assumption) (Fr.keep (by k_asm))))
local macro_rules | `(tactic| k_inst) => `(tactic| (refine' inst_raw (Fr.keep (by k_asm) _ _ ?e1) ?e2 ?e3 ?e5 (Fr.keep (by k_asm) _ _ ?e4); (case e1 => assumption); (case e2 => exact rfl); (case e3 => exact rfl); (case e5 => exact rfl); (case e4 => assumption)))
local macro_rules | `(tactic| walk_at "call builtin:str.strip") => `(tactic| (refine strip_word (by assumption) ?_; intro _ _; (try dsimp only)))
local macro_rules | `(tactic| walk_at "call builtin:str.strip") => `(tactic| (refine strip_blank (by assumption) ?_; intro _ _; (try dsimp only)))
local macro_rules | `(tactic| walk_at "truthy str") => `(tactic| (refine truthy_word (by assumption) ?_; intro _; (try dsimp only)))
local macro_rules | `(tactic| walk_at "truthy str") => `(tactic| (refine truthy_empty ?_; intro _; (try dsimp only)))
local macro_rules | `(tactic| k_all) => `(tactic| first | exact List.forall_mem_nil _ | (refine' List.forall_mem_cons.mpr ⟨?a, ?b⟩; (case a => k_ne); (case b => k_all)) | assumption)
theorem o_v1 : ∀ {w : World} {A₀ : Around} {base B : Heap} {outer : List Env} {Lg Cg : Addr}
   {m mg mb : Str → Option Value} {p : Program} {loose : List Str} {mean : ExcName → Option Value} {s : Shared} {news : List (Addr × Obj)} {t : Tk} {Q : Bool → Shared → Prop},
   (Mine.hd.heap_39 w.params).In B → Top p loose mean mg mb B → Below A₀ base outer B → Fr B Lg s.heap m → News B Lg s.heap news → m (Str.ofString "tok") = some (rf t) → TkIn B t → t.v = .none →
   (∀ tk, Q false { s with toks := tk }) →
   wpAny (model PySem.Challenge.rw_ew0014_01.row.prog w) (AA (envG w.params Lg Cg :: outer) none)
     (isTrue (oIf w.params).1.1 (envG w.params Lg Cg) (eval (oIf w.params).1.1 (envG w.params Lg Cg))) Q (fun _ _ => False) s := by
  k_fill
  intro w A₀ base B outer Lg Cg m mg mb p loose mean s news t Q X T Bl F N hm ht hv hQ
  obtain ⟨a, tdx, tst, ten, tts, tte, ttk, tsg, tv⟩ := t
  obtain ⟨ht1, ht2⟩ := ht
  dsimp only [Tk.obj, rf] at ht1 ht2 hv hm
  subst hv
  dsimp only [oIf, outS, envG, envO]
  repeat' (first | (k_unfold; (try dsimp only)) | (k_end; wrow_close) | walk1 | (dsimp only; walk1) | (leave1; walk_say "STEP leave1"; try dsimp only))
  exact hQ _
theorem o_v2 : ∀ {w : World} {A₀ : Around} {base B : Heap} {outer : List Env} {Lg Cg : Addr}
   {m mg mb : Str → Option Value} {p : Program} {loose : List Str} {mean : ExcName → Option Value} {s : Shared} {news : List (Addr × Obj)} {t : Tk} {x dx : Addr} {es : List DictEntry} {n : Nat} {Q : Bool → Shared → Prop},
   (Mine.hd.heap_39 w.params).In B → Top p loose mean mg mb B → Below A₀ base outer B → Fr B Lg s.heap m → News B Lg s.heap news → m (Str.ofString "tok") = some (rf t) → TkIn B t → t.v = .ref x → B.get? x = some (instObj 471 dx) → B.get? dx = some (dictOf es n) →
   (∀ h' tk, Fr B Lg h' m → News B Lg h' news → Q true { s with heap := h', toks := tk }) →
   wpAny (model PySem.Challenge.rw_ew0014_01.row.prog w) (AA (envG w.params Lg Cg :: outer) none)
     (isTrue (oIf w.params).1.1 (envG w.params Lg Cg) (eval (oIf w.params).1.1 (envG w.params Lg Cg))) Q (fun _ _ => False) s := by
  k_fill
  intro w A₀ base B outer Lg Cg m mg mb p loose mean s news t x dx es n Q X T Bl F N hm ht hv hx1 hx2 hQ
  obtain ⟨a, tdx, tst, ten, tts, tte, ttk, tsg, tv⟩ := t
  obtain ⟨ht1, ht2⟩ := ht
  dsimp only [Tk.obj, rf] at ht1 ht2 hv hm
  subst hv
  dsimp only [oIf, outS, envG, envO]
  repeat' (first | (k_unfold; (try dsimp only)) | (k_end; wrow_close) | walk1 | (dsimp only; walk1) | (leave1; walk_say "STEP leave1"; try dsimp only))
  exact hQ _ _ (by k_asm) (by k_asm)
theorem tl_truthyN {prog : Program} {w : World} {A : Around} {E : Value → Shared → Prop} {s : Shared} {h₀ : Heap} {L D : Addr} {news : List (Addr × Obj)} {vs : List Value} {n : Nat} {Q : Bool → Shared → Prop} (N : News h₀ L s.heap news) (hm : (D, listOf vs.toArray n) ∈ news) (hz : vs.length ≤ 900) (hne : vs ≠ []) (h : ∀ k, Q true { s with toks := k }) :
    wpAny (model prog w) A (truthy (.ref D)) Q E s := tl_truthy N hm (by omega) fun k => by
    have e : (!vs.isEmpty) = true := by cases vs with
      | nil => exact absurd rfl hne
      | cons _ _ => rfl
    rw [e]; exact h k
theorem tl_truthyE {prog : Program} {w : World} {A : Around} {E : Value → Shared → Prop} {s : Shared} {h₀ : Heap} {L D : Addr} {news : List (Addr × Obj)} {n : Nat} {Q : Bool → Shared → Prop} (N : News h₀ L s.heap news) (hm : (D, listOf ([] : List Value).toArray n) ∈ news) (h : ∀ k, Q false { s with toks := k }) :
    wpAny (model prog w) A (truthy (.ref D)) Q E s := tl_truthy N hm (by simp) h
local macro_rules | `(tactic| walk_at "truthy ref") => `(tactic| (k_dflt (refine' tl_truthyN ?k1 ?k2 ?k3 ?k4 ?_; (case k1 => k_asm); (case k2 => k_mem); (case k3 => assumption); (case k4 => assumption); k_whole); intro _; (try dsimp only)))
local macro_rules | `(tactic| walk_at "truthy ref") => `(tactic| (k_dflt (refine' tl_truthyE ?k1 ?k2 ?_; (case k1 => k_asm); (case k2 => k_mem); k_whole); intro _; (try dsimp only)))
local macro_rules | `(tactic| walk_at "call builtin:list.append") => `(tactic| (k_dflt (refine' tl_append ?F ?N ?U ?z ?_; (case F => k_asm); (case N => k_asm); (case U => k_upd); (case z => assumption)); kl_rest))
theorem o_w1 : ∀ {w : World} {co : Obj} {A₀ : Around} {base B : Heap} {outer : List Env} {Lg Cg U : Addr}
   {m mg mb : Str → Option Value} {p : Program} {loose : List Str} {mean : ExcName → Option Value} {s : Shared} {rest : List (Addr × Obj)} {t : Tk} {n : Nat} {Q : Bool → Shared → Prop},
   (Mine.hd.heap_39 w.params).In B → Top p loose mean mg mb B → Below A₀ base outer B → Fr B Lg s.heap m → News B Lg s.heap ((Cg, cellObj co (some (.ref U))) :: (U, listOf ([] : List Value).toArray n) :: rest) → m (Str.ofString "tok") = some (rf t) → TkIn B t → Word t →
   (∀ tk, Q false { s with toks := tk }) →
   wpAny (model PySem.Challenge.rw_ew0014_01.row.prog w) (AA (envG w.params Lg Cg :: outer) none)
     (isTrue (oIf w.params).1.2.2.1 (envG w.params Lg Cg) (eval (oIf w.params).1.2.2.1 (envG w.params Lg Cg))) Q (fun _ _ => False) s := by
  k_fill
  intro w co A₀ base B outer Lg Cg U m mg mb p loose mean s rest t n Q X T Bl F N hm ht hw hQ
  dsimp only [oIf, outS, envG, envO]
  repeat' (first | (k_unfold; (try dsimp only)) | (k_end; wrow_close) | walk1 | (dsimp only; walk1) | (leave1; walk_say "STEP leave1"; try dsimp only))
  exact hQ _
theorem o_w2 : ∀ {w : World} {co : Obj} {A₀ : Around} {base B : Heap} {outer : List Env} {Lg Cg U : Addr}
   {m mg mb : Str → Option Value} {p : Program} {loose : List Str} {mean : ExcName → Option Value} {s : Shared} {rest : List (Addr × Obj)} {t : Tk} {n : Nat} {Q : Bool → Shared → Prop},
   (Mine.hd.heap_39 w.params).In B → Top p loose mean mg mb B → Below A₀ base outer B → Fr B Lg s.heap m → News B Lg s.heap ((Cg, cellObj co (some (.ref U))) :: (U, listOf ([] : List Value).toArray n) :: rest) → m (Str.ofString "tok") = some (rf t) → TkIn B t → Blank t →
   (∀ tk, Q true { s with toks := tk }) →
   wpAny (model PySem.Challenge.rw_ew0014_01.row.prog w) (AA (envG w.params Lg Cg :: outer) none)
     (isTrue (oIf w.params).1.2.2.1 (envG w.params Lg Cg) (eval (oIf w.params).1.2.2.1 (envG w.params Lg Cg))) Q (fun _ _ => False) s := by
  k_fill
  intro w co A₀ base B outer Lg Cg U m mg mb p loose mean s rest t n Q X T Bl F N hm ht hw hQ
  dsimp only [oIf, outS, envG, envO]
  repeat' (first | (k_unfold; (try dsimp only)) | (k_end; wrow_close) | walk1 | (dsimp only; walk1) | (leave1; walk_say "STEP leave1"; try dsimp only))
  exact hQ _
theorem o_w3 : ∀ {w : World} {co : Obj} {A₀ : Around} {base B : Heap} {outer : List Env} {Lg Cg U : Addr}
   {m mg mb : Str → Option Value} {p : Program} {loose : List Str} {mean : ExcName → Option Value} {s : Shared} {rest : List (Addr × Obj)} {vs : List Value} {n : Nat} {Q : Bool → Shared → Prop},
   (Mine.hd.heap_39 w.params).In B → Top p loose mean mg mb B → Below A₀ base outer B → Fr B Lg s.heap m → News B Lg s.heap ((Cg, cellObj co (some (.ref U))) :: (U, listOf vs.toArray n) :: rest) → vs ≠ [] → vs.length ≤ 900 →
   (∀ tk, Q false { s with toks := tk }) →
   wpAny (model PySem.Challenge.rw_ew0014_01.row.prog w) (AA (envG w.params Lg Cg :: outer) none)
     (isTrue (oIf w.params).1.2.2.1 (envG w.params Lg Cg) (eval (oIf w.params).1.2.2.1 (envG w.params Lg Cg))) Q (fun _ _ => False) s := by
  k_fill
  intro w co A₀ base B outer Lg Cg U m mg mb p loose mean s rest vs n Q X T Bl F N hne hz hQ
  dsimp only [oIf, outS, envG, envO]
  repeat' (first | (k_unfold; (try dsimp only)) | (k_end; wrow_close) | walk1 | (dsimp only; walk1) | (leave1; walk_say "STEP leave1"; try dsimp only))
  exact hQ _
theorem o_x : ∀ {w : World} {co : Obj} {A₀ : Around} {base B : Heap} {outer : List Env} {Lg Cg U : Addr}
   {m mg mb : Str → Option Value} {p : Program} {loose : List Str} {mean : ExcName → Option Value} {s : Shared} {rest : List (Addr × Obj)} {vs : List Value} {t : Tk} {n : Nat} {Q : Flow → Shared → Prop},
   (Mine.hd.heap_39 w.params).In B → Top p loose mean mg mb B → Below A₀ base outer B → Fr B Lg s.heap m → News B Lg s.heap ((Cg, cellObj co (some (.ref U))) :: (U, listOf vs.toArray n) :: rest) → m (Str.ofString "tok") = some (rf t) → vs.length ≤ 900 → @Ne Nat Cg U → (∀ p ∈ rest, p.1 ≠ U) →
   (∀ h' tk, Fr B Lg h' m → News B Lg h' ((Cg, cellObj co (some (.ref U))) :: (U, listOf (vs ++ [rf t]).toArray (n + 1)) :: rest) → Q .next { s with heap := h', toks := tk }) →
   wpAny (model PySem.Challenge.rw_ew0014_01.row.prog w) (AA (envG w.params Lg Cg :: outer) none)
     (execs (oIf w.params).1.2.2.2.2.1 (envG w.params Lg Cg)) Q (fun _ _ => False) s := by
  k_fill
  intro w co A₀ base B outer Lg Cg U m mg mb p loose mean s rest vs t n Q X T Bl F N hm hz hCU hU hQ
  dsimp only [oIf, outS, envG, envO]
  repeat' (first | (k_unfold; (try dsimp only)) | (k_end; wrow_close) | walk1 | (dsimp only; walk1) | (leave1; walk_say "STEP leave1"; try dsimp only))
  exact hQ _ _ (by k_asm) (by k_asm)
end Mine
end
section -- O3
open PySem PySem.W PyProof.Rows
set_option Elab.async false
set_option maxRecDepth 100000
set_option maxHeartbeats 12000000
namespace Mine
open PySem.W.X (SegX)
def oIt (P : Params) : { x : PySem.Expr // (match (oIf P).1.2.1 with | .For _ it _ _ _ :: _ => it | _ => .Constant .none 0 ⟨0, 0, 0, 0⟩) = x } := by
  refine ⟨?b, ?h⟩
  case h =>
    conv => lhs; whnf
def oIt2 (P : Params) : { x : PySem.Expr // (match (oIf P).1.2.2.2.2.2 with | .For _ it _ _ _ :: _ => it | _ => .Constant .none 0 ⟨0, 0, 0, 0⟩) = x } := by
  refine ⟨?b, ?h⟩
  case h =>
    conv => lhs; whnf
local macro_rules | `(tactic| walk_at "eval Name") => `(tactic| (refine wpAny_Name (wpAny_loadName_local (by rfl) (by rfl) (Fr.ns (by k_asm)) (by assumption) ?_) (by decide)))
local macro_rules | `(tactic| walk_at "call ref") => `(tactic| assumption)
theorem o_z : ∀ {w : World} {A₀ : Around} {base B : Heap} {outer : List Env} {Lg Cg f c' : Addr} {q : Str} {pm ct : Value}
   {m mg mb : Str → Option Value} {p : Program} {loose : List Str} {mean : ExcName → Option Value} {s : Shared} {Q : Value → Shared → Prop},
   (Mine.hd.heap_39 w.params).In B → Top p loose mean mg mb B → Below A₀ base outer B → Fr B Lg s.heap m → News B Lg s.heap [(f, fnB w.params q Cg c' pm ct)] → CodeHd B 209 205 → m (Str.ofString "build_token_with_symbol") = some (.ref f) →
   (wpAny (model PySem.Challenge.rw_ew0014_01.row.prog w) (AA (envG w.params Lg Cg :: outer) none) (call (.ref f) [] []) Q (fun _ _ => False) s) →
   wpAny (model PySem.Challenge.rw_ew0014_01.row.prog w) (AA (envG w.params Lg Cg :: outer) none)
     (eval (oIt w.params).1 (envG w.params Lg Cg)) Q (fun _ _ => False) s := by
  k_fill
  intro w A₀ base B outer Lg Cg f c' q pm ct m mg mb p loose mean s Q X T Bl F N C0 hm hQ
  dsimp only [oIt, outS, envG, envO] at hQ ⊢
  repeat' (first | (k_unfold; (try dsimp only)) | (k_end; wrow_close) | walk1 | (dsimp only; walk1) | (leave1; walk_say "STEP leave1"; try dsimp only))
theorem o_z2 : ∀ {w : World} {A₀ : Around} {base B : Heap} {outer : List Env} {Lg Cg f c' : Addr} {q : Str} {pm ct : Value}
   {m mg mb : Str → Option Value} {p : Program} {loose : List Str} {mean : ExcName → Option Value} {s : Shared} {Q : Value → Shared → Prop},
   (Mine.hd.heap_39 w.params).In B → Top p loose mean mg mb B → Below A₀ base outer B → Fr B Lg s.heap m → News B Lg s.heap [(f, fnB w.params q Cg c' pm ct)] → CodeHd B 209 205 → m (Str.ofString "build_token_with_symbol") = some (.ref f) →
   (wpAny (model PySem.Challenge.rw_ew0014_01.row.prog w) (AA (envG w.params Lg Cg :: outer) none) (call (.ref f) [] []) Q (fun _ _ => False) s) →
   wpAny (model PySem.Challenge.rw_ew0014_01.row.prog w) (AA (envG w.params Lg Cg :: outer) none)
     (eval (oIt2 w.params).1 (envG w.params Lg Cg)) Q (fun _ _ => False) s := by
  k_fill
  intro w A₀ base B outer Lg Cg f c' q pm ct m mg mb p loose mean s Q X T Bl F N C0 hm hQ
  dsimp only [oIt2, outS, envG, envO] at hQ ⊢
  repeat' (first | (k_unfold; (try dsimp only)) | (k_end; wrow_close) | walk1 | (dsimp only; walk1) | (leave1; walk_say "STEP leave1"; try dsimp only))
end Mine
end
section -- O4
open PySem PySem.W PyProof.Rows
set_option Elab.async false
set_option maxRecDepth 100000
set_option maxHeartbeats 12000000
namespace Mine
open PySem.W.X (SegX)
def Fin5 (s : Shared) : Prop := ∃ ps, s.heap.get? 205 = some (tabObj ps)
abbrev AgO (outer : List Env) : Around := ⟨none, 360, some outer, none, 1500⟩
/-- what does not change while the outer generator lives -/
structure Cx where
  base : Heap
  B : Heap
  Bo : Heap
  A₀ : Around
  outer : List Env
  (Lg Cg U P' f c' tl2 J S I : Addr)
  (co oc oJ : Obj)
  c1 : Nat
  vs : List Value
  q : Str
  t : Tok
  vsc : Array Value
  ps5 : Array Value
  (pm ct : Value)
  g : Nat
  (mg mb : Str → Option Value)
  p : Program
  loose : List Str
  mean : ExcName → Option Value
def Cx.fix (w : World) (x : Cx) : List (Addr × Obj) := [(x.f, fnB w.params x.q x.Cg x.c' x.pm x.ct), (x.c', x.oc), (x.tl2, listOf x.vs.toArray x.c1), (x.J, x.oJ), (205, tabObj x.ps5)]
def Cx.fr (x : Cx) (a : Addr) : Prop := x.B.get? a = none ∧ a ≠ x.Lg ∧ a ≠ x.S ∧ a ≠ x.Cg ∧ a ≠ x.U ∧ a ≠ x.P'
/-- a fact that stays: its place is new, and it is no list iterator -/
def Cx.ff (x : Cx) (q : Addr × Obj) : Prop := x.fr q.1 ∧ q.2.cls ≠ .type "list_iterator"
abbrev Cx.env (w : World) (x : Cx) : Env := envG w.params x.Lg x.Cg
structure Cx.Ok (w : World) (x : Cx) : Prop where
  X : (Mine.hd.heap_39 w.params).In x.B
  T : Top x.p x.loose x.mean x.mg x.mb x.B
  Bl : Below x.A₀ x.base x.outer x.B
  C0 : CodeHd x.B 209 205
  hd : x.oc.data = .fields x.vsc
  hv : x.vsc[1]? = some (.str x.q x.t)
  nd : List.Nodup (([x.Cg, x.U, x.P', x.S] : List Nat) ++ ([x.f, x.c', x.tl2, x.J, 205, x.I] : List Nat))
  hBo : ∀ h : Heap, (∀ b o, x.B.get? b = some o → h.get? b = some o) → h.get? x.J = some x.oJ → ∀ b o, x.Bo.get? b = some o → h.get? b = some o
  offBo : x.Bo.get? x.S = none
  hI : x.I ≠ x.Lg ∧ x.B.get? x.I = none
structure OInv (w : World) (x : Cx) (run : List Tk) (Fx : List (Addr × Obj)) (h : Heap) (m : Str → Option Value) : Prop where
  F : Fr x.B x.Lg h m
  hm : m (Str.ofString "build_token_with_symbol") = some (.ref x.f)
  N : ∃ n op ps, News x.B x.Lg h ((x.Cg, cellObj x.co (some (.ref x.U))) :: (x.U, listOf (run.map rf).toArray n) :: (x.P', op) :: x.fix w) ∧ CodeF x.oc op x.c' x.P' ps
  S : ∃ oS, News x.B x.Lg h [(x.S, oS)]
  Fx : ∀ p ∈ Fx, h.get? p.1 = some p.2 ∧ x.ff p
/-- the outputs of one run of unmatched tokens -/
inductive RunIs : List Tk → List OutS → Prop
  | nil : RunIs [] []
  | mk (ws0 tr : List Tk) (fst x : Tk) : Word x → (ws0 ++ [x]).head? = some fst → (tr = [] ∨ ∃ b, tr = [b] ∧ Blank b) → (∀ t ∈ (ws0 ++ [x]) ++ tr, Word t ∨ Blank t) → ws0.length ≤ 700 → KeyOk (textOf (ws0 ++ [x])) →
      RunIs ((ws0 ++ [x]) ++ tr) (.new fst.st x.en (textOf (ws0 ++ [x])) :: tr.map .old)
theorem Kp.setGen {g gj : Nat} {cm : List Addr} {s₀ s : Shared} {gs : GenState} (k : Kp g cm s₀ s) (h : g < gj) (hb : gs.bare = true) : Kp g cm s₀ (s.setGen gj gs) :=
  ⟨k.os, k.drawn, k.cms, fun j hj => by
    rw [← k.gens j hj]
    show (s.gens.setIfInBounds gj gs)[j]? = s.gens[j]?
    have : gj ≠ j := Nat.ne_of_gt (Nat.lt_of_le_of_lt hj h)
    simp [this], by
    show s₀.gens.size ≤ (s.gens.setIfInBounds gj gs).size
    rw [Array.size_setIfInBounds]; exact k.gsize, fun b => bare_set (k.bare b) hb⟩
theorem Kp.to {g gj : Nat} {cm cm' : List Addr} {s₀ s₁ s : Shared} (k : Kp g cm s₀ s₁) (h : Kp gj cm' (s₁.setGen gj .running) s) (hg : g < gj) (hc : ∀ b ∈ cm, b ∈ cm') : Kp g cm s₀ s :=
  (k.setGen hg rfl).trans ⟨h.os, h.drawn, fun b hb => h.cms b (hc b hb), fun j hj => h.gens j (Nat.le_of_lt (Nat.lt_of_le_of_lt hj hg)), h.gsize, h.bare⟩
section
variable {w : World} {x : Cx} {Bin : Heap} {gj : Nat} {Jn : Addr} {c : Code} {fs : List Frame} {K : Flow → Sem PySem.Fin} {H : Value → Sem PySem.Fin} {os : List OutS} {Fx : List (Addr × Obj)} {y1 y2 px : Pos}
abbrev symBody (y1 y2 : Pos) (y3 : Pos) : List Stmt := [.Expr (.Yield (some (.Name (Str.ofString "symtok") y1)) y2) y3]
theorem loopB (ok : x.Ok w) (y3 : Pos) (p : Pos) (hg : x.g < gj) (kB : ∀ b o, x.B.get? b = some o → Bin.get? b = some o) (hfix : ∀ q ∈ x.fix w, Bin.get? q.1 = some q.2 ∧ q.1 ≠ x.Lg ∧ x.B.get? q.1 = none) (hFx : ∀ q ∈ Fx, Bin.get? q.1 = some q.2 ∧ x.ff q)
    (hS : x.B.get? x.S = none ∧ x.S ≠ x.Lg) (hcu : ∀ a ∈ [x.Cg, x.U, x.P'], a ≠ x.Lg ∧ x.B.get? a = none) (hnl : Bin.NoLimit) {oJn : Obj} {gn gq : Str} {gt1 gt2 : Tok} (hoJ : oJn = genObj gj gn gq gt1 gt2)
    (hsz : x.B.objs.size ≤ x.Lg)
    (hA : LessA ((AgO x.outer).over (.forLoop (.Name (Str.ofString "symtok") px) (.ref Jn) (symBody y1 y2 y3) [] (x.env w)) (.ret (forBack (x.env w) K H id id) none false [] c p [] :: fs)).in1 (AgI (x.env w :: x.outer)))
    (hh : ((AgO x.outer).over (.forLoop (.Name (Str.ofString "symtok") px) (.ref Jn) (symBody y1 y2 y3) [] (x.env w)) (.ret (forBack (x.env w) K H id id) none false [] c p [] :: fs)).handled = none)
    (hroom : ((AgO x.outer).over (.forLoop (.Name (Str.ofString "symtok") px) (.ref Jn) (symBody y1 y2 y3) [] (x.env w)) (.ret (forBack (x.env w) K H id id) none false [] c p [] :: fs)).depth < recursionLimit)
    (hfs : splitAtGen fs = none) (hfg : fs.any Frame.guarded = false) (m : Str → Option Value)
    (cont : ∀ s' Fi m' s₀', OInv w x [] (Fi ++ Fx) s'.heap m' → (∀ o, Bin.get? x.I = some o → s'.heap.get? x.I = some o) → Kp x.g [x.S] s₀' s' → AllBare s'.gens → x.g < s'.gens.size → (∀ z, z ≠ Str.ofString "symtok" → m' z = m z) →
      SegX (model PySem.Challenge.rw_ew0014_01.row.prog w) (AgO x.outer) c (K .next) fs s' (PP (model PySem.Challenge.rw_ew0014_01.row.prog w) (AgO x.outer) x.g [x.S] x.Bo (OutP w.params x.fr) Fin5 os (Fi ++ Fx) s₀')) (hmb : m (Str.ofString "build_token_with_symbol") = some (.ref x.f)) :
    ∀ (oi : List OutS) (Fi : List (Addr × Obj)) (gs : GenState) (s s₀ : Shared) (m' : Str → Option Value), s.gens[gj]? = some gs →
      GS (model PySem.Challenge.rw_ew0014_01.row.prog w) (AgI (x.env w :: x.outer)) gj [x.S, x.Lg] Bin (OutP w.params x.fr) (FinI x.co x.Cg x.U x.P' x.c' x.oc) oi Fi gs (s.setGen gj .running) →
      Holds [x.S, x.Lg] Bin Fi s.heap → (Jn, oJn) ∈ Fi → (∀ q ∈ Fi, x.ff q) → s.heap.Ns x.Lg m' → (∀ z, z ≠ Str.ofString "symtok" → m' z = m z) → (∃ oS, s.heap.get? x.S = some oS) → Kp x.g [x.S] s₀ s → AllBare s.gens → x.g < s.gens.size →
      SegX (model PySem.Challenge.rw_ew0014_01.row.prog w) (AgO x.outer) (.forLoop (.Name (Str.ofString "symtok") px) (.ref Jn) (symBody y1 y2 y3) [] (x.env w)) ((model PySem.Challenge.rw_ew0014_01.row.prog w).den (.forLoop (.Name (Str.ofString "symtok") px) (.ref Jn) (symBody y1 y2 y3) [] (x.env w)))
        (.ret (forBack (x.env w) K H id id) none false [] c p [] :: fs) s (PP (model PySem.Challenge.rw_ew0014_01.row.prog w) (AgO x.outer) x.g [x.S] x.Bo (OutP w.params x.fr) Fin5 (oi ++ os) (Fi ++ Fx) s₀) := by
  have hLgI : x.Lg ≠ x.S := Ne.symm hS.2
  intro oi
  induction oi with
  | nil =>
    intro Fi gs s s₀ m' hgs hgo hH hJm hfi hns hmz hSl hk hb hgl
    refine sx_turn (next_play hh (hnl.keeps hH.base) hroom hA ⟨oJn, _, _, hH.fx _ hJm, by rw [hoJ], by rw [hoJ], by rw [hoJ]⟩ hgs hgo ?_)
    intro s₁ h' hk₁ hH₁ hfin hx
    show SegX _ _ c (K .next) fs _ _
    have hns₁ : s₁.heap.Ns x.Lg m' := hns.at' fun o e => by rw [hk₁.cms x.Lg (by simp)]; exact e
    obtain ⟨op, ps, n, f1, f2, f3, f4⟩ := hfin
    have kp : Kp x.g [x.S] s₀ { s₁.setGen gj .finished with heap := h' } := by
      have z := ((hk.to hk₁ hg (fun b hb => by simp at hb; simp [hb])).setGen hg (gs := .finished) rfl)
      refine ⟨z.os, z.drawn, fun b hb' => ?_, z.gens, z.gsize, z.bare⟩
      obtain ⟨oS, hoS⟩ := hSl
      have hbS : b = x.S := List.mem_singleton.mp hb'
      subst hbS
      have e1 : s₁.heap.get? x.S = some oS := (hk₁.cms x.S (by simp)).trans hoS
      rw [← z.cms x.S hb']
      exact (hx _ _ e1).trans e1.symm
    refine cont _ Fi m' s₀ ⟨⟨hns₁.at' fun o e => hx _ o e, fun b o e => hx b o (hH₁.base b o (kB b o e)), hsz⟩, (hmz _ (by decide)).trans hmb, ⟨n, op, ps, ?_, f4⟩, ?_, ?_⟩ (fun o e => hx _ _ (hH₁.base _ _ e)) kp ?_ ?_ hmz
    · intro q hq
      rcases List.mem_cons.mp hq with rfl | hq
      · exact ⟨hx _ _ f1, hcu _ (by simp)⟩
      rcases List.mem_cons.mp hq with rfl | hq
      · exact ⟨hx _ _ f2, hcu _ (by simp)⟩
      rcases List.mem_cons.mp hq with rfl | hq
      · exact ⟨hx _ _ f3, hcu _ (by simp)⟩
      · exact ⟨hx _ _ (hH₁.base _ _ (hfix q hq).1), (hfix q hq).2⟩
    · obtain ⟨oS, hoS⟩ := hSl
      refine ⟨oS, fun q hq => ?_⟩
      rw [List.mem_singleton.mp hq]
      exact ⟨hx _ _ ((hk₁.cms x.S (by simp)).trans hoS), hS.2, hS.1⟩
    · intro q hq
      rcases List.mem_append.mp hq with hq | hq
      · exact ⟨hx _ _ (hH₁.fx q hq), hfi q hq⟩
      · exact ⟨hx _ _ (hH₁.base _ _ (hFx q hq).1), (hFx q hq).2⟩
    · exact bare_set (hk₁.bare (bare_set hb rfl)) rfl
    · show x.g < (s₁.gens.setIfInBounds gj .finished).size
      rw [Array.size_setIfInBounds]
      have z := hk₁.gsize
      have z' : (s.setGen gj .running).gens.size = s.gens.size := Array.size_setIfInBounds
      omega
  | cons o oi ih =>
    intro Fi gs s s₀ m' hgs hgo hH hJm hfi hns hmz hSl hk hb hgl
    refine sx_turn (next_play hh (hnl.keeps hH.base) hroom hA ⟨oJn, _, _, hH.fx _ hJm, by rw [hoJ], by rw [hoJ], by rw [hoJ]⟩ hgs hgo ?_)
    intro v s₁ new gs' hk₁ hH₁ hO hbg hG
    obtain ⟨oS, hoS⟩ := hSl
    have hS₁ : s₁.heap.get? x.S = some oS := (hk₁.cms x.S (by simp)).trans hoS
    have hns₁ : s₁.heap.Ns x.Lg m' := hns.at' fun o e => by rw [hk₁.cms x.Lg (by simp)]; exact e
    refine wpAny_assign_Name (wpAny_storeName_local (s := s₁.setGen gj gs') rfl hns₁ (fun h₂ hn₂ hs₂ => ?_) rfl)
    have k2 : ∀ b o, b ≠ x.Lg → s₁.heap.get? b = some o → h₂.get? b = some o := fun b o hb' e => hs₂.extBut b o hb' e
    have hgsz : gj < s₁.gens.size := by
      have z := hk₁.gsize
      have z' : (s.setGen gj .running).gens.size = s.gens.size := Array.size_setIfInBounds
      have z2 : gj < s.gens.size := by
        cases h : s.gens[gj]? with
        | none => rw [h] at hgs; cases hgs
        | some _ => exact (Array.getElem?_eq_some_iff.mp h).1
      omega
    have kp0 := (hk.to hk₁ hg (fun b hb => by simp at hb; simp [hb])).setGen hg (gs := gs') hbg
    have hfrn : ∀ q ∈ new, x.ff q := by
      cases o with
      | old t => rw [hO.2]; exact fun q hq => nomatch hq
      | new st en txt =>
        obtain ⟨_, _, _, _, _, _, _, _, _, _, _, _, _, _, _, _, _, hnw, hq⟩ := hO
        refine fun q hm => ⟨hq q hm, ?_⟩
        rw [hnw] at hm
        simp only [List.mem_cons, List.not_mem_nil, or_false] at hm
        rcases hm with rfl | rfl | rfl | rfl
        · exact fun e => by cases e
        · exact fun e => absurd (Value.type.inj e) (by decide)
        · exact fun e => by cases e
        · exact fun e => absurd (Value.type.inj e) (by decide)
    refine sx_cons (sx_Yield (by show (splitAtGen fs).map _ = none; rw [hfs]; rfl) rfl (by rw [List.any_cons, hfg]; rfl) (wpAny_Name (wpAny_loadName_local rfl rfl hn₂ (v := v) (if_pos rfl) fun k' l' p' hres => ?_) (by decide)))
    have hb2 : ∀ b o, b ∉ [x.S, x.Lg] → s₁.heap.get? b = some o → h₂.get? b = some o := fun b o hb' e => k2 b o (fun q => hb' (by simp [q])) e
    have hH2 : Holds [x.S, x.Lg] Bin (new ++ Fi) h₂ := hH₁.ext hb2
    have hS2 : h₂.get? x.S = some oS := k2 _ _ hS.2 hS₁
    have hB2 : ∀ b o, x.B.get? b = some o → h₂.get? b = some o := fun b o e => hH2.base b o (kB b o e)
    have hJ2 : h₂.get? x.J = some x.oJ := hH2.base _ _ (hfix (x.J, x.oJ) (by simp [Cx.fix])).1
    have kp1 : Kp x.g [x.S] s₀ { s₁.setGen gj gs' with heap := h₂, toks := (s₁.setGen gj gs').toks + 1 } := by
      refine ⟨kp0.os, kp0.drawn, fun b hb' => ?_, kp0.gens, kp0.gsize, kp0.bare⟩
      have hbS : b = x.S := List.mem_singleton.mp hb'
      subst hbS
      rw [← kp0.cms x.S hb']
      exact hS2.trans hS₁.symm
    refine ⟨v, l', k', _, p', _, new, rfl, kp1, ⟨ok.hBo h₂ hB2 hJ2, fun q hq => ?_, fun b hb' => by rw [List.mem_singleton.mp hb']; exact ok.offBo, fun q hq => ?_⟩, hO, fun s'' hx => hres s'' _ ?_⟩
    · rcases List.mem_append.mp hq with hq | hq
      · exact hH2.fx q (List.mem_append_left _ hq)
      · rcases List.mem_append.mp hq with hq | hq
        · exact hH2.fx q (List.mem_append_right _ hq)
        · exact hH2.base _ _ (hFx q hq).1
    · rcases List.mem_append.mp hq with hq | hq
      · exact fun hm => hH2.offF q (List.mem_append_left _ hq) (by rw [List.mem_singleton.mp hm]; simp)
      · rcases List.mem_append.mp hq with hq | hq
        · exact fun hm => hH2.offF q (List.mem_append_right _ hq) (by rw [List.mem_singleton.mp hm]; simp)
        · exact fun hm => (hFx q hq).2.1.2.2.1 (List.mem_singleton.mp hm)
    · have hgq : s''.gens[gj]? = some gs' := by
        rw [hx.gens gj hg]
        show (s₁.gens.setIfInBounds gj gs')[gj]? = some gs'
        simp [hgsz]
      have hh2 : ∀ b o, b ∉ [x.S, x.Lg] → s₁.heap.get? b = some o → s''.heap.get? b = some o := fun b o hb' e => hx.heap b o (fun q => hb' (by rw [List.mem_singleton.mp q]; simp)) (hb2 b o hb' e)
      have hbare1 : AllBare s₁.gens := hk₁.bare (bare_set hb rfl)
      have hz1 : (s₁.gens.setIfInBounds gj gs').size = s₁.gens.size := Array.size_setIfInBounds
      have hz2 : s''.gens.size = s₁.gens.size := hx.gsize.trans hz1
      have hns'' : s''.heap.Ns x.Lg (fun y => if y = Str.ofString "symtok" then some v else m' y) := hn₂.at' fun o e => hx.heap _ o (fun q => hLgI (List.mem_singleton.mp q)) e
      have go := hG (s''.setGen gj .running) ⟨hh2, fun k hk' => ?_, ?_, fun hb' => bare_set (hx.bare (bare_set hb' hbg)) rfl, fun b hb' => ?_, hx.os, hx.drawn⟩
      · refine sx_againM rfl ?_
        rw [← List.append_assoc]
        refine ih (new ++ Fi) gs' s'' s'' _ hgq go (hH₁.ext hh2) (List.mem_append_right _ hJm) (fun q hq => ?_) hns'' (fun z hz => ?_) (hx.live x.S (by simp)) (Kp.refl _ _ _) (hx.bare (bare_set hbare1 hbg)) ?_
        · rcases List.mem_append.mp hq with hq | hq
          · exact hfrn q hq
          · exact hfi q hq
        · rw [if_neg hz]; exact hmz z hz
        · have z := hk₁.gsize
          have z' : (s.setGen gj .running).gens.size = s.gens.size := Array.size_setIfInBounds
          omega
      · show (s''.gens.setIfInBounds gj .running)[k]? = s₁.gens[k]?
        have hne : gj ≠ k := Nat.ne_of_lt hk'
        have e1 : (s''.gens.setIfInBounds gj .running)[k]? = s''.gens[k]? := by simp [hne]
        rw [e1, hx.gens k (Nat.lt_trans hg hk')]
        show (s₁.gens.setIfInBounds gj gs')[k]? = s₁.gens[k]?
        simp [hne]
      · show (s''.gens.setIfInBounds gj .running).size = s₁.gens.size
        rw [Array.size_setIfInBounds]; exact hz2
      · rcases List.mem_cons.mp hb' with rfl | hb'
        · exact hx.live x.S (by simp)
        · rw [List.mem_singleton.mp hb']
          obtain ⟨oL, _, _, hoL, _⟩ := hns''
          exact ⟨oL, hoL⟩
end
theorem PP.less {O : Type} {M : Model} {Ag : Around} {g : Nat} {cm : List Addr} {B : Heap} {Out : O → Value → List (Addr × Obj) → Prop} {Fin : Shared → Prop} :
    ∀ {os : List O} {Fx Fy : List (Addr × Obj)} {s₀ : Shared} {e : End} {s' : Shared}, (∀ p ∈ Fx, p ∈ Fy) → PP M Ag g cm B Out Fin os Fy s₀ e s' → PP M Ag g cm B Out Fin os Fx s₀ e s'
  | [], _, _, _, _, _, h, ⟨a, b, c, d⟩ => ⟨a, b, ⟨c.base, fun p hp => c.fx p (h p hp), c.offB, fun p hp => c.offF p (h p hp)⟩, d⟩
  | _ :: os, Fx, Fy, _, _, _, h, ⟨v, l, k, c, p, fs, new, e, b, hH, o, r⟩ =>
    have h2 : ∀ p ∈ new ++ Fx, p ∈ new ++ Fy := fun p hp => (List.mem_append.mp hp).elim (fun z => List.mem_append_left _ z) fun z => List.mem_append_right _ (h p z)
    ⟨v, l, k, c, p, fs, new, e, b, ⟨hH.base, fun p hp => hH.fx p (h2 p hp), hH.offB, fun p hp => hH.offF p (h2 p hp)⟩, o, fun s'' hx => PySem.W.X.SegX.mono (r s'' hx) fun _ _ z => PP.less h2 z⟩
end Mine
end
section -- O5
open PySem PySem.W PyProof.Rows PySem.Calls
set_option Elab.async false
set_option maxRecDepth 100000
set_option maxHeartbeats 12000000
namespace Mine
open PySem.W.X (SegX)
theorem inS_cell (P : Params) : ∀ x ∈ (inS P).1.names, x.2 ≠ .cell := by
  dsimp only [inS]; decide
theorem bind0 {s : Shared} {q : Str} {body : List Stmt} {scope : Scope} {cl : List (Str × Addr)} {pm cd ct : Value} : BindsTo s (fnX (Str.ofString "build_token_with_symbol") q noArgs body scope cl .none .none .none pm none cd ct) ⟨[], []⟩ [] := BindsTo.of_eq rfl
section
variable {w : World} {x : Cx} {c : Code} {fs : List Frame} {K : Flow → Sem PySem.Fin} {H : Value → Sem PySem.Fin} {os : List OutS} {Fx : List (Addr × Obj)} {y1 y2 y3 px pos : Pos} {it : PySem.Expr}
theorem forSym (ok : x.Ok w) {run : List Tk} {oi : List OutS} (hrun : RunIs run oi) (htk : ∀ t ∈ run, TkIn x.B t) {s s₀ : Shared} {m : Str → Option Value} (inv : OInv w x run Fx s.heap m) (hk : Kp x.g [x.S] s₀ s) (hb : AllBare s.gens) (hgl : x.g < s.gens.size)
    (hA1 : LessA ((AgO x.outer).over c fs) (AA (x.env w :: x.outer) none))
    (hA2 : ∀ Jn p, LessA ((AgO x.outer).over (.forLoop (.Name (Str.ofString "symtok") px) (.ref Jn) (symBody y1 y2 y3) [] (x.env w)) (.ret (forBack (x.env w) K H id id) none false [] c p [] :: fs)).in1 (AgI (x.env w :: x.outer)))
    (hh : ∀ Jn p, ((AgO x.outer).over (.forLoop (.Name (Str.ofString "symtok") px) (.ref Jn) (symBody y1 y2 y3) [] (x.env w)) (.ret (forBack (x.env w) K H id id) none false [] c p [] :: fs)).handled = none)
    (hroom : ∀ Jn p, ((AgO x.outer).over (.forLoop (.Name (Str.ofString "symtok") px) (.ref Jn) (symBody y1 y2 y3) [] (x.env w)) (.ret (forBack (x.env w) K H id id) none false [] c p [] :: fs)).depth < recursionLimit)
    (hit : ∀ {s : Shared} {m : Str → Option Value} {Q : Value → Shared → Prop}, Fr x.B x.Lg s.heap m → News x.B x.Lg s.heap [(x.f, fnB w.params x.q x.Cg x.c' x.pm x.ct)] → m (Str.ofString "build_token_with_symbol") = some (.ref x.f) →
      wpAny (model PySem.Challenge.rw_ew0014_01.row.prog w) (AA (x.env w :: x.outer) none) (call (.ref x.f) [] []) Q (fun _ _ => False) s → wpAny (model PySem.Challenge.rw_ew0014_01.row.prog w) (AA (x.env w :: x.outer) none) (eval it (x.env w)) Q (fun _ _ => False) s)
    (hs : ∀ z, foldedSetIterable it (x.env w) z = pure z) (hfs : splitAtGen fs = none) (hfg : fs.any Frame.guarded = false)
    (cont : ∀ s' Fi m' s₀', OInv w x [] (Fi ++ Fx) s'.heap m' → (∀ o, s.heap.get? x.I = some o → s'.heap.get? x.I = some o) → Kp x.g [x.S] s₀' s' → AllBare s'.gens → x.g < s'.gens.size → (∀ z, z ≠ Str.ofString "symtok" → m' z = m z) →
      SegX (model PySem.Challenge.rw_ew0014_01.row.prog w) (AgO x.outer) c (K .next) fs s' (PP (model PySem.Challenge.rw_ew0014_01.row.prog w) (AgO x.outer) x.g [x.S] x.Bo (OutP w.params x.fr) Fin5 os (Fi ++ Fx) s₀')) :
    SegX (model PySem.Challenge.rw_ew0014_01.row.prog w) (AgO x.outer) c ((exec (.For (.Name (Str.ofString "symtok") px) it (symBody y1 y2 y3) [] pos) (x.env w)).wrap K H id id) fs s
      (PP (model PySem.Challenge.rw_ew0014_01.row.prog w) (AgO x.outer) x.g [x.S] x.Bo (OutP w.params x.fr) Fin5 (oi ++ os) Fx s₀) := by
  obtain ⟨n, op, ps, N, hcf⟩ := inv.N
  obtain ⟨oS, NS⟩ := inv.S
  have hLs : x.Lg < s.heap.objs.size := inv.F.ns.lt
  have hnl : s.heap.NoLimit := ok.T.nolimit.keeps inv.F.keep
  have hf : (x.f, fnB w.params x.q x.Cg x.c' x.pm x.ct) ∈ (x.Cg, cellObj x.co (some (.ref x.U))) :: (x.U, listOf (run.map rf).toArray n) :: (x.P', op) :: x.fix w := by simp [Cx.fix]
  have hc' : (x.c', x.oc) ∈ (x.Cg, cellObj x.co (some (.ref x.U))) :: (x.U, listOf (run.map rf).toArray n) :: (x.P', op) :: x.fix w := by simp [Cx.fix]
  have Nf : News x.B x.Lg s.heap [(x.f, fnB w.params x.q x.Cg x.c' x.pm x.ct)] := fun q hq => by rw [List.mem_singleton.mp hq]; exact N _ hf
  have hcr : s.heap.CodeRec (.ref x.c') x.q := ⟨x.c', x.oc, x.vsc, x.t, rfl, (N _ hc').1, ok.hd, ok.hv⟩
  refine sx_For (wpLess hA1.hh hA1.hd hA1.hf hA1.hg hA1.hu (hit inv.F Nf inv.hm (wpAny_call (gen_plain hnl (N _ hf).1 rfl hcr (by show 400 < recursionLimit; decide) bind0 (fun y hy => nomatch hy) ?_ (inS_cell w.params) rfl rfl rfl)))) hs
  intro h₁ hns₁ hk₁ hlt₁
  have hL0 : ∀ {a : Addr} {o : Obj}, s.heap.get? a = some o → @LT.lt Nat _ a s.heap.objs.size := fun e => Heap.lt_size e
  have N3 : News x.B x.Lg s.heap [(x.Cg, cellObj x.co (some (.ref x.U))), (x.U, listOf (run.map rf).toArray n), (x.P', op)] := fun q hq => N q (List.mem_append_left (x.fix w) hq)
  have nC := N3 (x.Cg, cellObj x.co (some (.ref x.U))) (by simp)
  have nU := N3 (x.U, listOf (run.map rf).toArray n) (by simp)
  have nP := N3 (x.P', op) (by simp)
  have nS := NS (x.S, oS) (by simp)
  obtain ⟨nd1, nd2, nd3⟩ := List.nodup_append.mp ok.nd
  have hBL : x.B.get? x.Lg = none := Heap.get?_none_of_le inv.F.above
  have hBn : ∀ a ∈ [x.Cg, x.U, x.P', x.S, x.Lg], x.B.get? a = none := fun a ha => by
    simp only [List.mem_cons, List.not_mem_nil, or_false] at ha
    rcases ha with rfl | rfl | rfl | rfl | rfl
    · exact nC.2.2
    · exact nU.2.2
    · exact nP.2.2
    · exact nS.2.2
    · exact hBL
  have hnot : ∀ a ∈ ([x.f, x.c', x.tl2, x.J, 205, x.I] : List Nat), a ≠ x.Lg → a ∉ [x.Cg, x.U, x.P', x.S, x.Lg] := fun a ha hL hm => by
    have hm' : a ∈ ([x.Cg, x.U, x.P', x.S] : List Nat) ++ [x.Lg] := hm
    rcases List.mem_append.mp hm' with h | h
    · exact nd3 a h a ha rfl
    · exact hL (List.mem_singleton.mp h)
  obtain ⟨FG, BG, st, _⟩ := groundX (R := fun _ _ => True) (A := AA (x.env w :: x.outer) none) ok.Bl inv.F N3 rfl rfl rfl
  have BG' : Below (AA (x.env w :: x.outer) none) x.base (x.env w :: x.outer) (hideAll s.heap [x.Cg, x.U, x.P']) := BG
  have k1 : ∀ b o, s.heap.get? b = some o → b ∉ [x.Cg, x.U, x.P'] → (hideAll s.heap [x.Cg, x.U, x.P']).get? b = some o := fun b o e h => hideAll_get _ e h
  have kin : ∀ b o, s.heap.get? b = some o → b ∉ [x.Cg, x.U, x.P', x.S, x.Lg] → (hideAll s.heap [x.Cg, x.U, x.P', x.S, x.Lg]).get? b = some o := fun b o e h => hideAll_get _ e h
  have kB : ∀ b o, x.B.get? b = some o → (hideAll s.heap [x.Cg, x.U, x.P', x.S, x.Lg]).get? b = some o := fun b o e => kin b o (inv.F.keep b o e) fun hm => by rw [hBn b hm] at e; cases e
  have kBp : ∀ b o, (hideAll s.heap [x.Cg, x.U, x.P', x.S, x.Lg]).get? b = some o → (hideAll s.heap [x.Cg, x.U, x.P']).get? b = some o := fun b o e => k1 b o (of_hideAll _ e) fun hm => by
    have hm' : b ∈ [x.Cg, x.U, x.P', x.S, x.Lg] := List.mem_append_left [x.S, x.Lg] hm
    rw [hideAll_none _ hm'] at e; cases e
  have hS3 : x.S ∉ [x.Cg, x.U, x.P'] := fun hm => by
    have z : List.Nodup (([x.Cg, x.U, x.P'] : List Nat) ++ ([x.S] : List Nat)) := nd1
    exact (List.nodup_append.mp z).2.2 _ hm _ (List.mem_singleton.mpr rfl) rfl
  have hL3 : x.Lg ∉ [x.Cg, x.U, x.P'] := fun hm => by
    simp only [List.mem_cons, List.not_mem_nil, or_false] at hm
    rcases hm with h | h | h
    · exact nC.2.1 h.symm
    · exact nU.2.1 h.symm
    · exact nP.2.1 h.symm
  have hI3 : x.I ∉ [x.Cg, x.U, x.P'] := fun hm => hnot x.I (by simp) ok.hI.1 (List.mem_append_left [x.S, x.Lg] hm)
  obtain ⟨oL, esL, epL, hoL, hoLr⟩ := id inv.F.ns
  have frBig : ∀ a : Addr, @LE.le Nat _ s.heap.objs.size a → x.fr a := fun a ha => by
    have hne : ∀ {b : Addr} {o : Obj}, s.heap.get? b = some o → a ≠ b := fun {b o} e q => absurd (hL0 e) (by rw [← q]; exact Nat.not_lt.mpr ha)
    refine ⟨Heap.get?_none_of_le (Nat.le_trans inv.F.above (Nat.le_trans (Nat.le_of_lt hLs) ha)), hne hoL, hne nS.1, hne nC.1, hne nU.1, hne nP.1⟩
  have hup : ∀ b o, s.heap.get? b = some o → (h₁.push (genObj s.gens.size (Str.ofString "build_token_with_symbol") x.q (s.toks + ([] : List (Str × Value)).length) (s.toks + ([] : List (Str × Value)).length + 1))).get? b = some o := fun b o e => Heap.get?_push_of_some _ (hk₁ b o e)
  have hJg : (h₁.push (genObj s.gens.size (Str.ofString "build_token_with_symbol") x.q (s.toks + ([] : List (Str × Value)).length) (s.toks + ([] : List (Str × Value)).length + 1))).get? h₁.objs.size = some (genObj s.gens.size (Str.ofString "build_token_with_symbol") x.q (s.toks + ([] : List (Str × Value)).length) (s.toks + ([] : List (Str × Value)).length + 1)) := Heap.get?_push_size _ rfl
  have hns2 := hns₁.push (genObj s.gens.size (Str.ofString "build_token_with_symbol") x.q (s.toks + ([] : List (Str × Value)).length) (s.toks + ([] : List (Str × Value)).length + 1))
  dsimp only
  generalize hoJ : genObj s.gens.size (Str.ofString "build_token_with_symbol") x.q (s.toks + ([] : List (Str × Value)).length) (s.toks + ([] : List (Str × Value)).length + 1) = oJn at hup hJg hns2 ⊢
  generalize hh2 : h₁.push oJn = h₂ at hup hJg hns2 ⊢
  generalize hJe : h₁.objs.size = Jn at hlt₁ hJg ⊢
  have hJs : @LT.lt Nat _ s.heap.objs.size Jn := hlt₁
  have hJf : x.fr Jn := frBig Jn (Nat.le_of_lt hJs)
  have hneJ : ∀ {b : Addr} {o : Obj}, s.heap.get? b = some o → Jn ≠ b := fun {b o} e q => absurd (hL0 e) (by rw [← q]; exact Nat.not_lt.mpr (Nat.le_of_lt hJs))
  refine wpAny_pyIter_gen (g := s.gens.size) ⟨oJn, _, _, hJg, by rw [← hoJ], by rw [← hoJ], by rw [← hoJ]⟩ fun p => ?_
  have hcm1 : ∀ b ∈ [x.S, x.Lg], ∃ o, (hideAll s.heap [x.Cg, x.U, x.P']).get? b = some o := fun b hb' => by
    simp only [List.mem_cons, List.not_mem_nil, or_false] at hb'
    rcases hb' with rfl | rfl
    · exact ⟨_, k1 _ _ nS.1 hS3⟩
    · exact ⟨_, k1 _ _ hoL hL3⟩
  have offB : ∀ b ∈ [x.S, x.Lg], (hideAll s.heap [x.Cg, x.U, x.P', x.S, x.Lg]).get? b = none := fun b hb' => hideAll_none _ (List.mem_append_right [x.Cg, x.U, x.P'] hb')
  have F1 : Fr (hideAll s.heap [x.Cg, x.U, x.P']) s.heap.objs.size h₂ (fun y => (([] : List (Str × Value)).reverse.lookup y)) := ⟨hns2, fun b o e => hup b o (of_hideAll _ e), Nat.le_of_eq (hideAll_size _ _)⟩
  have N1 : News (hideAll s.heap [x.Cg, x.U, x.P']) s.heap.objs.size h₂ [(x.Cg, cellObj x.co (some (.ref x.U))), (x.U, listOf (run.map rf).toArray n), (x.P', op), (Jn, oJn)] := fun q hq => by
    simp only [List.mem_cons, List.not_mem_nil, or_false] at hq
    rcases hq with rfl | rfl | rfl | rfl
    · exact ⟨hup _ _ nC.1, Nat.ne_of_lt (hL0 nC.1), hideAll_none _ (by simp)⟩
    · exact ⟨hup _ _ nU.1, Nat.ne_of_lt (hL0 nU.1), hideAll_none _ (by simp)⟩
    · exact ⟨hup _ _ nP.1, Nat.ne_of_lt (hL0 nP.1), hideAll_none _ (by simp)⟩
    · exact ⟨hJg, Nat.ne_of_gt hJs, Heap.get?_none_of_le (by rw [hideAll_size]; exact Nat.le_of_lt hJs)⟩
  have hJc : Jn ∉ [x.S, x.Lg] := fun hm => by
    simp only [List.mem_cons, List.not_mem_nil, or_false] at hm
    rcases hm with h | h
    · exact hneJ nS.1 h
    · exact hneJ hoL h
  have hCU : @Ne Nat x.Cg x.U := by
    have z := nd1
    simp only [List.nodup_cons, List.mem_cons, not_or] at z
    exact z.1.1
  have hPU : @Ne Nat x.P' x.U := by
    have z := nd1
    simp only [List.nodup_cons, List.mem_cons, not_or] at z
    exact fun e => z.2.1.1 e.symm
  have hPC : @Ne Nat x.P' x.Cg := by
    have z := nd1
    simp only [List.nodup_cons, List.mem_cons, not_or] at z
    exact fun e => z.1.2.1 e.symm
  have hoff : ∀ b ∈ [x.Cg, x.U, x.P', s.heap.objs.size], b ∉ [x.S, x.Lg] := fun b hb' hm => by
    simp only [List.mem_cons, List.not_mem_nil, or_false] at hb' hm
    rcases hm with rfl | rfl
    · rcases hb' with h | h | h | h
      · exact hS3 (by rw [h]; simp)
      · exact hS3 (by rw [h]; simp)
      · exact hS3 (by rw [h]; simp)
      · exact absurd (hL0 nS.1) (by rw [h]; exact Nat.lt_irrefl _)
    · rcases hb' with h | h | h | h
      · exact nC.2.1 h.symm
      · exact nU.2.1 h.symm
      · exact nP.2.1 h.symm
      · exact absurd hLs (by rw [h]; exact Nat.lt_irrefl _)
  have hocB : (hideAll s.heap [x.Cg, x.U, x.P', x.S, x.Lg]).get? x.c' = some x.oc := kin _ _ (N _ hc').1 (hnot x.c' (by simp) (N _ hc').2.1)
  have hfrI : ∀ a : Addr, (hideAll s.heap [x.Cg, x.U, x.P']).get? a = none → @LT.lt Nat _ x.U a → @LT.lt Nat _ x.Cg a → @LT.lt Nat _ x.P' a → x.fr a := fun a ha h1 h2 h3 => by
    have hne : ∀ {b : Addr} {o : Obj}, s.heap.get? b = some o → b ∉ [x.Cg, x.U, x.P'] → a ≠ b := fun {b o} e hn q => by
      have z := k1 b o e hn
      rw [← q, ha] at z; cases z
    refine ⟨?_, hne hoL hL3, hne nS.1 hS3, Nat.ne_of_gt h2, Nat.ne_of_gt h1, Nat.ne_of_gt h3⟩
    cases hq : x.B.get? a with
    | none => rfl
    | some o => have z := kBp _ _ (kB _ _ hq); rw [ha] at z; cases z
  have hbare : AllBare ((s.gens.push (.fresh (.func (inB w.params).1 (envX x.q (inS w.params).1 s.heap.objs.size x.f (.ref x.c') [(Str.ofString "unmatched", x.Cg)])))).setIfInBounds s.gens.size .running) := bare_set (hb.push rfl) rfl
  have hGS : GS (model PySem.Challenge.rw_ew0014_01.row.prog w) (AgI (x.env w :: x.outer)) s.gens.size [x.S, x.Lg] (hideAll s.heap [x.Cg, x.U, x.P', x.S, x.Lg]) (OutP w.params x.fr) (FinI x.co x.Cg x.U x.P' x.c' x.oc) oi [(Jn, oJn)]
      (.fresh (.func (inB w.params).1 (envX x.q (inS w.params).1 s.heap.objs.size x.f (.ref x.c') [(Str.ofString "unmatched", x.Cg)])))
      (({ s with heap := h₂, gens := s.gens.push (.fresh (.func (inB w.params).1 (envX x.q (inS w.params).1 s.heap.objs.size x.f (.ref x.c') [(Str.ofString "unmatched", x.Cg)]))), toks := s.toks + ([] : List (Str × Value)).length + 1 + 1 } : Shared).setGen s.gens.size .running) := by
    cases hrun with
    | nil => exact inner_empty (s := ({ s with heap := h₂, gens := _, toks := _ } : Shared).setGen s.gens.size .running) (B := hideAll s.heap [x.Cg, x.U, x.P']) (ok.X.keeps kB) (ok.T.keeps kB) kBp offB BG' F1 N1 hcf hJc
    | mk ws0 tr fst xx hx hfst htr hall hlen hkey =>
      refine inner_first (s := ({ s with heap := h₂, gens := _, toks := _ } : Shared).setGen s.gens.size .running) (B := hideAll s.heap [x.Cg, x.U, x.P']) (ok.X.keeps kB) (ok.T.keeps kB) kBp (by rw [hideAll_size, hideAll_size]; exact Nat.le_refl _) offB hcm1 BG' F1 N1 hCU hPU hPC (hneJ nU.1) (hneJ nP.1) hJc
        (fun t ht => ⟨(htk t ht).keeps kB, hall t ht⟩) hx hfst htr hlen hocB hcf hbare ?_ hkey hfrI hoff
      show s.gens.size < ((s.gens.push _).setIfInBounds s.gens.size .running).size
      rw [Array.size_setIfInBounds, Array.size_push]; exact Nat.lt_succ_self _
  refine PySem.W.X.SegX.mono (loopB ok y3 p hgl kB (fun q hq => ?_) (fun q hq => ?_) ⟨nS.2.2, nS.2.1⟩ (fun a ha => ?_) (ok.T.nolimit.keeps kB) hoJ.symm inv.F.above (hA2 Jn p) (hh Jn p) (hroom Jn p) hfs hfg m
    (fun s' Fi m' s₀' i1 i2 i3 i4 i5 i6 => cont s' Fi m' s₀' i1 (fun o e => i2 o (kin _ _ e (hnot x.I (by simp) ok.hI.1))) i3 i4 i5 i6) inv.hm oi [(Jn, oJn)] _ _ s₀ m ?_ hGS ?_ (List.mem_singleton.mpr rfl) ?_ ?_ (fun _ _ => rfl) ⟨oS, hup _ _ nS.1⟩ ?_ (hb.push rfl) ?_) fun e s' z => PP.less (fun q hq => List.mem_append_right _ hq) z
  · have hq' : q ∈ (x.Cg, cellObj x.co (some (.ref x.U))) :: (x.U, listOf (run.map rf).toArray n) :: (x.P', op) :: x.fix w := .tail _ (.tail _ (.tail _ hq))
    refine ⟨kin _ _ (N q hq').1 (hnot q.1 ?_ (N q hq').2.1), (N q hq').2⟩
    simp only [Cx.fix, List.mem_cons, List.not_mem_nil, or_false] at hq
    rcases hq with rfl | rfl | rfl | rfl | rfl <;> simp
  · obtain ⟨h1, h2⟩ := inv.Fx q hq
    obtain ⟨a0, a1, a2, a3, a4, a5⟩ := h2.1
    refine ⟨kin _ _ h1 fun hm => ?_, h2⟩
    simp only [List.mem_cons, List.not_mem_nil, or_false] at hm
    rcases hm with h | h | h | h | h
    · exact a3 h
    · exact a4 h
    · exact a5 h
    · exact a2 h
    · exact a1 h
  · simp only [List.mem_cons, List.not_mem_nil, or_false] at ha
    rcases ha with rfl | rfl | rfl
    · exact nC.2
    · exact nU.2
    · exact nP.2
  · exact Array.getElem?_push_size ..
  · refine ⟨fun b o e => hup b o (of_hideAll _ e), fun q hq => by rw [List.mem_singleton.mp hq]; exact hJg, offB, fun q hq => by rw [List.mem_singleton.mp hq]; exact hJc⟩
  · intro q hq
    rw [List.mem_singleton.mp hq]; exact ⟨hJf, by rw [← hoJ]; exact fun e => absurd (Value.type.inj e) (by decide)⟩
  · exact inv.F.ns.at' fun o e => hup _ o e
  · refine ⟨hk.os, hk.drawn, fun b hb' => ?_, fun j hj => ?_, ?_, fun z => ?_⟩
    · rw [List.mem_singleton.mp hb', ← hk.cms x.S (by simp)]
      exact (hup _ _ nS.1).trans nS.1.symm
    · rw [← hk.gens j hj]
      show (s.gens.push _)[j]? = s.gens[j]?
      have : j < s.gens.size := Nat.lt_of_le_of_lt hj hgl
      rw [Array.getElem?_push]
      simp [Nat.ne_of_lt this]
    · exact Nat.le_trans hk.gsize (by show s.gens.size ≤ (s.gens.push _).size; rw [Array.size_push]; exact Nat.le_succ _)
    · exact (hk.bare z).push rfl
  · show x.g < (s.gens.push _).size
    rw [Array.size_push]; exact Nat.lt_succ_of_lt hgl
end
end Mine
end
section -- O6
open PySem PySem.W PyProof.Rows PySem.Calls
set_option Elab.async false
set_option maxRecDepth 100000
set_option maxHeartbeats 12000000
namespace Mine
open PySem.W.X (SegX)
/-- what the outer generator still gives: `run` waits, `ts` are to come -/
inductive OutsIs (B : Heap) : List Tk → List Tk → List OutS → Prop
  | nil {run oi} : RunIs run oi → OutsIs B run [] oi
  | val {run oi t ts os} : RunIs run oi → (∃ X dX es n, t.v = .ref X ∧ B.get? X = some (instObj 471 dX) ∧ B.get? dX = some (dictOf es n)) → OutsIs B [] ts os → OutsIs B run (t :: ts) (oi ++ .old t :: os)
  | blank {t ts os} : t.v = .none → Blank t → OutsIs B [] ts os → OutsIs B [] (t :: ts) (.old t :: os)
  | app {run t ts os} : t.v = .none → (run ≠ [] ∨ Word t) → OutsIs B (run ++ [t]) ts os → OutsIs B run (t :: ts) os
section
variable {w : World} {x : Cx}
def Cx.rest (w : World) (x : Cx) (op oS oI : Obj) (Fx : List (Addr × Obj)) : List (Addr × Obj) := (x.P', op) :: (x.fix w ++ ([(x.S, oS), (x.I, oI)] ++ Fx))
theorem OInv.all (ok : x.Ok w) {run : List Tk} {Fx : List (Addr × Obj)} {h : Heap} {m : Str → Option Value} {oI : Obj} (v : OInv w x run Fx h m) (hI : h.get? x.I = some oI) : ∃ n op ps oS, News x.B x.Lg h ((x.Cg, cellObj x.co (some (.ref x.U))) :: (x.U, listOf (run.map rf).toArray n) :: x.rest w op oS oI Fx) ∧ CodeF x.oc op x.c' x.P' ps := by
  obtain ⟨n, op, ps, N, hcf⟩ := v.N
  obtain ⟨oS, NS⟩ := v.S
  refine ⟨n, op, ps, oS, fun q hq => ?_, hcf⟩
  have hq' : q ∈ ((x.Cg, cellObj x.co (some (.ref x.U))) :: (x.U, listOf (run.map rf).toArray n) :: (x.P', op) :: x.fix w) ++ ([(x.S, oS), (x.I, oI)] ++ Fx) := hq
  rcases List.mem_append.mp hq' with hq' | hq'
  · exact N q hq'
  rcases List.mem_append.mp hq' with hq' | hq'
  · rcases List.mem_cons.mp hq' with rfl | hq'
    · exact NS _ (.head _)
    · rw [List.mem_singleton.mp hq']; exact ⟨hI, ok.hI⟩
  · exact ⟨(v.Fx q hq').1, (v.Fx q hq').2.1.2.1, (v.Fx q hq').2.1.1⟩
theorem OInv.back {run : List Tk} {Fx : List (Addr × Obj)} {h : Heap} {m : Str → Option Value} {n : Nat} {op oS oI : Obj} {ps : Array Value} (F : Fr x.B x.Lg h m) (hm : m (Str.ofString "build_token_with_symbol") = some (.ref x.f))
    (N : News x.B x.Lg h ((x.Cg, cellObj x.co (some (.ref x.U))) :: (x.U, listOf (run.map rf).toArray n) :: x.rest w op oS oI Fx)) (hcf : CodeF x.oc op x.c' x.P' ps) (hfr : ∀ q ∈ Fx, x.ff q) : OInv w x run Fx h m ∧ h.get? x.I = some oI ∧ h.get? x.S = some oS := by
  have N' : News x.B x.Lg h (((x.Cg, cellObj x.co (some (.ref x.U))) :: (x.U, listOf (run.map rf).toArray n) :: (x.P', op) :: x.fix w) ++ ([(x.S, oS), (x.I, oI)] ++ Fx)) := N
  have nS := N' (x.S, oS) (List.mem_append_right _ (List.mem_append_left _ (by simp)))
  have nI := N' (x.I, oI) (List.mem_append_right _ (List.mem_append_left _ (by simp)))
  exact ⟨⟨F, hm, ⟨n, op, ps, fun q hq => N' q (List.mem_append_left _ hq), hcf⟩, ⟨oS, fun q hq => by rw [List.mem_singleton.mp hq]; exact nS⟩, fun q hq => ⟨(N' q (List.mem_append_right _ (List.mem_append_right _ hq))).1, hfr q hq⟩⟩, nI.1, nS.1⟩
theorem Cx.Ok.ndI (ok : x.Ok w) : ∀ a ∈ ([x.Cg, x.U, x.P', x.S, x.f, x.c', x.tl2, x.J, 205] : List Nat), a ≠ x.I := fun a ha e => by
  have z : List.Nodup (([x.Cg, x.U, x.P', x.S, x.f, x.c', x.tl2, x.J, 205] : List Nat) ++ ([x.I] : List Nat)) := ok.nd
  exact (List.nodup_append.mp z).2.2 a ha x.I (List.mem_singleton.mpr rfl) e
theorem Cx.Ok.ndS (ok : x.Ok w) : ∀ a ∈ ([x.Cg, x.U, x.P', x.f, x.c', x.tl2, x.J, 205, x.I] : List Nat), a ≠ x.S := fun a ha e => by
  have z := List.nodup_append.mp ok.nd
  have ha' : a ∈ ([x.Cg, x.U, x.P'] : List Nat) ++ ([x.f, x.c', x.tl2, x.J, 205, x.I] : List Nat) := ha
  rcases List.mem_append.mp ha' with h | h
  · have z1 : List.Nodup (([x.Cg, x.U, x.P'] : List Nat) ++ ([x.S] : List Nat)) := z.1
    exact (List.nodup_append.mp z1).2.2 a h x.S (List.mem_singleton.mpr rfl) e
  · exact z.2.2 x.S (by simp) a h e.symm
/-- the frame and one more address (the iterator or the consumer's list) may have changed -/
theorem OInv.move {run : List Tk} {Fx : List (Addr × Obj)} {h h' : Heap} {m m' : Str → Option Value} (ok : x.Ok w) (v : OInv w x run Fx h m) (a : Addr) (ha : (a = x.I ∧ ∃ o, h.get? a = some o ∧ o.cls = .type "list_iterator") ∨ (a = x.S ∧ ∃ o, h'.get? a = some o)) (hk : ∀ b o, b ≠ a → b ≠ x.Lg → h.get? b = some o → h'.get? b = some o)
    (hns : h'.Ns x.Lg m') (hm : m' (Str.ofString "build_token_with_symbol") = some (.ref x.f)) : OInv w x run Fx h' m' := by
  obtain ⟨n, op, ps, N, hcf⟩ := v.N
  obtain ⟨oS, NS⟩ := v.S
  have nS := NS (x.S, oS) (.head _)
  have hB : x.B.get? a = none := by
    rcases ha with ⟨rfl, _⟩ | ⟨rfl, _⟩
    · exact ok.hI.2
    · exact nS.2.2
  refine ⟨⟨hns, fun b o e => hk b o (fun q => by rw [q, hB] at e; cases e) (fun q => absurd (Heap.lt_size e) (by rw [q]; exact Nat.not_lt.mpr v.F.above)) (v.F.keep b o e), v.F.above⟩, hm, ⟨n, op, ps, fun q hq => ?_, hcf⟩, ?_, fun q hq => ⟨hk _ _ ?_ (v.Fx q hq).2.1.2.1 (v.Fx q hq).1, (v.Fx q hq).2⟩⟩
  · refine ⟨hk _ _ ?_ (N q hq).2.1 (N q hq).1, (N q hq).2⟩
    have hq8 : q.1 ∈ ([x.Cg, x.U, x.P', x.f, x.c', x.tl2, x.J, 205] : List Nat) := by
      simp only [Cx.fix, List.mem_cons, List.not_mem_nil, or_false] at hq
      rcases hq with rfl | rfl | rfl | rfl | rfl | rfl | rfl | rfl <;> simp
    rcases ha with ⟨rfl, _⟩ | ⟨rfl, _⟩
    · refine ok.ndI q.1 ?_
      simp only [List.mem_cons, List.not_mem_nil, or_false] at hq8 ⊢
      rcases hq8 with h | h | h | h | h | h | h | h <;> simp [h]
    · refine ok.ndS q.1 ?_
      simp only [List.mem_cons, List.not_mem_nil, or_false] at hq8 ⊢
      rcases hq8 with h | h | h | h | h | h | h | h <;> simp [h]
  · rcases ha with ⟨rfl, _⟩ | ⟨rfl, o, ho⟩
    · exact ⟨oS, fun q hq => by rw [List.mem_singleton.mp hq]; exact ⟨hk _ _ (ok.ndI x.S (by simp)) nS.2.1 nS.1, nS.2⟩⟩
    · exact ⟨o, fun q hq => by rw [List.mem_singleton.mp hq]; exact ⟨ho, nS.2⟩⟩
  · rcases ha with ⟨rfl, o, ho, hc⟩ | ⟨rfl, _⟩
    · intro e
      have z := (v.Fx q hq).1
      rw [e, ho] at z
      exact (v.Fx q hq).2.2 (by rw [← Option.some.inj z]; exact hc)
    · exact (v.Fx q hq).2.1.2.2.1
theorem OInv.holds {run : List Tk} {Fx : List (Addr × Obj)} {h : Heap} {m : Str → Option Value} (ok : x.Ok w) (v : OInv w x run Fx h m) : Holds [x.S] x.Bo Fx h := by
  obtain ⟨n, op, ps, N, hcf⟩ := v.N
  refine ⟨ok.hBo h v.F.keep (N (x.J, x.oJ) (by simp [Cx.fix])).1, fun q hq => (v.Fx q hq).1, fun b hb => by rw [List.mem_singleton.mp hb]; exact ok.offBo, fun q hq hm => (v.Fx q hq).2.1.2.2.1 (List.mem_singleton.mp hm)⟩
theorem OInv.fin5 {run : List Tk} {Fx : List (Addr × Obj)} {s : Shared} {m : Str → Option Value} (v : OInv w x run Fx s.heap m) : Fin5 s := by
  obtain ⟨n, op, ps, N, hcf⟩ := v.N
  exact ⟨x.ps5, (N (205, tabObj x.ps5) (by simp [Cx.fix])).1⟩
end
end Mine
end
section -- O7
open PySem PySem.W PyProof.Rows PySem.Calls
set_option Elab.async false
set_option maxRecDepth 100000
set_option maxHeartbeats 12000000
namespace Mine
open PySem.W.X (SegX)
abbrev yTok (z1 z2 z3 : Pos) : Stmt := .Expr (.Yield (some (.Name (Str.ofString "tok") z1)) z2) z3
abbrev tokBody (P : Params) (sx sp y1 y2 y3 z1 z2 z3 u1 u2 u3 p1 p2 : Pos) : List Stmt :=
  [.If (oIf P).1.1 [.For (.Name (Str.ofString "symtok") sx) (oIt P).1 (symBody y1 y2 y3) [] sp, yTok z1 z2 z3] [.If (oIf P).1.2.2.1 [yTok u1 u2 u3] (oIf P).1.2.2.2.2.1 p2] p1]
abbrev lastRow (P : Params) (sx sp y1 y2 y3 : Pos) : List Stmt := [.For (.Name (Str.ofString "symtok") sx) (oIt2 P).1 (symBody y1 y2 y3) [] sp]
theorem outB_shape (P : Params) : ∃ px pt p0 sx sp y1 y2 y3 z1 z2 z3 u1 u2 u3 p1 p2 sx' sp' y1' y2' y3', (outB P).1 = (outB P).1.take 3 ++ (.For (.Name (Str.ofString "tok") px) (.Name (Str.ofString "tokens") pt) (tokBody P sx sp y1 y2 y3 z1 z2 z3 u1 u2 u3 p1 p2) [] p0 :: lastRow P sx' sp' y1' y2' y3') :=
  ⟨_, _, _, _, _, _, _, _, _, _, _, _, _, _, _, _, _, _, _, _, _, rfl⟩
section
variable {w : World} {x : Cx} {px sx sp y1 y2 y3 z1 z2 z3 u1 u2 u3 p1 p2 sx' sp' y1' y2' y3' : Pos} {H : Value → Sem PySem.Fin}
abbrev K2 (w : World) (x : Cx) (H : Value → Sem PySem.Fin) (sx' sp' y1' y2' y3' : Pos) (f : Flow) : Sem PySem.Fin := match f with
  | .next => (execs (lastRow w.params sx' sp' y1' y2' y3') (x.env w)).wrap endK H id id
  | f => endK f
theorem lessF {body : List Stmt} : LessA ((AgO x.outer).over (.func body (x.env w)) []) (AA (x.env w :: x.outer) none) :=
  ⟨rfl, Nat.le_of_ble_eq_true rfl, .inr rfl, .inl rfl, Nat.le_of_ble_eq_true rfl⟩
theorem lessL {t : PySem.Expr} {it : Value} {b1 b2 body : List Stmt} {k : Result → Sem PySem.Fin} {p : Pos} : LessA ((AgO x.outer).over (.forLoop t it b1 b2 (x.env w)) [.ret k none false [] (.func body (x.env w)) p []]) (AA (x.env w :: x.outer) none) :=
  ⟨rfl, Nat.le_of_ble_eq_true rfl, .inr rfl, .inl rfl, Nat.le_of_ble_eq_true rfl⟩
theorem lessI1 {t : PySem.Expr} {it : Value} {b1 b2 body : List Stmt} {k : Result → Sem PySem.Fin} {p : Pos} : LessA ((AgO x.outer).over (.forLoop t it b1 b2 (x.env w)) [.ret k none false [] (.func body (x.env w)) p []]).in1 (AgI (x.env w :: x.outer)) :=
  ⟨rfl, Nat.le_of_ble_eq_true rfl, .inr rfl, .inl rfl, Nat.le_of_ble_eq_true rfl⟩
theorem lessI2 {t t' : PySem.Expr} {it it' : Value} {b1 b2 b1' b2' body : List Stmt} {k k' : Result → Sem PySem.Fin} {p p' : Pos} : LessA ((AgO x.outer).over (.forLoop t it b1 b2 (x.env w)) [.ret k none false [] (.forLoop t' it' b1' b2' (x.env w)) p [], .ret k' none false [] (.func body (x.env w)) p' []]).in1 (AgI (x.env w :: x.outer)) :=
  ⟨rfl, Nat.le_of_ble_eq_true rfl, .inr rfl, .inl rfl, Nat.le_of_ble_eq_true rfl⟩
/-- the last row: what still waits is given out -/
theorem last_row (ok : x.Ok w) {run : List Tk} {oi : List OutS} {Fx : List (Addr × Obj)} (hrun : RunIs run oi) (htk : ∀ t ∈ run, TkIn x.B t) {s s₀ : Shared} {m : Str → Option Value} (inv : OInv w x run Fx s.heap m) (hk : Kp x.g [x.S] s₀ s) (hb : AllBare s.gens) (hgl : x.g < s.gens.size) :
    SegX (model PySem.Challenge.rw_ew0014_01.row.prog w) (AgO x.outer) (.func (outB w.params).1 (x.env w)) ((execs (lastRow w.params sx' sp' y1' y2' y3') (x.env w)).wrap endK H id id) [] s
      (PP (model PySem.Challenge.rw_ew0014_01.row.prog w) (AgO x.outer) x.g [x.S] x.Bo (OutP w.params x.fr) Fin5 oi Fx s₀) := by
  have z := forSym (os := []) (K := fun f => match f with | .next => (execs ([] : List Stmt) (x.env w)).wrap endK H id id | f => endK f) (H := H) (px := sx') (pos := sp') (y1 := y1') (y2 := y2') (y3 := y3') (c := .func (outB w.params).1 (x.env w)) (fs := []) (it := (oIt2 w.params).1) ok hrun htk inv hk hb hgl lessF (fun _ _ => lessI1) (fun _ _ => rfl) (fun _ _ => Nat.lt_of_lt_of_le (by exact Nat.le_of_ble_eq_true rfl : _ < 900) (by decide))
    (fun F N hm h => o_z2 ok.X ok.T ok.Bl F N ok.C0 hm h) (fun _ => rfl) rfl rfl (fun s' Fi m' s₀' i1 i2 i3 i4 i5 i6 => by
      show SegX _ _ _ (leafOf (.ok (.ret .none))) _ _ _
      exact sx_end ⟨rfl, i3, i1.holds ok, i1.fin5⟩)
  rw [List.append_nil] at z
  exact sx_cons z
end
end Mine
end
section -- O8
open PySem PySem.W PyProof.Rows PySem.Calls
set_option Elab.async false
set_option maxRecDepth 100000
set_option maxHeartbeats 12000000
namespace Mine
open PySem.W.X (SegX)
section
variable {w : World} {x : Cx} {px sx sp y1 y2 y3 z1 z2 z3 u1 u2 u3 p1 p2 sx' sp' y1' y2' y3' : Pos} {H : Value → Sem PySem.Fin}
theorem outer_loop (ok : x.Ok w) (p : Pos) : ∀ {run ts : List Tk} {os : List OutS}, OutsIs x.B run ts os → ∀ (i : Nat) (s s₀ : Shared) (Fx : List (Addr × Obj)) (m : Str → Option Value),
    i ≤ x.vs.length → ts.map rf = x.vs.drop i → OInv w x run Fx s.heap m → s.heap.IsListIter x.I x.tl2 i → Kp x.g [x.S] s₀ s → AllBare s.gens → x.g < s.gens.size → (∀ t ∈ run, TkIn x.B t) → (∀ t ∈ ts, TkIn x.B t) → run.length + ts.length ≤ 100 →
    SegX (model PySem.Challenge.rw_ew0014_01.row.prog w) (AgO x.outer) (.forLoop (.Name (Str.ofString "tok") px) (.ref x.I) (tokBody w.params sx sp y1 y2 y3 z1 z2 z3 u1 u2 u3 p1 p2) [] (x.env w))
      ((model PySem.Challenge.rw_ew0014_01.row.prog w).den (.forLoop (.Name (Str.ofString "tok") px) (.ref x.I) (tokBody w.params sx sp y1 y2 y3 z1 z2 z3 u1 u2 u3 p1 p2) [] (x.env w)))
      [.ret (forBack (x.env w) (K2 w x H sx' sp' y1' y2' y3') H id id) none false [] (.func (outB w.params).1 (x.env w)) p []] s
      (PP (model PySem.Challenge.rw_ew0014_01.row.prog w) (AgO x.outer) x.g [x.S] x.Bo (OutP w.params x.fr) Fin5 os Fx s₀) := by
  have hneI : x.tl2 ≠ x.I := ok.ndI x.tl2 (by simp)
  intro run ts os h
  -- the list of tokens stays what it is
  have isl : ∀ {run : List Tk} {Fx : List (Addr × Obj)} {h : Heap} {m : Str → Option Value}, OInv w x run Fx h m → h.IsList x.tl2 x.vs.toArray ∧ x.Lg ≠ x.tl2 := fun v => by
    obtain ⟨n, op, ps, N, _⟩ := v.N
    have z := N (x.tl2, listOf x.vs.toArray x.c1) (by simp [Cx.fix])
    exact ⟨⟨_, z.1, rfl, _, rfl⟩, fun e => z.2.1 e.symm⟩
  have lgI : x.Lg ≠ x.I := Ne.symm ok.hI.1
  -- behind a yield: the consumer's turn
  have wake : ∀ {run : List Tk} {Fx : List (Addr × Obj)} {s₁ s'' : Shared} {m : Str → Option Value} {i : Nat}, OInv w x run Fx s₁.heap m → s₁.heap.IsListIter x.I x.tl2 i → Ext x.g [x.S] s₁ s'' → OInv w x run Fx s''.heap m ∧ s''.heap.IsListIter x.I x.tl2 i := fun v hit hx => by
    have hk : ∀ b o, b ≠ x.S → _ → _ := fun b o hb e => hx.heap b o (fun hm => hb (List.mem_singleton.mp hm)) e
    have hLS : x.Lg ≠ x.S := by
      obtain ⟨oS, NS⟩ := v.S
      exact fun e => (NS (x.S, oS) (by simp)).2.1 e.symm
    exact ⟨v.move ok x.S (.inr ⟨rfl, hx.live x.S (by simp)⟩) (fun b o h1 _ e => hk b o h1 e) (v.F.ns.at' fun o e => hk _ o hLS e) v.hm, hit.at fun o e => hk _ o (ok.ndS x.I (by simp)) e⟩
  have item : ∀ {run : List Tk} {t : Tk} {ts : List Tk} {i : Nat} {s s₀ : Shared} {Fx : List (Addr × Obj)} {m : Str → Option Value} {P : End → Shared → Prop}, (t :: ts).map rf = x.vs.drop i → OInv w x run Fx s.heap m → s.heap.IsListIter x.I x.tl2 i → Kp x.g [x.S] s₀ s →
      (∀ h' tk m', i + 1 ≤ x.vs.length → ts.map rf = x.vs.drop (i + 1) → OInv w x run Fx h' m' → h'.IsListIter x.I x.tl2 (i + 1) → Kp x.g [x.S] s₀ { s with heap := h', toks := tk } → m' (Str.ofString "tok") = some (rf t) →
        SegX (model PySem.Challenge.rw_ew0014_01.row.prog w) (AgO x.outer) (.forLoop (.Name (Str.ofString "tok") px) (.ref x.I) (tokBody w.params sx sp y1 y2 y3 z1 z2 z3 u1 u2 u3 p1 p2) [] (x.env w)) ((execs (tokBody w.params sx sp y1 y2 y3 z1 z2 z3 u1 u2 u3 p1 p2) (x.env w)).wrap (turnK (.Name (Str.ofString "tok") px) (.ref x.I) (tokBody w.params sx sp y1 y2 y3 z1 z2 z3 u1 u2 u3 p1 p2) (x.env w)) (turnH (x.env w)) id id)
          [.ret (forBack (x.env w) (K2 w x H sx' sp' y1' y2' y3') H id id) none false [] (.func (outB w.params).1 (x.env w)) p []] { s with heap := h', toks := tk } P) →
      SegX (model PySem.Challenge.rw_ew0014_01.row.prog w) (AgO x.outer) (.forLoop (.Name (Str.ofString "tok") px) (.ref x.I) (tokBody w.params sx sp y1 y2 y3 z1 z2 z3 u1 u2 u3 p1 p2) [] (x.env w))
        ((model PySem.Challenge.rw_ew0014_01.row.prog w).den (.forLoop (.Name (Str.ofString "tok") px) (.ref x.I) (tokBody w.params sx sp y1 y2 y3 z1 z2 z3 u1 u2 u3 p1 p2) [] (x.env w)))
        [.ret (forBack (x.env w) (K2 w x H sx' sp' y1' y2' y3') H id id) none false [] (.func (outB w.params).1 (x.env w)) p []] s P := by
    intro run t ts i s s₀ Fx m P hd inv hit hk cont
    have hlt : i < x.vs.length := by
      rcases Nat.lt_or_ge i x.vs.length with q | q
      · exact q
      · rw [List.drop_eq_nil_of_le q] at hd; cases hd
    rw [List.drop_eq_getElem_cons hlt, List.map_cons] at hd
    obtain ⟨hd1, hd2⟩ := List.cons.inj hd
    have hx : x.vs.toArray[i]? = some (rf t) := by rw [hd1]; simp [hlt]
    refine sx_list_item (L := x.Lg) (m := m) rfl hit (isl inv).1 hneI hx inv.F.ns rfl lgI (isl inv).2 rfl rfl fun h' tk hns hit' _ hk' => ?_
    have hal : ∃ o, s.heap.get? x.I = some o ∧ o.cls = .type "list_iterator" := by
      obtain ⟨o, ho, hc, _⟩ := hit
      exact ⟨o, ho, hc⟩
    have inv' := inv.move ok x.I (.inl ⟨rfl, hal⟩) hk' hns (by rw [if_neg (by decide)]; exact inv.hm)
    refine cont h' tk _ hlt hd2 inv' hit' ?_ (if_pos rfl)
    obtain ⟨oS, NS⟩ := inv.S
    have nS := NS (x.S, oS) (by simp)
    refine ⟨hk.os, hk.drawn, fun b hb' => ?_, hk.gens, hk.gsize, hk.bare⟩
    rw [List.mem_singleton.mp hb', ← hk.cms x.S (by simp)]
    exact (hk' _ _ (ok.ndI x.S (by simp)) nS.2.1 nS.1).trans nS.1.symm
  -- the frame after the walk of a statement
  have after : ∀ {s s₀ : Shared} {h' : Heap} {tk : Nat} {oS : Obj}, Kp x.g [x.S] s₀ s → s.heap.get? x.S = some oS → h'.get? x.S = some oS → Kp x.g [x.S] s₀ { s with heap := h', toks := tk } := fun hk e1 e2 =>
    ⟨hk.os, hk.drawn, fun b hb' => by rw [List.mem_singleton.mp hb', ← hk.cms x.S (by simp)]; exact e2.trans e1.symm, hk.gens, hk.gsize, hk.bare⟩
  induction h with
  | @nil run oi hrun =>
    intro i s s₀ Fx m hile hd inv hit hk hb hgl ht1 ht2 hl
    have hi : i = x.vs.toArray.size := by
      have z := List.drop_eq_nil_iff.mp (show x.vs.drop i = [] from hd.symm)
      simp; omega
    refine sx_list_done rfl hit (isl inv).1 hneI hi fun h' tk hk' => ?_
    show SegX _ _ _ ((execs (lastRow w.params sx' sp' y1' y2' y3') (x.env w)).wrap endK H id id) _ _ _
    obtain ⟨oS, NS⟩ := inv.S
    have nS := NS (x.S, oS) (by simp)
    have hS2 := hk' _ _ (ok.ndI x.S (by simp)) nS.1
    have hal : ∃ o, s.heap.get? x.I = some o ∧ o.cls = .type "list_iterator" := by
      obtain ⟨o, ho, hc, _⟩ := hit
      exact ⟨o, ho, hc⟩
    exact last_row ok hrun ht1 (inv.move ok x.I (.inl ⟨rfl, hal⟩) (fun b o h1 _ e => hk' b o h1 e) (inv.F.ns.at' fun o e => hk' _ o lgI e) inv.hm) (after hk nS.1 hS2) hb hgl
  | @val run oi t ts os hrun hs hrest ih =>
    intro i s s₀ Fx m hile hd inv hit hk hb hgl ht1 ht2 hl
    refine item hd inv hit hk fun h' tk m' hile' hd' inv' hit' hk' hm' => ?_
    obtain ⟨X2, dX, es, ne, hv, hx1, hx2⟩ := hs
    obtain ⟨oI, hoI, hcI, hdI⟩ := id hit'
    obtain ⟨n, op, ps, oS, N, hcf⟩ := inv'.all ok hoI
    refine sx_cons (sx_If (wpLess lessL.hh lessL.hd lessL.hf lessL.hg lessL.hu (o_v2 (s := { s with heap := h', toks := tk }) ok.X ok.T ok.Bl inv'.F N hm' (ht2 t (.head _)) hv hx1 hx2 fun h2 tk2 F2 N2 => ⟨fun _ => ?_, fun e => (by cases e)⟩)))
    obtain ⟨inv2, hI2, hS2⟩ := OInv.back F2 inv'.hm N2 hcf fun q hq => (inv'.Fx q hq).2
    have hS1 : h'.get? x.S = some oS := (OInv.back inv'.F inv'.hm N hcf fun q hq => (inv'.Fx q hq).2).2.2
    have hit2 : h2.IsListIter x.I x.tl2 (i + 1) := ⟨oI, hI2, hcI, hdI⟩
    have hk2 : Kp x.g [x.S] s₀ { s with heap := h2, toks := tk2 } := after (s := { s with heap := h', toks := tk }) hk' hS1 hS2
    refine sx_cons (forSym (os := .old t :: os) ok hrun ht1 inv2 hk2 hb hgl lessL (fun _ _ => lessI2) (fun _ _ => rfl) (fun _ _ => Nat.lt_of_lt_of_le (by exact Nat.le_of_ble_eq_true rfl : _ < 900) (by decide)) (fun F N hm h => o_z ok.X ok.T ok.Bl F N ok.C0 hm h) (fun _ => rfl) rfl rfl fun s' Fi m3 s₀' i1 i2 i3 i4 i5 i6 => ?_)
    have hm3 : m3 (Str.ofString "tok") = some (rf t) := (i6 _ (by decide)).trans hm'
    have hit3 : s'.heap.IsListIter x.I x.tl2 (i + 1) := ⟨oI, i2 oI hI2, hcI, hdI⟩
    refine sx_cons (sx_Yield rfl rfl rfl (wpAny_Name (wpAny_loadName_local rfl rfl i1.F.ns hm3 fun k' l' p' hres => ?_) (by decide)))
    refine ⟨rf t, l', k', _, p', _, [], rfl, i3, i1.holds ok, ⟨rfl, rfl⟩, fun s'' hx => hres s'' _ ?_⟩
    obtain ⟨i7, hit4⟩ := wake i1 hit3 hx
    refine sx_againM rfl (ih (i + 1) s'' s'' (Fi ++ Fx) m3 hile' hd' i7 hit4 (Kp.refl _ _ _) (hx.bare i4) (by rw [hx.gsize]; exact i5) (fun _ h => nomatch h) (fun t' h => ht2 t' (.tail _ h)) (by simp at hl ⊢; omega))
  | @blank t ts os hv hbl hrest ih =>
    intro i s s₀ Fx m hile hd inv hit hk hb hgl ht1 ht2 hl
    refine item hd inv hit hk fun h' tk m' hile' hd' inv' hit' hk' hm' => ?_
    obtain ⟨oI, hoI, hcI, hdI⟩ := id hit'
    obtain ⟨n, op, ps, oS, N, hcf⟩ := inv'.all ok hoI
    refine sx_cons (sx_If (wpLess lessL.hh lessL.hd lessL.hf lessL.hg lessL.hu (o_v1 (s := { s with heap := h', toks := tk }) ok.X ok.T ok.Bl inv'.F N hm' (ht2 t (.head _)) hv fun tk2 => ⟨fun e => (by cases e), fun _ => ?_⟩)))
    refine sx_cons (sx_If (wpLess lessL.hh lessL.hd lessL.hf lessL.hg lessL.hu (o_w2 (s := { s with heap := h', toks := tk2 }) ok.X ok.T ok.Bl inv'.F N hm' (ht2 t (.head _)) hbl fun tk3 => ⟨fun _ => ?_, fun e => (by cases e)⟩)))
    refine sx_cons (sx_Yield rfl rfl rfl (wpAny_Name (wpAny_loadName_local rfl rfl inv'.F.ns hm' fun k' l' p' hres => ?_) (by decide)))
    have hS1 : h'.get? x.S = some oS := (OInv.back inv'.F inv'.hm N hcf fun q hq => (inv'.Fx q hq).2).2.2
    have hk3 : Kp x.g [x.S] s₀ { s with heap := h', toks := tk3 } := after (s := { s with heap := h', toks := tk }) hk' hS1 hS1
    refine ⟨rf t, l', k', _, p', _, [], rfl, hk3, inv'.holds ok, ⟨rfl, rfl⟩, fun s'' hx => hres s'' _ ?_⟩
    obtain ⟨i7, hit4⟩ := wake (s₁ := { s with heap := h', toks := tk3 }) inv' hit' hx
    refine sx_againM rfl (ih (i + 1) s'' s'' Fx m' hile' hd' i7 hit4 (Kp.refl _ _ _) (hx.bare hb) (by rw [hx.gsize]; exact hgl) (fun _ h => nomatch h) (fun t' h => ht2 t' (.tail _ h)) (by simp at hl ⊢; omega))
  | @app run t ts os hv hor hrest ih =>
    intro i s s₀ Fx m hile hd inv hit hk hb hgl ht1 ht2 hl
    refine item hd inv hit hk fun h' tk m' hile' hd' inv' hit' hk' hm' => ?_
    obtain ⟨oI, hoI, hcI, hdI⟩ := id hit'
    obtain ⟨n, op, ps, oS, N, hcf⟩ := inv'.all ok hoI
    have hS1 : h'.get? x.S = some oS := (OInv.back inv'.F inv'.hm N hcf fun q hq => (inv'.Fx q hq).2).2.2
    have nU := N (x.U, listOf (run.map rf).toArray n) (by simp)
    have hrl : run.length ≤ 100 := by omega
    have hCU : @Ne Nat x.Cg x.U := by
      have z := (List.nodup_append.mp ok.nd).1
      simp only [List.nodup_cons, List.mem_cons, not_or] at z
      exact z.1.1
    have hrU : ∀ q ∈ x.rest w op oS oI Fx, q.1 ≠ x.U := by
      intro q hq
      have z : List.Nodup (([x.U] : List Nat) ++ ([x.P', x.S] ++ [x.f, x.c', x.tl2, x.J, 205, x.I] : List Nat)) := (List.nodup_cons.mp ok.nd).2
      have zU : ∀ a ∈ ([x.P', x.S, x.f, x.c', x.tl2, x.J, 205, x.I] : List Nat), a ≠ x.U := fun a ha e => (List.nodup_append.mp z).2.2 x.U (by simp) a ha e.symm
      have hq' : q ∈ ((x.P', op) :: x.fix w ++ [(x.S, oS), (x.I, oI)]) ++ Fx := by
        simp only [Cx.rest] at hq
        simpa using hq
      rcases List.mem_append.mp hq' with hq' | hq'
      · refine zU q.1 ?_
        simp only [Cx.fix, List.cons_append, List.nil_append, List.mem_cons, List.not_mem_nil, or_false] at hq'
        rcases hq' with rfl | rfl | rfl | rfl | rfl | rfl | rfl | rfl <;> simp
      · exact (inv'.Fx q hq').2.1.2.2.2.2.1
    have go : ∀ (KK : Flow → Sem PySem.Fin) (_ : KK .next = turnK (.Name (Str.ofString "tok") px) (.ref x.I) (tokBody w.params sx sp y1 y2 y3 z1 z2 z3 u1 u2 u3 p1 p2) (x.env w) .next) (tk3 : Tok), SegX (model PySem.Challenge.rw_ew0014_01.row.prog w) (AgO x.outer) (.forLoop (.Name (Str.ofString "tok") px) (.ref x.I) (tokBody w.params sx sp y1 y2 y3 z1 z2 z3 u1 u2 u3 p1 p2) [] (x.env w)) ((execs (oIf w.params).1.2.2.2.2.1 (x.env w)).wrap KK (turnH (x.env w)) id id)
          [.ret (forBack (x.env w) (K2 w x H sx' sp' y1' y2' y3') H id id) none false [] (.func (outB w.params).1 (x.env w)) p []] { s with heap := h', toks := tk3 } (PP (model PySem.Challenge.rw_ew0014_01.row.prog w) (AgO x.outer) x.g [x.S] x.Bo (OutP w.params x.fr) Fin5 os Fx s₀) := fun KK hKK tk3 => by
      refine sx_wrapF (wpLess lessL.hh lessL.hd lessL.hf lessL.hg lessL.hu (o_x (s := { s with heap := h', toks := tk3 }) ok.X ok.T ok.Bl inv'.F N hm' (by simp; omega) hCU hrU fun h2 tk2 F2 N2 => ?_))
      have N2' : News x.B x.Lg h2 ((x.Cg, cellObj x.co (some (.ref x.U))) :: (x.U, listOf ((run ++ [t]).map rf).toArray (n + 1)) :: x.rest w op oS oI Fx) := by rw [List.map_append]; exact N2
      obtain ⟨inv2, hI2, hS2⟩ := OInv.back F2 inv'.hm N2' hcf fun q hq => (inv'.Fx q hq).2
      rw [hKK]
      refine sx_againM rfl (ih (i + 1) _ s₀ Fx m' hile' hd' inv2 ⟨oI, hI2, hcI, hdI⟩ (after (s := { s with heap := h', toks := tk }) hk' hS1 hS2) hb hgl (fun t' h => ?_) (fun t' h => ht2 t' (.tail _ h)) (by simp at hl ⊢; omega))
      rcases List.mem_append.mp h with h | h
      · exact ht1 t' h
      · rw [List.mem_singleton.mp h]; exact ht2 t (.head _)
    refine sx_cons (sx_If (wpLess lessL.hh lessL.hd lessL.hf lessL.hg lessL.hu (o_v1 (s := { s with heap := h', toks := tk }) ok.X ok.T ok.Bl inv'.F N hm' (ht2 t (.head _)) hv fun tk2 => ⟨fun e => (by cases e), fun _ => ?_⟩)))
    cases hrn : run with
    | nil =>
      subst hrn
      have hw : Word t := hor.resolve_left fun h => h rfl
      exact sx_cons (sx_If (wpLess lessL.hh lessL.hd lessL.hf lessL.hg lessL.hu (o_w1 (s := { s with heap := h', toks := tk2 }) ok.X ok.T ok.Bl inv'.F N hm' (ht2 t (.head _)) hw fun tk3 => ⟨fun e => (by cases e), fun _ => by apply go; rfl⟩)))
    | cons a r =>
      exact sx_cons (sx_If (wpLess lessL.hh lessL.hd lessL.hf lessL.hg lessL.hu (o_w3 (s := { s with heap := h', toks := tk2 }) ok.X ok.T ok.Bl inv'.F N (by rw [hrn]; simp) (by simp; omega) fun tk3 => ⟨fun e => (by cases e), fun _ => by apply go; rfl⟩)))
end
end Mine
end
section -- O9
open PySem PySem.W PyProof.Rows PySem.Calls
set_option Elab.async false
set_option maxRecDepth 100000
set_option maxHeartbeats 12000000
namespace Mine
open PySem.W.X (SegX)
theorem PP.outM {O : Type} {M : Model} {Ag : Around} {g : Nat} {cm : List Addr} {B : Heap} {Out Out' : O → Value → List (Addr × Obj) → Prop} {Fin : Shared → Prop} (h : ∀ o v nw, Out o v nw → Out' o v nw) :
    ∀ {os : List O} {Fx : List (Addr × Obj)} {s₀ : Shared} {e : End} {s' : Shared}, PP M Ag g cm B Out Fin os Fx s₀ e s' → PP M Ag g cm B Out' Fin os Fx s₀ e s'
  | [], _, _, _, _, z => z
  | _ :: os, Fx, _, _, _, ⟨v, l, k, c, p, fs, new, e, b, hH, o, r⟩ => ⟨v, l, k, c, p, fs, new, e, b, hH, h _ _ _ o, fun s'' hx => PySem.W.X.SegX.mono (r s'' hx) fun _ _ z => PP.outM h z⟩
theorem OutP.mono {P : Params} {fr fr' : Addr → Prop} (h : ∀ a, fr a → fr' a) : ∀ (o : OutS) (v : Value) (nw : List (Addr × Obj)), OutP P fr o v nw → OutP P fr' o v nw
  | .old _, _, _, z => z
  | .new _ _ _, _, _, ⟨a, b, c, d, e1, e2, e3, t1, t2, t3, t4, t5, t6, tv, a1, a2, h1, h2, h3⟩ => ⟨a, b, c, d, e1, e2, e3, t1, t2, t3, t4, t5, t6, tv, a1, a2, h1, h2, fun q hq => h _ (h3 q hq)⟩
theorem outer_first {w : World} {co : Obj} {A₀ : Around} {base B Bo : Heap} {outer : List Env} {Lg Cg tl S J : Addr} {oS oJ : Obj} {m mg mb : Str → Option Value} {pr : Program} {loose : List Str} {mean : ExcName → Option Value} {s : Shared} {ts : List Tk} {os : List OutS} {n g : Nat} {fr : Addr → Prop}
    (X : (Mine.hd.heap_39 w.params).In B) (T : Top pr loose mean mg mb B) (Bl : Below A₀ base outer B) (C0 : CodeHd B 209 205) (F : Fr B Lg s.heap m) (N : News B Lg s.heap [(Cg, cellObj co none), (205, tabObj #[]), (S, oS), (J, oJ)])
    (htl : B.get? tl = some (listOf (ts.map rf).toArray n)) (hm : m (Str.ofString "tokens") = some (.ref tl)) (hlen : ts.length ≤ 90) (hts : ∀ t ∈ ts, TkIn B t) (hout : OutsIs B [] ts os)
    (hd1 : @Ne Nat Cg 205) (hd2 : @Ne Nat S Cg) (hd3 : @Ne Nat S 205) (hd4 : @Ne Nat J Cg) (hd5 : @Ne Nat J 205) (hd6 : @Ne Nat J S)
    (hBo : ∀ h : Heap, (∀ b o, B.get? b = some o → h.get? b = some o) → h.get? J = some oJ → ∀ b o, Bo.get? b = some o → h.get? b = some o) (offBo : Bo.get? S = none) (hb : AllBare s.gens) (hgl : g < s.gens.size)
    (hfr : ∀ a : Addr, B.get? a = none → a ≠ Lg → a ≠ S → fr a) :
    SegX (model PySem.Challenge.rw_ew0014_01.row.prog w) (AgO outer) (.func (outB w.params).1 (envG w.params Lg Cg)) ((model PySem.Challenge.rw_ew0014_01.row.prog w).den (.func (outB w.params).1 (envG w.params Lg Cg))) [] s
      (PP (model PySem.Challenge.rw_ew0014_01.row.prog w) (AgO outer) g [S] Bo (OutP w.params fr) Fin5 os [] s) := by
  refine sx_func ?_
  obtain ⟨px, pt, p0, sx, sp, y1, y2, y3, z1, z2, z3, u1, u2, u3, p1, p2, sx', sp', y1', y2', y3', e⟩ := outB_shape w.params
  conv in execs (outB w.params).1 _ => rw [e]
  have lF : LessA ((AgO outer).over (.func (outB w.params).1 (envG w.params Lg Cg)) []) (AA (envG w.params Lg Cg :: outer) none) := ⟨rfl, Nat.le_of_ble_eq_true rfl, .inr rfl, .inl rfl, Nat.le_of_ble_eq_true rfl⟩
  refine sx_block (wpLess lF.hh lF.hd lF.hf lF.hg lF.hu (o_a X T Bl F N htl hm (by simp; omega) C0 hd1 hd2 hd3 hd4 hd5 ?_))
  intro f c' oc P' op' U tl2 c1 q t vs' pm ct ps' h' tk F1 N1 hd hv hcf ord
  refine ⟨rfl, ?_⟩
  have nf := N1 (f, fnB w.params q Cg c' pm ct) (by simp)
  have nc := N1 (c', oc) (by simp)
  have nP := N1 (P', op') (by simp)
  have nU := N1 (U, listOf #[] 0) (by simp)
  have nt := N1 (tl2, listOf (ts.map rf).toArray c1) (by simp)
  have nC := N1 (Cg, cellObj co (some (.ref U))) (by simp)
  have nS := N1 (S, oS) (by simp)
  have nJ := N1 (J, oJ) (by simp)
  have n5 := N1 (205, tabObj ps') (by simp)
  have hLg : Lg < h'.objs.size := F1.ns.lt
  refine sx_cons (sx_For (wpAny_Name (wpAny_loadName_local rfl rfl F1.ns (v := .ref tl2) (by rw [if_neg (by decide), if_pos rfl]) (wpAny_pyIter_list (isL (vs := ts.map rf) (n := c1) N1 (by simp)) fun p => ?_)) (by decide)))
  have up : ∀ b o, h'.get? b = some o → (h'.push { cls := .type "list_iterator", data := .fields #[.ref tl2, .int 0 0] }).get? b = some o := fun b o e => Heap.get?_push_of_some _ e
  have hI : (h'.push { cls := .type "list_iterator", data := .fields #[.ref tl2, .int 0 0] }).get? h'.objs.size = some { cls := .type "list_iterator", data := .fields #[.ref tl2, .int 0 0] } := Heap.get?_push_size _ rfl
  have hcP : @Ne Nat c' P' := by
    obtain ⟨_, _, _, _, _, _, _, _, _, _, _, _, _, _, _, _, h⟩ := hcf
    exact h
  have lt : ∀ {a : Addr} {o : Obj}, h'.get? a = some o → @LT.lt Nat _ a h'.objs.size := fun e => Heap.lt_size e
  let x : Cx := { base := base, B := B, Bo := Bo, A₀ := A₀, outer := outer, Lg := Lg, Cg := Cg, U := U, P' := P', f := f, c' := c', tl2 := tl2, J := J, S := S, I := h'.objs.size, co := co, oc := oc, oJ := oJ, c1 := c1, vs := ts.map rf, q := q, t := t, vsc := vs', ps5 := ps', pm := pm, ct := ct, g := g, mg := mg, mb := mb, p := pr, loose := loose, mean := mean }
  have ok : x.Ok w := by
    refine ⟨X, T, Bl, C0, hd, hv, ?_, hBo, offBo, Nat.ne_of_gt hLg, Heap.get?_none_of_le (Nat.le_trans F1.above (Nat.le_of_lt hLg))⟩
    have a1 := lt nf.1; have a2 := lt nc.1; have a3 := lt nP.1; have a4 := lt nU.1; have a5 := lt nt.1; have a6 := lt nC.1; have a7 := lt nS.1; have a8 := lt nJ.1; have a9 := lt n5.1
    obtain ⟨b1, b2, b3, b4, b5, b6, b7, b8, b9⟩ := ord
    show List.Nodup ([Cg, U, P', S, f, c', tl2, J, 205, h'.objs.size] : List Nat)
    simp only [List.nodup_cons, List.mem_cons, List.not_mem_nil, or_false, not_or, not_false_eq_true, List.nodup_nil, and_true]
    omega
  have inv : OInv w x [] [] (h'.push { cls := .type "list_iterator", data := .fields #[.ref tl2, .int 0 0] }) (fun y => if y = Str.ofString "build_token_with_symbol" then some (.ref f) else if y = Str.ofString "tokens" then some (.ref tl2) else m y) := by
    refine ⟨F1.push _, if_pos rfl, ⟨0, op', #[], fun q' hq' => ?_, hcf⟩, ⟨oS, fun q' hq' => by rw [List.mem_singleton.mp hq']; exact ⟨up _ _ nS.1, nS.2⟩⟩, fun _ h => nomatch h⟩
    simp only [Cx.fix, List.mem_cons, List.not_mem_nil, or_false] at hq'
    rcases hq' with rfl | rfl | rfl | rfl | rfl | rfl | rfl | rfl
    · exact ⟨up _ _ nC.1, nC.2⟩
    · exact ⟨up _ _ nU.1, nU.2⟩
    · exact ⟨up _ _ nP.1, nP.2⟩
    · exact ⟨up _ _ nf.1, nf.2⟩
    · exact ⟨up _ _ nc.1, nc.2⟩
    · exact ⟨up _ _ nt.1, nt.2⟩
    · exact ⟨up _ _ nJ.1, nJ.2⟩
    · exact ⟨up _ _ n5.1, n5.2⟩
  have hkS : ∀ tk', Kp g [S] s { s with heap := h'.push { cls := .type "list_iterator", data := .fields #[.ref tl2, .int 0 0] }, toks := tk' } := fun tk' => Kp.heap fun b hb' => by
    rw [List.mem_singleton.mp hb']
    exact (up _ _ nS.1).trans (N (S, oS) (by simp)).1.symm
  refine PySem.W.X.SegX.mono (outer_loop (x := x) ok p hout 0 _ s [] _ (Nat.zero_le _) rfl inv ⟨_, hI, rfl, rfl⟩ (hkS _) hb hgl (fun _ h => nomatch h) hts (by simp; omega)) fun e s' z => PP.outM (OutP.mono fun a h => hfr a h.1 h.2.1 h.2.2.1) z
end Mine
end
section -- R1
open PySem PySem.W PyProof.Rows PySem.Calls
set_option Elab.async false
set_option maxRecDepth 100000
set_option maxHeartbeats 12000000
namespace Mine
open PySem.W.X (SegX)
theorem fn210 (P : Params) : ∃ oc od osl prm dV kV doc pm an ct, (Mine.hd.heap_39 P).lookup 210 = some ⟨oc, od, .func (fnX nmO nmO prm (outB P).1 (outS P).1 [] dV kV doc pm an (.ref 209) ct), osl⟩ ∧
    codeIn (Mine.hd.heap_39 P) (.ref 209) nmO = true ∧ ∀ (s : Shared) (v : Value), BindsTo s (fnX nmO nmO prm (outB P).1 (outS P).1 [] dV kV doc pm an (.ref 209) ct) ⟨[v], []⟩ [(Str.ofString "tokens", v)] :=
  ⟨_, _, _, _, _, _, _, _, _, _, rfl, rfl, fun _ _ => BindsTo.of_eq rfl⟩
theorem outS_cells (P : Params) (n : Nat) : cellsFrom n (outS P).1.names [] = [(Str.ofString "unmatched", n)] := rfl
theorem envO_is (P : Params) (Lg : Addr) : envOfC nmO (outS P).1 Lg 210 (.ref 209) = envG P Lg (Lg + 1) := rfl
theorem RowsOf.mono {O : Type} {Out Out' : O → Value → List (Addr × Obj) → Prop} {Fx : List (Addr × Obj)} (h : ∀ o v nw, Out o v nw → Out' o v nw) : ∀ {os : List O} {vs : List Value}, RowsOf Out Fx os vs → RowsOf Out' Fx os vs
  | [], [], _ => trivial
  | _ :: _, _ :: _, ⟨⟨nw, a, b⟩, r⟩ => ⟨⟨nw, h _ _ _ a, b⟩, RowsOf.mono h r⟩
theorem build_call {w : World} {A₀ A : Around} {base h₀ : Heap} {outer : List Env} {env : Env} {L : Addr} {m mg mb : Str → Option Value} {pr : Program} {loose : List Str} {mean : ExcName → Option Value} {s : Shared} {T₁ : List (Addr × Obj)} {ts : List Tk} {os : List OutS} {tl : Addr} {n : Nat} {Q : Value → Shared → Prop} {E : Value → Shared → Prop}
    (X : (Mine.hd.heap_39 w.params).In h₀) (T : Top pr loose mean mg mb h₀) (Bl : Below A₀ base outer h₀) (C0 : CodeHd h₀ 209 205) (F : Fr h₀ L s.heap m) (N : News h₀ L s.heap ((205, tabObj #[]) :: T₁)) (h5 : ∀ p ∈ T₁, p.1 ≠ 205)
    (hA : A.frames = some (env :: outer)) (hf : env.frame = some L) (hke : env.scope.kind = .function) (hle : LessA A.in1.in1.in1 (AgO (env :: outer))) (hh : A.handled = none) (hroom : A.depth < recursionLimit)
    (htl : (tl, listOf (ts.map rf).toArray n) ∈ T₁) (hts : ∀ t ∈ ts, (t.a, t.obj) ∈ T₁ ∧ (t.dx, dictOf [] 0) ∈ T₁) (hlen : ts.length ≤ 90) (hout : ∀ B : Heap, (∀ p ∈ T₁, B.get? p.1 = some p.2) → OutsIs B [] ts os) (hos : os.length ≤ 1000) (hb : AllBare s.gens)
    (hQ : ∀ J h₁ gens₁ tk₁, Fr h₀ L h₁ m → News h₀ L h₁ ((205, tabObj #[]) :: T₁) →
      (∀ (tk : Tok) (Q' : Value → Shared → Prop), (∀ S h' gens' tk' vs c' Fx ps, Fr h₀ L h' m → News h₀ L h' ((205, tabObj ps) :: (S, lst vs.toArray c') :: T₁) → RowsOf (OutP w.params (fun a => h₀.get? a = none ∧ a ≠ L)) Fx os vs → (∀ p ∈ Fx, h'.get? p.1 = some p.2) → AllBare gens' →
          Q' (.ref S) { s with heap := h', gens := gens', toks := tk' }) → wpAny (model PySem.Challenge.rw_ew0014_01.row.prog w) A (call (.type "list") [.ref J]) Q' E { s with heap := h₁, gens := gens₁, toks := tk }) →
      Q (.ref J) { s with heap := h₁, gens := gens₁, toks := tk₁ }) :
    wpAny (model PySem.Challenge.rw_ew0014_01.row.prog w) A (call (.ref 210) [.ref tl]) Q E s := by
  obtain ⟨oc, od, osl, prm, dV, kV, doc, pm, an, ct, ho, hci, hbind⟩ := fn210 w.params
  have Xs := X.keeps F.keep
  have n5 := N (205, tabObj #[]) (.head _)
  have hnl : s.heap.NoLimit := T.nolimit.keeps F.keep
  refine wpAny_call (gen_cells hnl (Xs _ _ ho) rfl (codeRec_of Xs hci) hroom (hbind s (.ref tl)) ?_ ?_ ?_ rfl rfl rfl)
  · intro k q hq
    rw [List.mem_singleton.mp hq]
    exact .inl rfl
  · rw [outS_cells]; decide
  intro h₁ tk₁ cells hns hk₁ hlt NC hCA
  rw [outS_cells] at hCA
  obtain ⟨co, rfl, hco⟩ := hCA.one
  have hco2 : cellObj co none = co := by
    obtain ⟨a, b, d, e⟩ := co
    have : d = .cell none := hco
    subst this; rfl
  have up : ∀ b o, s.heap.get? b = some o → (h₁.push (genObj s.gens.size nmO nmO tk₁ (tk₁ + 1))).get? b = some o := fun b o e => Heap.get?_push_of_some _ (hk₁ b o e)
  have hJg : (h₁.push (genObj s.gens.size nmO nmO tk₁ (tk₁ + 1))).get? h₁.objs.size = some (genObj s.gens.size nmO nmO tk₁ (tk₁ + 1)) := Heap.get?_push_size _ rfl
  have hns2 := hns.push (genObj s.gens.size nmO nmO tk₁ (tk₁ + 1))
  have hCg := (NC (s.heap.objs.size + 1, co) (.head _))
  have hCg2 : (h₁.push (genObj s.gens.size nmO nmO tk₁ (tk₁ + 1))).get? (s.heap.objs.size + 1) = some co := Heap.get?_push_of_some _ hCg.1
  have hCJ : s.heap.objs.size + 1 < h₁.objs.size := Heap.lt_size hCg.1
  have hsz2 : (h₁.push (genObj s.gens.size nmO nmO tk₁ (tk₁ + 1))).objs.size = h₁.objs.size + 1 := Heap.size_push ..
  dsimp only
  generalize hoJ : genObj s.gens.size nmO nmO tk₁ (tk₁ + 1) = oJ at up hJg hns2 hCg2 hsz2 ⊢
  generalize hJe : h₁.objs.size = J at hJg hCJ hsz2 ⊢
  generalize h₁.push oJ = h₂ at up hJg hns2 hCg2 hsz2 ⊢
  have F2 : Fr h₀ L h₂ m := F.keeps up
  have N2 : News h₀ L h₂ ((205, tabObj #[]) :: T₁) := fun q hq => ⟨up _ _ (N q hq).1, (N q hq).2⟩
  refine hQ J h₂ _ _ F2 N2 fun tk Q' hQ' => ?_
  -- the frozen part while the generator runs
  have N5 : News h₀ L s.heap [(205, tabObj #[])] := fun q hq => by rw [List.mem_singleton.mp hq]; exact n5
  obtain ⟨FG, BG, st, _⟩ := groundX (R := fun _ _ => True) (A := A) Bl F N5 hA hf hke
  have BG' : Below A base (env :: outer) (hideAll s.heap [205]) := BG
  have kh0 : ∀ b o, h₀.get? b = some o → (hideAll s.heap [205]).get? b = some o := st
  have kT : ∀ q ∈ T₁, (hideAll s.heap [205]).get? q.1 = some q.2 := fun q hq => hideAll_get _ (N q (.tail _ hq)).1 fun hm => h5 q hq (List.mem_singleton.mp hm)
  obtain ⟨oL, esL, epL, hoL, hoLr⟩ := id F.ns
  have hL5 : L ≠ 205 := fun e => n5.2.1 e.symm
  have hBL : (hideAll s.heap [205]).get? L = some oL := hideAll_get _ hoL fun hm => hL5 (List.mem_singleton.mp hm)
  have hJs : @LT.lt Nat _ s.heap.objs.size J := by omega
  have alive : ∀ {b : Addr} {o : Obj}, s.heap.get? b = some o → @LT.lt Nat _ b s.heap.objs.size := fun e => Heap.lt_size e
  have hide : ∀ b o, (hideAll h₂ (205 :: (List.range h₂.objs.size).filter fun a => (s.heap.get? a).isNone && a != J)).get? b = some o → h₂.get? b = some o ∧ (b = J ∨ (hideAll s.heap [205]).get? b = some o) := fun b o e => by
    have e2 := of_hideAll _ e
    refine ⟨e2, ?_⟩
    have hn : b ∉ 205 :: (List.range h₂.objs.size).filter fun a => (s.heap.get? a).isNone && a != J := fun hm => by rw [hideAll_none _ hm] at e; cases e
    by_cases hj : b = J
    · exact .inl hj
    · right
      have hb5 : b ≠ 205 := fun q => hn (by rw [q]; exact .head _)
      cases hs : s.heap.get? b with
      | none =>
        exact absurd (List.mem_cons_of_mem _ (List.mem_filter.mpr ⟨List.mem_range.mpr (Heap.lt_size e2), by simp [hs, hj]⟩)) hn
      | some o' =>
        have z := up _ _ hs
        rw [e2] at z
        rw [Option.some.inj z]
        exact hideAll_get _ hs fun hm => hb5 (List.mem_singleton.mp hm)
  have keepBo : ∀ b o, s.heap.get? b = some o → b ≠ 205 → (hideAll h₂ (205 :: (List.range h₂.objs.size).filter fun a => (s.heap.get? a).isNone && a != J)).get? b = some o := fun b o e h => hideAll_get _ (up b o e) fun hm => by
    rcases List.mem_cons.mp hm with q | hm
    · exact h q
    · have z := (List.mem_filter.mp hm).2
      simp [e] at z
  have BoJ : (hideAll h₂ (205 :: (List.range h₂.objs.size).filter fun a => (s.heap.get? a).isNone && a != J)).get? J = some oJ := hideAll_get _ hJg fun hm => by
    rcases List.mem_cons.mp hm with q | hm
    · exact absurd (alive n5.1) (by rw [← q]; exact Nat.not_lt.mpr (Nat.le_of_lt hJs))
    · have z := (List.mem_filter.mp hm).2
      simp at z
  generalize hBo : (hideAll h₂ (205 :: (List.range h₂.objs.size).filter fun a => (s.heap.get? a).isNone && a != J)) = Bo at hide keepBo BoJ
  have h0Bo : ∀ b o, h₀.get? b = some o → Bo.get? b = some o := fun b o e => keepBo b o (F.keep b o e) fun q => by rw [q, n5.2.2] at e; cases e
  have BoS : Bo.get? h₂.objs.size = none := by
    cases q : Bo.get? h₂.objs.size with
    | none => rfl
    | some o => exact absurd (Heap.lt_size (hide _ _ q).1) (Nat.lt_irrefl _)
  refine list_play (Fin := Fin5) (Out := OutP w.params (fun a => (hideAll s.heap [205]).get? a = none ∧ a ≠ h₂.objs.size)) (os := os) (Fx := []) (B := Bo) (g := s.gens.size) (Ag := AgO (env :: outer)) (s := { s with heap := h₂, gens := s.gens.push _, toks := tk }) (fun a b h k => ?_) hh (T.nolimit.keeps h0Bo) hroom hle ⟨oJ, _, _, BoJ, by rw [← hoJ], by rw [← hoJ], by rw [← hoJ]⟩ (Array.getElem?_push_size ..) ⟨fun b o e => (hide b o e).1, (fun _ h => nomatch h), fun b hb' => by rw [List.mem_singleton.mp hb']; exact BoS, fun _ h => nomatch h⟩ hos (hb.push rfl) ?_ ?_
  · obtain ⟨ps, h⟩ := h
    exact ⟨ps, k _ _ h⟩
  · intro h₃ c3 up3 hsz3 hS3
    have nS : (hideAll s.heap [205]).get? h₂.objs.size = none := Heap.get?_none_of_le (by rw [hideAll_size]; omega)
    have F3 : Fr (hideAll s.heap [205]) s.heap.objs.size h₃ (bindL (envOfC nmO (outS w.params).1 s.heap.objs.size 210 (.ref 209)).kindOf [(Str.ofString "tokens", .ref tl)] fun _ => none) := ⟨hns2.at' fun o e => up3 _ _ e, fun b o e => up3 _ _ (up _ _ (of_hideAll _ e)), Nat.le_of_eq (hideAll_size _ _)⟩
    have N3 : News (hideAll s.heap [205]) s.heap.objs.size h₃ [(s.heap.objs.size + 1, cellObj co none), (205, tabObj #[]), (h₂.objs.size, lst #[] c3), (J, oJ)] := fun q hq => by
      simp only [List.mem_cons, List.not_mem_nil, or_false] at hq
      rcases hq with rfl | rfl | rfl | rfl
      · exact ⟨by rw [hco2]; exact up3 _ _ hCg2, Nat.succ_ne_self _, Heap.get?_none_of_le (by rw [hideAll_size]; exact Nat.le_succ _)⟩
      · exact ⟨up3 _ _ (up _ _ n5.1), Nat.ne_of_lt (alive n5.1), hideAll_none _ (by simp)⟩
      · exact ⟨hS3, by show h₂.objs.size ≠ s.heap.objs.size; omega, nS⟩
      · exact ⟨up3 _ _ hJg, Nat.ne_of_gt hJs, Heap.get?_none_of_le (by rw [hideAll_size]; exact Nat.le_of_lt hJs)⟩
    have a5 := alive n5.1
    refine outer_first (s := ({ s with heap := h₃, gens := s.gens.push _, toks := tk } : Shared).setGen s.gens.size .running) (B := hideAll s.heap [205]) (Bo := Bo) (J := J) (S := h₂.objs.size) (Lg := s.heap.objs.size) (Cg := s.heap.objs.size + 1) (tl := tl) (n := n) (X.keeps kh0) (T.keeps kh0) BG' (C0.keeps kh0) F3 N3 (kT _ htl) rfl hlen (fun t ht => ⟨kT _ (hts t ht).1, kT _ (hts t ht).2⟩) (hout _ kT)
      (by omega) (by omega) (by omega) (by omega) (by omega) (by omega) (fun h k1 k2 b o e => ?_) BoS (bare_set (hb.push rfl) rfl) ?_ (fun a h1 _ h3 => ⟨h1, h3⟩)
    · rcases (hide b o e).2 with q | q
      · subst q
        rw [BoJ] at e; cases e; exact k2
      · exact k1 b o q
    · show s.gens.size < ((s.gens.push _).setIfInBounds s.gens.size .running).size
      rw [Array.size_setIfInBounds, Array.size_push]; exact Nat.lt_succ_self _
  · intro s' vs Fx' c' hrow _ hH hS hb' ho hd hfin
    obtain ⟨ps, hps⟩ := hfin
    have e : s' = { s with heap := s'.heap, gens := s'.gens, toks := s'.toks } := by
      cases s'; simp only at ho hd ⊢; subst ho; subst hd; rfl
    have FL : Fr h₀ L s'.heap m := ⟨F.ns.at' fun o e => hH.base _ _ (keepBo _ _ e hL5), fun b o e => hH.base _ _ (h0Bo b o e), F.above⟩
    have hn0 : ∀ a : Addr, (hideAll s.heap [205]).get? a = none → h₀.get? a = none ∧ a ≠ L := fun a ha => by
      refine ⟨?_, fun q => by rw [q, hBL] at ha; cases ha⟩
      cases hq : h₀.get? a with
      | none => rfl
      | some o => rw [kh0 _ _ hq] at ha; cases ha
    rw [e]
    refine hQ' _ _ _ _ vs c' Fx' ps FL (fun q hq => ?_) (RowsOf.mono (OutP.mono fun a h => hn0 a h.1) hrow) hH.fx hb'
    rcases List.mem_cons.mp hq with rfl | hq
    · exact ⟨hps, n5.2⟩
    rcases List.mem_cons.mp hq with rfl | hq
    · have nS : (hideAll s.heap [205]).get? h₂.objs.size = none := Heap.get?_none_of_le (by rw [hideAll_size]; omega)
      exact ⟨hS, (hn0 _ nS).2, (hn0 _ nS).1⟩
    · exact ⟨hH.base _ _ (keepBo _ _ (N q (.tail _ hq)).1 (h5 q hq)), (N q (.tail _ hq)).2⟩
end Mine
end
section -- L4
open PySem PySem.W PyProof.Rows PySem.Calls
set_option Elab.async false
set_option maxRecDepth 100000
set_option maxHeartbeats 12000000
namespace Mine
def tokB (P : Params) : { b : List Stmt // bodyOf (Mine.hd.heap_39 P) 641 = b } := by
  refine ⟨?b, ?h⟩
  case h =>
    conv => lhs; whnf
def tokS (P : Params) : { b : Scope // scopeOf (Mine.hd.heap_39 P) 641 = b } := by
  refine ⟨?b, ?h⟩
  case h =>
    conv => lhs; whnf
def runB (P : Params) : { b : List Stmt // bodyOf (Mine.hd.heap_39 P) 646 = b } := by
  refine ⟨?b, ?h⟩
  case h =>
    conv => lhs; whnf
def runS (P : Params) : { b : Scope // scopeOf (Mine.hd.heap_39 P) 646 = b } := by
  refine ⟨?b, ?h⟩
  case h =>
    conv => lhs; whnf
def dueB (P : Params) : { b : List Stmt // bodyOf (Mine.hd.heap_39 P) 653 = b } := by
  refine ⟨?b, ?h⟩
  case h =>
    conv => lhs; whnf
def dueS (P : Params) : { b : Scope // scopeOf (Mine.hd.heap_39 P) 653 = b } := by
  refine ⟨?b, ?h⟩
  case h =>
    conv => lhs; whnf
abbrev nmT : Str := Str.ofString "_law_tokens"
abbrev nmR : Str := Str.ofString "_law_run"
abbrev nmD : Str := Str.ofString "_law_due"
theorem fn641 (P : Params) : ∃ oc od osl prm dV kV doc pm an ct cd, (Mine.hd.heap_39 P).lookup 641 = some ⟨oc, od, .func (fnX nmT nmT prm (tokB P).1 (tokS P).1 [] dV kV doc pm an cd ct), osl⟩ ∧
    codeIn (Mine.hd.heap_39 P) cd nmT = true ∧ ∀ (s : Shared) (v : Value), BindsTo s (fnX nmT nmT prm (tokB P).1 (tokS P).1 [] dV kV doc pm an cd ct) ⟨[v], []⟩ [(Str.ofString "script", v)] :=
  ⟨_, _, _, _, _, _, _, _, _, _, _, rfl, rfl, fun _ _ => BindsTo.of_eq rfl⟩
theorem fn646 (P : Params) : ∃ oc od osl prm dV kV doc pm an ct cd, (Mine.hd.heap_39 P).lookup 646 = some ⟨oc, od, .func (fnX nmR nmR prm (runB P).1 (runS P).1 [] dV kV doc pm an cd ct), osl⟩ ∧
    codeIn (Mine.hd.heap_39 P) cd nmR = true ∧ ∀ (s : Shared) (v : Value), BindsTo s (fnX nmR nmR prm (runB P).1 (runS P).1 [] dV kV doc pm an cd ct) ⟨[v], []⟩ [(Str.ofString "run", v)] :=
  ⟨_, _, _, _, _, _, _, _, _, _, _, rfl, rfl, fun _ _ => BindsTo.of_eq rfl⟩
theorem fn653 (P : Params) : ∃ oc od osl prm dV kV doc pm an ct cd, (Mine.hd.heap_39 P).lookup 653 = some ⟨oc, od, .func (fnX nmD nmD prm (dueB P).1 (dueS P).1 [] dV kV doc pm an cd ct), osl⟩ ∧
    codeIn (Mine.hd.heap_39 P) cd nmD = true ∧ ∀ (s : Shared) (v : Value), BindsTo s (fnX nmD nmD prm (dueB P).1 (dueS P).1 [] dV kV doc pm an cd ct) ⟨[v], []⟩ [(Str.ofString "tokens", v)] :=
  ⟨_, _, _, _, _, _, _, _, _, _, _, rfl, rfl, fun _ _ => BindsTo.of_eq rfl⟩
end Mine
end
section -- L5
open PySem PySem.W PyProof.Rows PySem.Calls
set_option Elab.async false
set_option maxRecDepth 100000
set_option maxHeartbeats 12000000
namespace Mine
abbrev AB (fr : List Env) : Around := ⟨none, 410, some fr, none, 2100⟩
abbrev envR (P : Params) (Li : Addr) (cd : Value) : Env := envX nmR (runS P).1 Li 646 cd []
local macro_rules | `(tactic| walk_at "eval Name") => `(tactic| (refine wpAny_Name (wpAny_loadName_local (by rfl) (by rfl) (Fr.ns (by k_asm)) (by assumption) ?_) (by decide)))
theorem ne_size {vs : List Value} (h : vs ≠ []) : (vs.toArray.size != (#[] : Array Value).size) = true := by
  cases vs with
  | nil => exact absurd rfl h
  | cons a r => simp
local macro_rules | `(tactic| walk_at "compareOp Eq ref ref") => `(tactic| (refine PySem.SeqAt.eq_list_lengthsAt (frIsL (by k_asm) (by assumption)) (isL (vs := []) (by k_asm) (by k_mem)) (ne_size (by assumption)) (Nat.le_of_ble_eq_true rfl) ?_))
theorem r_0 : ∀ {w : World} {A₀ : Around} {base B : Heap} {outer : List Env} {Li R : Addr} {cd : Value}
   {m mg mb : Str → Option Value} {p : Program} {loose : List Str} {mean : ExcName → Option Value} {s : Shared} {vs : List Value} {n : Nat} {Q : Flow → Shared → Prop},
   (Mine.hd.heap_39 w.params).In B → Top p loose mean mg mb B → Below A₀ base outer B → Fr B Li s.heap m → News B Li s.heap [] → B.get? R = some (listOf vs.toArray n) → m (Str.ofString "run") = some (.ref R) → vs ≠ [] → (∀ h' tk, Fr B Li h' m → Q .next { s with heap := h', toks := tk }) →
   wpAny (model PySem.Challenge.rw_ew0014_01.row.prog w) (AB (envR w.params Li cd :: outer))
     (execs ((runB w.params).1.take 1) (envR w.params Li cd)) Q (fun _ _ => False) s := by
  k_fill
  intro w A₀ base B outer Li R cd m mg mb p loose mean s vs n Q X T Bl F N hR hm hne hQ
  dsimp only [runB, runS, envR, List.take]
  repeat' (first | (k_unfold; (try dsimp only)) | (k_end; wrow_close) | walk1 | (dsimp only; walk1) | (leave1; walk_say "STEP leave1"; try dsimp only))
  exact hQ _ _ (by k_asm)
end Mine
end
section -- L6
open PySem PySem.W PyProof.Rows PySem.Calls
set_option Elab.async false
set_option maxRecDepth 100000
set_option maxHeartbeats 12000000
namespace Mine
/-- the two comprehensions of the helper: element, tests, scope -/
def c1 (P : Params) : { x : PySem.Expr × List PySem.Expr × Scope // (match (runB P).1 with | _ :: .Assign _ (.ListComp e [c] s _) _ :: _ => (e, c.ifs, s) | _ => (.Constant .none 0 ⟨0, 0, 0, 0⟩, [], default)) = x } := by
  refine ⟨?b, ?h⟩
  case h =>
    conv => lhs; whnf
def c2 (P : Params) : { x : PySem.Expr × List PySem.Expr × Scope // (match (runB P).1 with | _ :: _ :: .Assign _ (.Call _ [.ListComp e [c] s _] _ _) _ :: _ => (e, c.ifs, s) | _ => (.Constant .none 0 ⟨0, 0, 0, 0⟩, [], default)) = x } := by
  refine ⟨?b, ?h⟩
  case h =>
    conv => lhs; whnf
local macro_rules | `(tactic| k_inst) => `(tactic| exact inst_tok (TkIn.keeps (by assumption) (Fr.keep (by k_asm))))
local macro_rules | `(tactic| walk_at "eval Name") => `(tactic| (refine wpAny_Name (wpAny_loadName_local (by rfl) (by rfl) (Fr.ns (by k_asm)) (by assumption) ?_) (by decide)))
theorem w_test : ∀ {w : World} {B : Heap} {C : Addr} {env : Env} {m mg mb : Str → Option Value} {p : Program} {loose : List Str} {mean : ExcName → Option Value} {s : Shared} {x : Tk} {A : Around} {Q : Bool → Shared → Prop} {E : Value → Shared → Prop},
   (Mine.hd.heap_39 w.params).In B → Top p loose mean mg mb B → Fr B C s.heap m → m (Str.ofString "token") = some (rf x) → TkIn B x → x.sg.length ≤ 100 →
   (∀ k, Q (x.sg != Str.ofString " ") { s with toks := k }) →
   wpAny (model PySem.Challenge.rw_ew0014_01.row.prog w) A
     (match (c1 w.params).1.2.1 with | c :: _ => isTrue c (compEnv (c1 w.params).1.2.2 C env) (eval c (compEnv (c1 w.params).1.2.2 C env)) | _ => unsupported "") Q E s := by
  k_fill
  intro w B C env m mg mb p loose mean s x A Q E X T F hm hx hlen h1
  dsimp only [c1]
  have N : News B C s.heap [] := News.nil
  repeat' (first | (k_unfold; (try dsimp only)) | (k_end; wrow_close) | walk1 | (dsimp only; walk1) | (leave1; walk_say "STEP leave1"; try dsimp only))
  exact h1 _
theorem w_elt : ∀ {w : World} {B : Heap} {C : Addr} {env : Env} {m mg mb : Str → Option Value} {p : Program} {loose : List Str} {mean : ExcName → Option Value} {s : Shared} {x : Tk} {A : Around} {Q : Value → Shared → Prop} {E : Value → Shared → Prop},
   (Mine.hd.heap_39 w.params).In B → Top p loose mean mg mb B → Fr B C s.heap m → m (Str.ofString "token") = some (rf x) →
   Q (rf x) s →
   wpAny (model PySem.Challenge.rw_ew0014_01.row.prog w) A (eval (c1 w.params).1.1 (compEnv (c1 w.params).1.2.2 C env)) Q E s := by
  k_fill
  intro w B C env m mg mb p loose mean s x A Q E X T F hm h1
  dsimp only [c1]
  have N : News B C s.heap [] := News.nil
  repeat' (first | (k_unfold; (try dsimp only)) | (k_end; wrow_close) | walk1 | (dsimp only; walk1) | (leave1; walk_say "STEP leave1"; try dsimp only))
  exact h1
theorem t_elt : ∀ {w : World} {B : Heap} {C : Addr} {env : Env} {m mg mb : Str → Option Value} {p : Program} {loose : List Str} {mean : ExcName → Option Value} {s : Shared} {x : Tk} {A : Around} {Q : Value → Shared → Prop} {E : Value → Shared → Prop},
   (Mine.hd.heap_39 w.params).In B → Top p loose mean mg mb B → Fr B C s.heap m → m (Str.ofString "token") = some (rf x) → TkIn B x →
   (∀ k, Q (.str x.sg x.tk) { s with toks := k }) →
   wpAny (model PySem.Challenge.rw_ew0014_01.row.prog w) A (eval (c2 w.params).1.1 (compEnv (c2 w.params).1.2.2 C env)) Q E s := by
  k_fill
  intro w B C env m mg mb p loose mean s x A Q E X T F hm hx h1
  dsimp only [c2]
  have N : News B C s.heap [] := News.nil
  repeat' (first | (k_unfold; (try dsimp only)) | (k_end; wrow_close) | walk1 | (dsimp only; walk1) | (leave1; walk_say "STEP leave1"; try dsimp only))
  exact h1 _
end Mine
end
section -- L7
open PySem PySem.W PyProof.Rows PySem.Calls
set_option Elab.async false
set_option maxRecDepth 100000
set_option maxHeartbeats 12000000
namespace Mine
theorem execs_append (env : Env) (l2 : List Stmt) : ∀ l1 : List Stmt, execs (l1 ++ l2) env = execs l1 env >>= fun f => match f with | .next => execs l2 env | f => pure f
  | [] => by rw [List.nil_append, execs_nil, pure_bind]
  | a :: r => by
    rw [List.cons_append, execs_cons, execs_cons, bind_assoc]
    congr 1
    funext f
    cases f with
    | next => exact execs_append env l2 r
    | _ => rfl
theorem any_append {M : Model} {A : Around} {E : Value → Shared → Prop} {s : Shared} {env : Env} {l1 l2 : List Stmt} {Q : Flow → Shared → Prop}
    (h : wpAny M A (execs l1 env) (fun f s' => match f with | .next => wpAny M A (execs l2 env) Q E s' | f => Q f s') E s) : wpAny M A (execs (l1 ++ l2) env) Q E s := by
  rw [execs_append]
  refine wpAny_bind (wpAny_mono h (fun f s' q => ?_) fun _ _ q => q)
  cases f with
  | next => exact q
  | _ => exact wpAny_pure q
theorem any_take {M : Model} {A : Around} {E : Value → Shared → Prop} {s : Shared} {env : Env} {l : List Stmt} (n : Nat) {Q : Flow → Shared → Prop}
    (h : wpAny M A (execs (l.take n) env) (fun f s' => match f with | .next => wpAny M A (execs (l.drop n) env) Q E s' | f => Q f s') E s) : wpAny M A (execs l env) Q E s := by
  rw [← List.take_append_drop n l]
  exact any_append h
theorem noFree1 (P : Params) : ∀ z ∈ (c1 P).1.2.2.names, z.2 ≠ .free := by
  show ∀ z ∈ (_ : List (Str × NameKind)), z.2 ≠ .free
  dsimp only [c1]; decide
theorem noFree2 (P : Params) : ∀ z ∈ (c2 P).1.2.2.names, z.2 ≠ .free := by dsimp only [c2]; decide
theorem noCell1 (P : Params) : ∀ z ∈ (c1 P).1.2.2.names, z.2 ≠ .cell := by dsimp only [c1]; decide
theorem noCell2 (P : Params) : ∀ z ∈ (c2 P).1.2.2.names, z.2 ≠ .cell := by dsimp only [c2]; decide
theorem locs1 (P : Params) : ∀ z ∈ (c1 P).1.2.2.names, z.2 = .local → (c1 P).1.2.2.names.lookup z.1 = some .local := by dsimp only [c1]; decide
theorem locs2 (P : Params) : ∀ z ∈ (c2 P).1.2.2.names, z.2 = .local → (c2 P).1.2.2.names.lookup z.1 = some .local := by dsimp only [c2]; decide
theorem rel1 (P : Params) (C : Addr) (env : Env) : compEnvC (c1 P).1.2.2 [] C env = compEnv (c1 P).1.2.2 C env := rfl
theorem rel2 (P : Params) (C : Addr) (env : Env) : compEnvC (c2 P).1.2.2 [] C env = compEnv (c2 P).1.2.2 C env := rfl
theorem eq_of_paired {l1 l2 : List Value} (h : Paired (fun v y => y = v) l1 l2) : l2 = l1 := by
  induction h with
  | nil => rfl
  | cons e _ ih => rw [e, ih]
theorem list_of_get {vs : List Value} {items : Array Value} (hl : vs.length = items.size) (h : ∀ (j : Nat) (v : Value), vs[j]? = some v → items[j]? = some v) : vs = items.toList := by
  apply List.ext_getElem?
  intro j
  by_cases hj : j < vs.length
  · have e := h j _ (List.getElem?_eq_getElem hj)
    rw [List.getElem?_eq_getElem hj, ← e]
    simp
  · rw [List.getElem?_eq_none (by omega), List.getElem?_eq_none (by simp; omega)]
open Classical in
/-- the test of the words: is the value a token of the run that is no blank? -/
noncomputable def pW (run : List Tk) (v : Value) : Bool := decide (∃ t ∈ run, v = rf t ∧ (t.sg != Str.ofString " ") = true)
theorem tk_same {h : Heap} {t t' : Tk} (x : TkIn h t) (x' : TkIn h t') (e : t.a = t'.a) : t.sg = t'.sg := by
  have h1 := x.1
  rw [e, x'.1] at h1
  have h2 := Option.some.inj h1
  unfold Tk.obj tokObj at h2
  injection h2 with _ _ _ h3
  have h4 := congrArg (fun a : Array (Option Value) => a[2]?) h3
  simp at h4
  exact h4.1.symm
theorem pW_eq {h : Heap} {run : List Tk} (hts : ∀ t ∈ run, TkIn h t) {t : Tk} (ht : t ∈ run) : pW run (rf t) = (t.sg != Str.ofString " ") := by
  unfold pW
  cases hb : (t.sg != Str.ofString " ") with
  | true => exact decide_eq_true ⟨t, ht, rfl, hb⟩
  | false =>
    refine decide_eq_false fun ⟨t', ht', e, hb'⟩ => ?_
    have e' : t.a = t'.a := by injection e
    rw [tk_same (hts t ht) (hts t' ht') e', hb'] at hb
    cases hb
theorem filter_pW {h : Heap} {run : List Tk} (hts : ∀ t ∈ run, TkIn h t) : ∀ l : List Tk, (∀ t ∈ l, t ∈ run) → (l.map rf).filter (pW run) = (l.filter fun t => t.sg != Str.ofString " ").map rf
  | [], _ => rfl
  | a :: r, hl => by
    rw [List.map_cons, List.filter_cons, List.filter_cons, pW_eq hts (hl a (.head _)), filter_pW hts r fun t ht => hl t (.tail _ ht)]
    split <;> simp
section
variable {w : World} {A : Around} {E : Value → Shared → Prop} {s : Shared} {B : Heap} {Li R : Addr} {cd : Value} {m mg mb : Str → Option Value} {pr : Program} {loose : List Str} {mean : ExcName → Option Value} {run : List Tk} {n : Nat}
theorem words_N {px pn pos py spos : Pos} {Q : Flow → Shared → Prop} (hh : A.handled = none) (X : (Mine.hd.heap_39 w.params).In B) (T : Top pr loose mean mg mb B) (F : Fr B Li s.heap m) (hR : B.get? R = some (listOf (run.map rf).toArray n)) (hm : m (Str.ofString "run") = some (.ref R))
    (hts : ∀ t ∈ run, TkIn B t ∧ t.sg.length ≤ 100) (hlen : run.length ≤ 100)
    (hQ : ∀ D c h' tk, Fr B Li h' (fun z => if z = Str.ofString "words" then some (.ref D) else m z) → News B Li h' [(D, listOf ((run.filter fun t => t.sg != Str.ofString " ").map rf).toArray c)] → (∀ b o, s.heap.get? b = some o → b ≠ Li → h'.get? b = some o) → s.heap.get? D = none → Q .next { s with heap := h', toks := tk }) 
    (hsw : swapsWith (.ListComp (c1 w.params).1.1 [⟨.Name (Str.ofString "token") px, .Name (Str.ofString "run") pn, (c1 w.params).1.2.1, 0⟩] (c1 w.params).1.2.2 pos) (some (.Name (Str.ofString "words") py)) spos.line (envR w.params Li cd) = pure true) :
    wpAny (model PySem.Challenge.rw_ew0014_01.row.prog w) A (exec (.Assign [.Name (Str.ofString "words") py] (.ListComp (c1 w.params).1.1 [⟨.Name (Str.ofString "token") px, .Name (Str.ofString "run") pn, (c1 w.params).1.2.1, 0⟩] (c1 w.params).1.2.2 pos) spos) (envR w.params Li cd)) Q E s := by
  have hl : s.heap.IsList R (run.map rf).toArray := frIsL F hR
  have hRlt : R < B.objs.size := Heap.lt_size hR
  have hRs : R < s.heap.objs.size := Nat.lt_trans (Nat.lt_of_lt_of_le hRlt F.above) F.ns.lt
  have hne : @Ne Nat R s.heap.objs.size := Nat.ne_of_lt hRs
  refine wpAny_Assign_ListComp_free (cl := []) (pW run) (fun v y => y = v) hsw (closureFor_none (noFree1 _)) (noCell1 _) rfl (locs1 _) rfl rfl rfl ?_
  refine wpAny_Name (wpAny_loadName_local rfl rfl F.ns hm (wpAny_pyIter_list hl ?_)) (by decide)
  have up : ∀ b o, s.heap.get? b = some o → (s.heap.push { cls := .type "list_iterator", data := .fields #[.ref R, .int 0 0] }).get? b = some o := fun b o e => Heap.get?_push_of_some _ e
  have F1 := F.push { cls := .type "list_iterator", data := .fields #[.ref R, .int 0 0] }
  have hwr : ∀ b o, s.heap.get? b = some o → b ∉ [s.heap.objs.size] := fun b o e hb => absurd (Heap.lt_size e) ((List.mem_singleton.mp hb) ▸ Nat.lt_irrefl _)
  have hBs : ∀ b o, B.get? b = some o → b ∉ [s.heap.objs.size] := fun b o e => hwr b o (F.keep b o e)
  refine ⟨s.heap.objs.size, _, _, (run.map rf).toArray.size, _, _, m, rfl, Walks.list hh _ R hne _, szOk (by simpa using hlen), ⟨⟨_, Heap.get?_push_size _ rfl, rfl, rfl⟩, hl.at fun o e => up _ o e⟩, ?_, ?_, F1.ns, ⟨?_, ?_⟩, ?_⟩
  · intro b hb
    show b < (s.heap.push _).objs.size
    rw [Heap.size_push]
    rcases List.mem_cons.mp hb with rfl | hb
    · exact Nat.lt_succ_self _
    · rw [List.mem_singleton.mp hb]; exact Nat.lt_succ_of_lt hRs
  · intro hb
    exact absurd F.ns.lt ((List.mem_singleton.mp hb) ▸ Nat.lt_irrefl _)
  · intro C i v s₃ m₃ E' hC hP hns hmx hk htk
    have hP' : (run.map rf)[i]? = some v := by simpa using hP
    rw [List.getElem?_map] at hP'
    cases ht : run[i]? with
    | none => rw [ht] at hP'; cases hP'
    | some t =>
      rw [ht] at hP'
      have hv : v = rf t := (Option.some.inj hP').symm
      subst hv
      have hmem := List.mem_of_getElem? ht
      have F3 : Fr B C s₃.heap m₃ := ⟨hns, fun b o e => hk b o (hBs b o e) (F1.keep b o e), Nat.le_trans F1.above (Nat.le_trans (Nat.le_of_lt F1.ns.lt) hC)⟩
      rw [pW_eq (fun t ht => (hts t ht).1) hmem]
      have kp : ∀ k, Keeps s₃ { s₃ with toks := k } := fun k => ⟨s₃.heap, k, rfl, fun _ _ e => e⟩
      have key := w_test (env := envR w.params Li cd) (A := A) (E := E') (Q := fun ok s₄ => ok = (t.sg != Str.ofString " ") ∧ Keeps s₃ s₄) X T F3 hmx (hts t hmem).1 (hts t hmem).2 fun k => ⟨rfl, kp k⟩
      have e : (forIn (c1 w.params).1.2.1 true fun c r => if r = true then do let ok ← isTrue c (compEnvC (c1 w.params).1.2.2 [] C (envR w.params Li cd)) (eval c (compEnvC (c1 w.params).1.2.2 [] C (envR w.params Li cd))); pure (ForInStep.yield ok) else pure (ForInStep.yield r)) =
        (match (c1 w.params).1.2.1 with | c :: _ => isTrue c (compEnv (c1 w.params).1.2.2 C (envR w.params Li cd)) (eval c (compEnv (c1 w.params).1.2.2 C (envR w.params Li cd))) | _ => unsupported "") >>= fun ok => (pure ok : Sem Bool) := by
        rw [rel1]
        dsimp only [c1]
        simp only [List.forIn_cons, List.forIn_nil, if_true, bind_assoc, pure_bind]
      rw [e]
      exact wpAny_bind (wpAny_mono key (fun _ _ x => wpAny_pure x) fun _ _ x => x)
  · intro C i v s₃ m₃ E' hC hP hpv hns hmx hk htk
    have hP' : (run.map rf)[i]? = some v := by simpa using hP
    rw [List.getElem?_map] at hP'
    cases ht : run[i]? with
    | none => rw [ht] at hP'; cases hP'
    | some t =>
      rw [ht] at hP'
      have hv : v = rf t := (Option.some.inj hP').symm
      subst hv
      have F3 : Fr B C s₃.heap m₃ := ⟨hns, fun b o e => hk b o (hBs b o e) (F1.keep b o e), Nat.le_trans F1.above (Nat.le_trans (Nat.le_of_lt F1.ns.lt) hC)⟩
      rw [rel1]
      exact w_elt (env := envR w.params Li cd) (A := A) (E := E') X T F3 hmx ⟨rfl, s₃.heap, s₃.toks, rfl, fun _ _ e => e⟩
  · intro D h' tk ys vs hD hl' hpl hlv hP hF hns hk
    have e1 : vs = run.map rf := by
      have := list_of_get hlv hP
      simpa using this
    rw [e1, filter_pW (fun t ht => (hts t ht).1) run fun _ h => h] at hF
    have e2 := eq_of_paired hF
    obtain ⟨c, hc⟩ := hpl
    have e3 : ys = ((run.filter fun t => t.sg != Str.ofString " ").map rf).toArray := by rw [← e2]
    rw [e3] at hc
    have hDs : s.heap.get? D = none := by
      cases q : s.heap.get? D with
      | none => rfl
      | some o => rw [up _ _ q] at hD; cases hD
    have hLD : @Ne Nat D Li := fun e => by
      obtain ⟨o, _, _, ho, _⟩ := id F1.ns
      rw [e, ho] at hD; cases hD
    have keep : ∀ b o, s.heap.get? b = some o → b ≠ Li → h'.get? b = some o := fun b o e h => hk b o h (hwr b o e) (up b o e)
    refine hQ D c h' tk ⟨hns, fun b o e => keep b o (F.keep b o e) (fun q => absurd (Heap.lt_size e) (by rw [q]; exact Nat.not_lt.mpr F.above)), F.above⟩ (fun q hq => ?_) keep hDs
    rw [List.mem_singleton.mp hq]
    refine ⟨hc, hLD, ?_⟩
    cases q : B.get? D with
    | none => rfl
    | some o => rw [F.keep _ _ q] at hDs; cases hDs
end
end Mine
end
section -- L8
open PySem PySem.W PyProof.Rows PySem.Calls
set_option Elab.async false
set_option maxRecDepth 100000
set_option maxHeartbeats 12000000
namespace Mine
section
variable {w : World} {A : Around} {E : Value → Shared → Prop} {s : Shared} {B : Heap} {Li : Addr} {cd : Value} {m mg mb : Str → Option Value} {pr : Program} {loose : List Str} {mean : ExcName → Option Value} {ws : List Tk} {c : Nat} {D : Addr} {news : List (Addr × Obj)}
theorem strs_paired {h : Heap} : ∀ (ws l : List Tk) {ys : List Value}, (∀ t ∈ ws, TkIn h t) → (∀ t ∈ l, t ∈ ws) → Paired (fun v y => ∃ t ∈ ws, v = rf t ∧ ∃ u, y = .str t.sg u) (l.map rf) ys → StrsAre ys (l.map (·.sg))
  | ws, [], _, _, _, h => by cases h; exact .nil
  | ws, a :: r, _, hts, hl, h => by
    cases h with
    | cons e h =>
      obtain ⟨t, ht, e1, u, rfl⟩ := e
      have e2 : a.a = t.a := by injection e1
      rw [← tk_same (hts a (hl a (.head _))) (hts t ht) e2]
      exact .cons _ _ (strs_paired ws r hts (fun t ht => hl t (.tail _ ht)) h)
theorem texts_N {px pn pos : Pos} {Q : Value → Shared → Prop} (hh : A.handled = none) (X : (Mine.hd.heap_39 w.params).In B) (T : Top pr loose mean mg mb B) (F : Fr B Li s.heap m) (N : News B Li s.heap news) (hD : (D, listOf (ws.map rf).toArray c) ∈ news) (hm : m (Str.ofString "words") = some (.ref D))
    (hts : ∀ t ∈ ws, TkIn B t) (hlen : ws.length ≤ 100)
    (hQ : ∀ D2 ys c2 h' tk, StrsAre ys (ws.map (·.sg)) → Fr B Li h' m → News B Li h' ((D2, listOf ys.toArray c2) :: news) → (∀ p ∈ news, p.1 ≠ D2) → Q (.ref D2) { s with heap := h', toks := tk }) :
    wpAny (model PySem.Challenge.rw_ew0014_01.row.prog w) A (eval (.ListComp (c2 w.params).1.1 [⟨.Name (Str.ofString "token") px, .Name (Str.ofString "words") pn, (c2 w.params).1.2.1, 0⟩] (c2 w.params).1.2.2 pos) (envR w.params Li cd)) Q E s := by
  have hl : s.heap.IsList D (ws.map rf).toArray := isL N hD
  have hDs : D < s.heap.objs.size := Heap.lt_size (N _ hD).1
  have hne : @Ne Nat D s.heap.objs.size := Nat.ne_of_lt hDs
  refine wpAny_ListComp_free (cl := []) (fun _ => true) (fun v y => ∃ t ∈ ws, v = rf t ∧ ∃ u, y = .str t.sg u) (closureFor_none (noFree2 _)) (noCell2 _) rfl (locs2 _) rfl ?_
  refine wpAny_Name (wpAny_loadName_local rfl rfl F.ns hm (wpAny_pyIter_list hl ?_)) (by decide)
  have up : ∀ b o, s.heap.get? b = some o → (s.heap.push { cls := .type "list_iterator", data := .fields #[.ref D, .int 0 0] }).get? b = some o := fun b o e => Heap.get?_push_of_some _ e
  have F1 := F.push { cls := .type "list_iterator", data := .fields #[.ref D, .int 0 0] }
  have hwr : ∀ b o, s.heap.get? b = some o → b ∉ [s.heap.objs.size] := fun b o e hb => absurd (Heap.lt_size e) ((List.mem_singleton.mp hb) ▸ Nat.lt_irrefl _)
  have hBs : ∀ b o, B.get? b = some o → b ∉ [s.heap.objs.size] := fun b o e => hwr b o (F.keep b o e)
  refine ⟨s.heap.objs.size, _, _, (ws.map rf).toArray.size, _, _, rfl, Walks.list hh _ D hne _, szOk (by simpa using hlen), ⟨⟨_, Heap.get?_push_size _ rfl, rfl, rfl⟩, hl.at fun o e => up _ o e⟩, ?_, ⟨?_, ?_⟩, ?_⟩
  · intro b hb
    show b < (s.heap.push _).objs.size
    rw [Heap.size_push]
    rcases List.mem_cons.mp hb with rfl | hb
    · exact Nat.lt_succ_self _
    · rw [List.mem_singleton.mp hb]; exact Nat.lt_succ_of_lt hDs
  · intro C i v s₃ m₃ E' hC hP hns hmx hk htk
    have e : (forIn (c2 w.params).1.2.1 true fun c r => if r = true then do let ok ← isTrue c (compEnvC (c2 w.params).1.2.2 [] C (envR w.params Li cd)) (eval c (compEnvC (c2 w.params).1.2.2 [] C (envR w.params Li cd))); pure (ForInStep.yield ok) else pure (ForInStep.yield r)) = (pure true : Sem Bool) := rfl
    rw [e]
    exact wpAny_pure ⟨rfl, s₃.heap, s₃.toks, rfl, fun _ _ e => e⟩
  · intro C i v s₃ m₃ E' hC hP hpv hns hmx hk htk
    have hP' : (ws.map rf)[i]? = some v := by simpa using hP
    rw [List.getElem?_map] at hP'
    cases ht : ws[i]? with
    | none => rw [ht] at hP'; cases hP'
    | some t =>
      rw [ht] at hP'
      have hv : v = rf t := (Option.some.inj hP').symm
      subst hv
      have hmem := List.mem_of_getElem? ht
      have F3 : Fr B C s₃.heap m₃ := ⟨hns, fun b o e => hk b o (hBs b o e) (F1.keep b o e), Nat.le_trans F1.above (Nat.le_trans (Nat.le_of_lt F1.ns.lt) hC)⟩
      rw [rel2]
      exact t_elt (env := envR w.params Li cd) (A := A) (E := E') X T F3 hmx (hts t hmem) fun k => ⟨⟨t, hmem, rfl, _, rfl⟩, s₃.heap, k, rfl, fun _ _ e => e⟩
  · intro D2 h' tk ys vs hD2 hl' hpl hlv hP hF hk
    have e1 : vs = ws.map rf := by
      have := list_of_get hlv hP
      simpa using this
    rw [e1, List.filter_eq_self.mpr fun _ _ => rfl] at hF
    obtain ⟨c2, hc⟩ := hpl
    have hDs : s.heap.get? D2 = none := by
      cases q : s.heap.get? D2 with
      | none => rfl
      | some o => rw [up _ _ q] at hD2; cases hD2
    have keep : ∀ b o, s.heap.get? b = some o → h'.get? b = some o := fun b o e => hk b o (hwr b o e) (up b o e)
    refine hQ D2 ys.toList c2 h' tk (strs_paired ws ws hts (fun _ h => h) hF) (F.keeps keep) (fun q hq => ?_) fun p hp e => by have z := (N p hp).1; rw [e, hDs] at z; cases z
    rcases List.mem_cons.mp hq with rfl | hq
    · refine ⟨hc, fun e => ?_, ?_⟩
      · obtain ⟨o, _, _, ho, _⟩ := id F.ns
        have e' : D2 = Li := e
        rw [e', ho] at hDs; cases hDs
      · cases q : B.get? D2 with
        | none => rfl
        | some o => rw [F.keep _ _ q] at hDs; cases hDs
    · exact ⟨keep _ _ (N q hq).1, (N q hq).2⟩
end
end Mine
end
section -- L9
open PySem PySem.W PyProof.Rows PySem.Calls
set_option Elab.async false
set_option maxRecDepth 100000
set_option maxHeartbeats 12000000
namespace Mine
abbrev tupO (vs : Array Value) : Obj := { cls := .type "tuple", data := .seq vs }
theorem News.sub {h₀ h : Heap} {L : Addr} {l l' : List (Addr × Obj)} (N : News h₀ L h l) (hs : ∀ p ∈ l', p ∈ l) : News h₀ L h l' := fun p hp => N p (hs p hp)
theorem News.pick {h₀ h : Heap} {L : Addr} {l l' : List (Addr × Obj)} {a : Addr × Obj} (N : News h₀ L h l) (hs : a ∈ l) (r : News h₀ L h l') : News h₀ L h (a :: l') := fun p hp => by
  rcases List.mem_cons.mp hp with rfl | hp
  · exact N _ hs
  · exact r p hp
section
variable {prog : Program} {w : World} {A : Around} {E : Value → Shared → Prop} {s : Shared} {B : Heap} {Li R : Addr} {m : Str → Option Value} {vs : List Value} {y : Value} {n : Nat} {value slice : PySem.Expr} {t : Tok} {Q : Value → Shared → Prop}
theorem fr_firstS (F : Fr B Li s.heap m) (hR : B.get? R = some (listOf vs.toArray n)) (hx : vs.head? = some y) (h : Q y s)
    (hs : subscripted slice false (.ref R) (.int 0 t) = operate [.ref R, .int 0 t] (getItem (.ref R) (.int 0 t)) := by with_unfolding_all rfl) : wpAny (model prog w) A (subscriptTail value slice (.ref R) (.int 0 t)) Q E s := by
  have hl := frIsL F hR
  refine tail_any hl.typeIs slot_list_getitem.lookup (wpAny_getItem_list hl (by decide) (by decide) ?_ h) hs
  cases vs with
  | nil => cases hx
  | cons z r => cases hx; simp
theorem fr_lastS (F : Fr B Li s.heap m) (hR : B.get? R = some (listOf vs.toArray n)) (hx : vs.getLast? = some y) (h : Q y s)
    (hs : subscripted slice false (.ref R) (.int (-1) t) = operate [.ref R, .int (-1) t] (getItem (.ref R) (.int (-1) t)) := by with_unfolding_all rfl) : wpAny (model prog w) A (subscriptTail value slice (.ref R) (.int (-1) t)) Q E s := by
  have hl := frIsL F hR
  have h1 : vs ≠ [] := fun q => by rw [q] at hx; cases hx
  have h3 : 1 ≤ vs.length := List.length_pos_iff.mpr h1
  refine tail_any hl.typeIs slot_list_getitem.lookup (wpAny_getItem_list_neg hl (by decide) (by simp; omega) (by decide) ?_ h) hs
  have e : ((-1 : Int) + (vs.toArray.size : Int)).toNat = vs.length - 1 := by simp; omega
  rw [e, List.getElem?_toArray, ← List.getLast?_eq_getElem?]
  exact hx
theorem eq_wordT {x : Tk} {t u : Tok} {Q : Value → Shared → Prop} (hx : Word x) (h : Q (.bool false) s) : wpAny (model prog w) A (compareOp .Eq (.str x.sg t) (.str (Str.ofString " ") u)) Q E s := by
  refine PyProof.Rows.eq_str ?_
  have z := word_ne hx
  have : (x.sg == Str.ofString " ") = false := by
    cases q : (x.sg == Str.ofString " ") with
    | false => rfl
    | true => rw [bne, q] at z; cases z
  rw [this]; exact h
theorem eq_blankT {x : Tk} {t u : Tok} {Q : Value → Shared → Prop} (hx : Blank x) (h : Q (.bool true) s) : wpAny (model prog w) A (compareOp .Eq (.str x.sg t) (.str (Str.ofString " ") u)) Q E s := by
  refine PyProof.Rows.eq_str ?_
  rw [hx.sg, beq_self_eq_true]; exact h
theorem join_texts {D : Addr} {ys : List Value} {tx : List Str} {c : Nat} {news : List (Addr × Obj)} {t : Tok} (N : News B Li s.heap news) (hm : (D, listOf ys.toArray c) ∈ news) (hi : StrsAre ys tx) (hw : (tx.map (·.length)).sum + tx.length ≤ 1048576)
    (h : ∀ t' k, Q (.str (Txt.join (Str.ofString " ") tx) t') { s with toks := k }) : wpAny (model prog w) A (call (.builtin "str.join") [.str (Str.ofString " ") t, .ref D]) Q E s :=
  join_listW (isL N hm) (by simpa using hi) (by decide) hw h
end
local macro_rules | `(tactic| k_inst) => `(tactic| exact inst_tok (TkIn.keeps (by assumption) (Fr.keep (by k_asm))))
local macro_rules | `(tactic| walk_at "eval Name") => `(tactic| (refine wpAny_Name (wpAny_loadName_local (by rfl) (by rfl) (Fr.ns (by k_asm)) (by assumption) ?_) (by decide)))
local macro_rules | `(tactic| walk_at "eval ListComp") => `(tactic| ((k_dflt (refine' texts_N ?hh ?X ?T ?F ?N ?D ?m ?ts ?len ?_; (case hh => exact rfl); (case X => assumption); (case T => assumption); (case F => k_asm); (case N => k_asm); (case D => k_mem); (case m => assumption); (case ts => assumption); (case len => assumption); k_whole)); intro D2' ys' c2' h' tk' hy' F' N' l1; (try dsimp only)))
local macro_rules | `(tactic| walk_at "call builtin:str.join") => `(tactic| (refine join_texts (by k_asm) (by k_mem) (by assumption) (by assumption) ?_; intro _ _; (try dsimp only)))
local macro_rules | `(tactic| walk_at "subscriptTail") => `(tactic| ((with_reducible show wpAny _ _ (subscriptTail _ _ (Value.ref _) (Value.int 0 _)) _ _ _); k_dflt (refine' fr_firstS ?k1 ?k2 ?k3 ?_; (case k1 => k_asm); (case k2 => assumption); (case k3 => assumption); k_whole)))
local macro_rules | `(tactic| walk_at "subscriptTail") => `(tactic| ((with_reducible show wpAny _ _ (subscriptTail _ _ (Value.ref _) (Value.int (-1) _)) _ _ _); k_dflt (refine' tl_lastG ?k1 ?k2 ?k3 ?_; (case k1 => k_asm); (case k2 => k_mem); (case k3 => assumption); k_whole)))
local macro_rules | `(tactic| walk_at "subscriptTail") => `(tactic| ((with_reducible show wpAny _ _ (subscriptTail _ _ (Value.ref _) (Value.int (-1) _)) _ _ _); k_dflt (refine' fr_lastS ?k1 ?k2 ?k3 ?_; (case k1 => k_asm); (case k2 => assumption); (case k3 => assumption); k_whole)))
local macro_rules | `(tactic| walk_at "compareOp Eq str str") => `(tactic| first | (refine eq_wordT (by assumption) ?_; (try dsimp only)) | (refine eq_blankT (by assumption) ?_; (try dsimp only)))
theorem eq_empty {prog : Program} {w : World} {A : Around} {E : Value → Shared → Prop} {s : Shared} {B : Heap} {Li R D : Addr} {m : Str → Option Value} {n c : Nat} {Q : Value → Shared → Prop} {news : List (Addr × Obj)} (F : Fr B Li s.heap m) (N : News B Li s.heap news) (hR : B.get? R = some (listOf (([] : List Value)).toArray n)) (hm : (D, listOf #[] c) ∈ news) (hA : A.units < cLine)
    (h : Q (.bool true) s) : wpAny (model prog w) A (compareOp .Eq (.ref R) (.ref D)) Q E s :=
  PySem.SeqAt.eq_listAt (e := fun _ => true) (frIsL F hR) (isL (vs := []) N hm) rfl hA (fun j h1 _ => absurd h1 (Nat.not_lt_zero j)) h
local macro_rules | `(tactic| walk_at "compareOp Eq ref ref") => `(tactic| (refine eq_empty (by k_asm) (by k_asm) (by assumption) (by k_mem) (Nat.le_of_ble_eq_true rfl) ?_; (try dsimp only)))
theorem r_2a : ∀ {w : World} {A₀ : Around} {base B : Heap} {outer : List Env} {Li R D : Addr} {cd : Value} {run ws : List Tk} {fst x : Tk}
   {m mg mb : Str → Option Value} {p : Program} {loose : List Str} {mean : ExcName → Option Value} {s : Shared} {n c : Nat} {Q : Flow → Shared → Prop},
   (Mine.hd.heap_39 w.params).In B → Top p loose mean mg mb B → Below A₀ base outer B → Fr B Li s.heap m → News B Li s.heap [(D, listOf (ws.map rf).toArray c)] → B.get? R = some (listOf (run.map rf).toArray n) → m (Str.ofString "run") = some (.ref R) → m (Str.ofString "words") = some (.ref D) →
   (∀ t ∈ ws, TkIn B t) → ws.length ≤ 100 → ((ws.map (·.sg)).map (·.length)).sum + (ws.map (·.sg)).length ≤ 1048576 → (run.map rf).head? = some (rf fst) → (run.map rf).getLast? = some (rf x) → (ws.map rf).getLast? = some (rf x) → TkIn B fst → TkIn B x → Word x →
   (∀ S T h' tk t1 t2 c' m', Fr B Li h' m' → News B Li h' [(S, listOf #[.ref T] c'), (T, tupO #[.int fst.st fst.ts, .int x.en x.te, .str (Txt.join (Str.ofString " ") (ws.map (·.sg))) t1, .str (Txt.join (Str.ofString " ") (ws.map (·.sg))) t2])] → Q (.ret (.ref S)) { s with heap := h', toks := tk }) →
   wpAny (model PySem.Challenge.rw_ew0014_01.row.prog w) (AB (envR w.params Li cd :: outer))
     (execs ((runB w.params).1.drop 2) (envR w.params Li cd)) Q (fun _ _ => False) s := by
  k_fill
  intro w A₀ base B outer Li R D cd run ws fst x m mg mb p loose mean s n c Q X T Bl F N hR hm1 hm2 hts hlen hsum hfst hlast hlast2 hfi hxi hw hQ
  dsimp only [runB, runS, envR, List.drop]
  repeat' (first | (k_unfold; (try dsimp only)) | (k_end; wrow_close) | walk1 | (dsimp only; walk1) | (leave1; walk_say "STEP leave1"; try dsimp only))
  dsimp only
  refine hQ _ _ _ _ _ _ _ _ (by k_asm) (News.pick (by k_asm) (by with_unfolding_all k_mem) (News.pick (by k_asm) (by with_unfolding_all k_mem) News.nil))
theorem r_2b : ∀ {w : World} {A₀ : Around} {base B : Heap} {outer : List Env} {Li R D : Addr} {cd : Value} {run ws : List Tk} {fst x b : Tk}
   {m mg mb : Str → Option Value} {p : Program} {loose : List Str} {mean : ExcName → Option Value} {s : Shared} {n c : Nat} {Q : Flow → Shared → Prop},
   (Mine.hd.heap_39 w.params).In B → Top p loose mean mg mb B → Below A₀ base outer B → Fr B Li s.heap m → News B Li s.heap [(D, listOf (ws.map rf).toArray c)] → B.get? R = some (listOf (run.map rf).toArray n) → m (Str.ofString "run") = some (.ref R) → m (Str.ofString "words") = some (.ref D) →
   (∀ t ∈ ws, TkIn B t) → ws.length ≤ 100 → ((ws.map (·.sg)).map (·.length)).sum + (ws.map (·.sg)).length ≤ 1048576 → (run.map rf).head? = some (rf fst) → (run.map rf).getLast? = some (rf b) → (ws.map rf).getLast? = some (rf x) → TkIn B fst → TkIn B x → TkIn B b → Blank b →
   (∀ S T T2 h' tk t1 t2 t3 c' m', Fr B Li h' m' → News B Li h' [(S, listOf #[.ref T, .ref T2] c'), (T, tupO #[.int fst.st fst.ts, .int x.en x.te, .str (Txt.join (Str.ofString " ") (ws.map (·.sg))) t1, .str (Txt.join (Str.ofString " ") (ws.map (·.sg))) t2]), (T2, tupO #[.int b.st b.ts, .int b.en b.te, .str (Str.ofString " ") t3, rf b])] → Q (.ret (.ref S)) { s with heap := h', toks := tk }) →
   wpAny (model PySem.Challenge.rw_ew0014_01.row.prog w) (AB (envR w.params Li cd :: outer))
     (execs ((runB w.params).1.drop 2) (envR w.params Li cd)) Q (fun _ _ => False) s := by
  k_fill
  intro w A₀ base B outer Li R D cd run ws fst x b m mg mb p loose mean s n c Q X T Bl F N hR hm1 hm2 hts hlen hsum hfst hlast hlast2 hfi hxi hbi hb hQ
  dsimp only [runB, runS, envR, List.drop]
  repeat' (first | (k_unfold; (try dsimp only)) | (k_end; wrow_close) | walk1 | (dsimp only; walk1) | (leave1; walk_say "STEP leave1"; try dsimp only))
  dsimp only
  refine hQ _ _ _ _ _ _ _ _ _ _ (by k_asm) (News.pick (by k_asm) (by with_unfolding_all k_mem) (News.pick (by k_asm) (by with_unfolding_all k_mem) (News.pick (by k_asm) (by with_unfolding_all k_mem) News.nil)))
/-- an empty run -/
theorem r_nil : ∀ {w : World} {A₀ : Around} {base B : Heap} {outer : List Env} {Li R : Addr} {cd : Value}
   {m mg mb : Str → Option Value} {p : Program} {loose : List Str} {mean : ExcName → Option Value} {s : Shared} {n : Nat} {Q : Flow → Shared → Prop},
   (Mine.hd.heap_39 w.params).In B → Top p loose mean mg mb B → Below A₀ base outer B → Fr B Li s.heap m → News B Li s.heap [] → B.get? R = some (listOf (([] : List Value)).toArray n) → m (Str.ofString "run") = some (.ref R) →
   (∀ S h' tk m', Fr B Li h' m' → News B Li h' [(S, listOf #[] 0)] → Q (.ret (.ref S)) { s with heap := h', toks := tk }) →
   wpAny (model PySem.Challenge.rw_ew0014_01.row.prog w) (AB (envR w.params Li cd :: outer))
     (execs (runB w.params).1 (envR w.params Li cd)) Q (fun _ _ => False) s := by
  k_fill
  intro w A₀ base B outer Li R cd m mg mb p loose mean s n Q X T Bl F N hR hm hQ
  dsimp only [runB, runS, envR]
  repeat' (first | (k_unfold; (try dsimp only)) | (k_end; wrow_close) | walk1 | (dsimp only; walk1) | (leave1; walk_say "STEP leave1"; try dsimp only))
  exact hQ _ _ _ _ (by k_asm) (News.pick (by k_asm) (by k_mem) News.nil)
end Mine
end
section -- L10
open PySem PySem.W PyProof.Rows PySem.Calls
set_option Elab.async false
set_option maxRecDepth 100000
set_option maxHeartbeats 12000000
namespace Mine
/-- the row that the law's helpers make of an output -/
def RowP : OutS → Value → List (Addr × Obj) → Prop
  | .old t, v, nw => ∃ T a b c, v = .ref T ∧ nw = [(T, tupO #[.int t.st a, .int t.en b, .str t.sg c, rf t])]
  | .new st en txt, v, nw => ∃ T a b c d, v = .ref T ∧ nw = [(T, tupO #[.int st a, .int en b, .str txt c, .str txt d])]
theorem run_shape (P : Params) : ∃ px pn pos py spos, (runB P).1.drop 1 = .Assign [.Name (Str.ofString "words") py] (.ListComp (c1 P).1.1 [⟨.Name (Str.ofString "token") px, .Name (Str.ofString "run") pn, (c1 P).1.2.1, 0⟩] (c1 P).1.2.2 pos) spos :: (runB P).1.drop 2 ∧
    ∀ Li cd, swapsWith (.ListComp (c1 P).1.1 [⟨.Name (Str.ofString "token") px, .Name (Str.ofString "run") pn, (c1 P).1.2.1, 0⟩] (c1 P).1.2.2 pos) (some (.Name (Str.ofString "words") py)) spos.line (envR P Li cd) = pure true := ⟨_, _, _, _, _, rfl, fun _ _ => rfl⟩
theorem sg_len {t : Tk} (h : Word t ∨ Blank t) : t.sg.length ≤ 100 := by
  rcases h with h | h
  · exact h.len
  · rw [h.sg]; decide
theorem run_body {w : World} {A₀ : Around} {base B : Heap} {outer : List Env} {Li R : Addr} {cd : Value} {m mg mb : Str → Option Value} {p : Program} {loose : List Str} {mean : ExcName → Option Value} {s : Shared} {run : List Tk} {oi : List OutS} {n : Nat} {Q : Flow → Shared → Prop}
    (hrun : RunIs run oi) (X : (Mine.hd.heap_39 w.params).In B) (T : Top p loose mean mg mb B) (Bl : Below A₀ base outer B) (F : Fr B Li s.heap m) (hR : B.get? R = some (listOf (run.map rf).toArray n)) (hm : m (Str.ofString "run") = some (.ref R))
    (hts : ∀ t ∈ run, TkIn B t) (hlen : run.length ≤ 100)
    (hQ : ∀ S h' tk m' vs c Fx, Fr B Li h' m' → News B Li h' ((S, listOf vs.toArray c) :: Fx) → RowsOf RowP Fx oi vs → Q (.ret (.ref S)) { s with heap := h', toks := tk }) :
    wpAny (model PySem.Challenge.rw_ew0014_01.row.prog w) (AB (envR w.params Li cd :: outer)) (execs (runB w.params).1 (envR w.params Li cd)) Q (fun _ _ => False) s := by
  cases hrun with
  | nil => exact r_nil X T Bl F News.nil hR hm fun S h' tk m' F' N' => hQ S h' tk m' [] 0 [] F' N' trivial
  | mk ws0 tr fst x hw hfst htr hall hlen0 hkey =>
    generalize hrun : (ws0 ++ [x]) ++ tr = run at *
    have hne : run.map rf ≠ [] := by rw [← hrun]; simp
    refine any_take 1 (r_0 X T Bl F News.nil hR hm hne fun h1 tk1 F1 => ?_)
    obtain ⟨px, pn, pos, py, spos, e, hsw⟩ := run_shape w.params
    dsimp only
    rw [e]
    refine wpAny_execs_cons (words_N rfl X T F1 hR hm (fun t ht => ⟨hts t ht, sg_len (hall t ht)⟩) hlen ?_ (hsw _ _))
    intro D c h2 tk2 F2 N2 _ _
    dsimp only
    have hfil : run.filter (fun t => t.sg != Str.ofString " ") = (ws0 ++ [x]).filter fun t => t.sg != Str.ofString " " := by
      rw [← hrun, List.filter_append]
      rcases htr with rfl | ⟨b, rfl, hb⟩
      · simp
      · rw [List.filter_cons, blank_eq hb]; simp
    have htxt : Txt.join (Str.ofString " ") ((run.filter fun t => t.sg != Str.ofString " ").map (·.sg)) = textOf (ws0 ++ [x]) := by rw [hfil]; rfl
    have hws : ∀ t ∈ run.filter (fun t => t.sg != Str.ofString " "), t ∈ run := fun t ht => (List.mem_filter.mp ht).1
    have hwl : (run.filter fun t => t.sg != Str.ofString " ").length ≤ 100 := Nat.le_trans (List.length_filter_le ..) hlen
    have hx : x ∈ run := by rw [← hrun]; simp
    have hfm : fst ∈ run := by
      rw [← hrun]
      exact List.mem_append_left _ (List.mem_of_mem_head? (by rw [hfst]; rfl))
    have hsum : (((run.filter fun t => t.sg != Str.ofString " ").map (·.sg)).map (·.length)).sum + ((run.filter fun t => t.sg != Str.ofString " ").map (·.sg)).length ≤ 1048576 := by
      have z := StrLaws.sumLen_le (B := 100) ((run.filter fun t => t.sg != Str.ofString " ").map (·.sg)) (fun y hy => by
        obtain ⟨t, ht, rfl⟩ := List.mem_map.mp hy
        exact sg_len (hall t (hws t ht)))
      simp only [List.length_map] at z ⊢
      omega
    have hhead : (run.map rf).head? = some (rf fst) := by
      rw [List.head?_map, ← hrun, List.head?_append, hfst]; rfl
    have hlw : ((run.filter fun t => t.sg != Str.ofString " ").map rf).getLast? = some (rf x) := by
      rw [hfil, List.filter_append, List.filter_cons, word_ne hw, if_pos rfl, List.filter_nil, List.getLast?_map, List.getLast?_concat]
      rfl
    rcases htr with rfl | ⟨b, rfl, hb⟩
    · have hl : (run.map rf).getLast? = some (rf x) := by
        rw [← hrun, List.append_nil, List.getLast?_map, List.getLast?_concat]; rfl
      refine r_2a X T Bl F2 N2 hR (by rw [if_neg (by decide)]; exact hm) (if_pos rfl) (fun t ht => hts t (hws t ht)) hwl hsum hhead hl hlw (hts _ hfm) (hts _ hx) hw ?_
      intro S T' h' tk t1 t2 c' m' F' N'
      rw [htxt] at N'
      exact hQ S h' tk m' [.ref T'] c' [_] F' N' ⟨⟨_, ⟨T', _, _, _, _, rfl, rfl⟩, fun p hp => hp⟩, trivial⟩
    · have hl : (run.map rf).getLast? = some (rf b) := by
        rw [← hrun, List.getLast?_map, List.getLast?_concat]; rfl
      have hbm : b ∈ run := by rw [← hrun]; simp
      refine r_2b X T Bl F2 N2 hR (by rw [if_neg (by decide)]; exact hm) (if_pos rfl) (fun t ht => hts t (hws t ht)) hwl hsum hhead hl hlw (hts _ hfm) (hts _ hx) (hts _ hbm) hb ?_
      intro S T' T2 h' tk t1 t2 t3 c' m' F' N'
      rw [htxt, ← hb.sg] at N'
      exact hQ S h' tk m' [.ref T', .ref T2] c' [_, _] F' N' ⟨⟨_, ⟨T', _, _, _, _, rfl, rfl⟩, fun p hp => by rw [List.mem_singleton.mp hp]; exact .head _⟩, ⟨_, ⟨T2, _, _, _, rfl, rfl⟩, fun p hp => by rw [List.mem_singleton.mp hp]; exact .tail _ (.head _)⟩, trivial⟩
theorem run_call {w : World} {A₀ A : Around} {base h₀ : Heap} {outer : List Env} {env : Env} {L : Addr} {m mg mb : Str → Option Value} {pr : Program} {loose : List Str} {mean : ExcName → Option Value} {s : Shared} {run : List Tk} {oi : List OutS} {R : Addr} {n : Nat} {Q : Value → Shared → Prop} {E : Value → Shared → Prop}
    (hrun : RunIs run oi) (X : (Mine.hd.heap_39 w.params).In h₀) (T : Top pr loose mean mg mb h₀) (Bl : Below A₀ base outer h₀) (F : Fr h₀ L s.heap m)
    (hA : A.frames = some (env :: outer)) (hf : env.frame = some L) (hke : env.scope.kind = .function) (hh : A.handled = none) (hd : A.depth ≤ 409) (hu : A.units ≤ 2090)
    (hR : s.heap.get? R = some (listOf (run.map rf).toArray n)) (hts : ∀ t ∈ run, TkIn s.heap t) (hlen : run.length ≤ 100)
    (hQ : ∀ S h' tk vs c Fx, (∀ b o, s.heap.get? b = some o → h'.get? b = some o) → RowsOf RowP Fx oi vs → (∀ q ∈ (S, listOf vs.toArray c) :: Fx, h'.get? q.1 = some q.2 ∧ s.heap.get? q.1 = none) → Q (.ref S) { s with heap := h', toks := tk }) :
    wpAny (model PySem.Challenge.rw_ew0014_01.row.prog w) A (call (.ref 646) [.ref R]) Q E s := by
  obtain ⟨oc, od, osl, prm, dV, kV, doc, pm, an, ct, cd, ho, hci, hbind⟩ := fn646 w.params
  refine wpAny_call (defEnterF (sub := []) Bl F X News.nil T hA hf hke ho hci (Nat.lt_of_le_of_lt hd (by decide)) (hbind s (.ref R)) ?_ ?_ ?_ rfl rfl rfl)
  · intro y hy
    rw [List.mem_singleton.mp hy]
    dsimp only [runS]; decide
  · intro g L' h₁ up dn hsz F1 N1 BG XG TG
    have up' : ∀ b o, s.heap.get? b = some o → g.get? b = some o := fun b o e => up b o e (by simp)
    have lA : LessA (A.deeper (envR w.params L' cd)) (AB (envR w.params L' cd :: env :: outer)) := ⟨hh, by show A.depth + 1 ≤ 410; omega, .inr (by show A.frames.map _ = _; rw [hA]; rfl), .inl rfl, by show A.units + 3 ≤ 2100; omega⟩
    refine wpLess (A' := A.deeper (envR w.params L' cd)) lA.hh lA.hd lA.hf lA.hg lA.hu ?_
    refine run_body hrun XG TG BG F1 (up' _ _ hR) rfl (fun t ht => (hts t ht).keeps up') hlen ?_
    intro S h' tk m' vs c Fx F' N' rows
    refine hQ S h' tk vs c Fx (fun b o e => F'.keep b o (up' b o e)) rows fun q hq => ⟨(N' q hq).1, ?_⟩
    have z := (N' q hq).2.2
    cases e : s.heap.get? q.1 with
    | none => rfl
    | some o => rw [up' _ _ e] at z; cases z
  · dsimp only [runS]; decide
end Mine
end
section -- L11
open PySem PySem.W PyProof.Rows PySem.Calls
set_option Elab.async false
set_option maxRecDepth 100000
set_option maxHeartbeats 12000000
namespace Mine
abbrev envD (P : Params) (Ld : Addr) (cd : Value) : Env := envX nmD (dueS P).1 Ld 653 cd []
def dueL (P : Params) : { b : List Stmt // (match (dueB P).1 with | _ :: .For _ _ b _ _ :: _ => b | _ => []) = b } := by
  refine ⟨?b, ?h⟩
  case h =>
    conv => lhs; whnf
theorem due_shape (P : Params) : ∃ px pn pos, (dueB P).1.drop 1 = .For (.Name (Str.ofString "token") px) (.Name (Str.ofString "tokens") pn) (dueL P).1 [] pos :: (dueB P).1.drop 2 := ⟨_, _, _, rfl⟩
theorem rows_len {O : Type} {Out : O → Value → List (Addr × Obj) → Prop} {Fx : List (Addr × Obj)} : ∀ {os : List O} {vs : List Value}, RowsOf Out Fx os vs → vs.length = os.length
  | [], [], _ => rfl
  | _ :: _, _ :: _, ⟨_, r⟩ => by rw [List.length_cons, List.length_cons, rows_len r]
theorem run_len {run : List Tk} {oi : List OutS} (h : RunIs run oi) : oi.length ≤ 2 := by
  cases h with
  | nil => decide
  | mk ws0 tr fst x _ _ htr =>
    rcases htr with rfl | ⟨b, rfl, _⟩
    · simp
    · simp
section
variable {w : World} {A₀ : Around} {base B : Heap} {outer : List Env} {L : Addr} {m mg mb : Str → Option Value} {pr : Program} {loose : List Str} {mean : ExcName → Option Value} {s : Shared} {news : List (Addr × Obj)} {E : Value → Shared → Prop}
theorem tl_add {prog : Program} {A : Around} {Q : Value → Shared → Prop} {l b : Addr} {vs ws : List Value} {n1 n2 : Nat} (F : Fr B L s.heap m) (N : News B L s.heap news) (h1 : (l, listOf vs.toArray n1) ∈ news) (h2 : (b, listOf ws.toArray n2) ∈ news) (hsz : vs.length + ws.length ≤ 900)
    (h : ∀ D h', Fr B L h' m → News B L h' ((D, listOf (vs ++ ws).toArray 0) :: news) → (∀ p ∈ news, p.1 < D) → Q (.ref D) { s with heap := h' }) : wpAny (model prog w) A (binaryOp .Add (.ref l) (.ref b)) Q E s :=
  add_lists (hsz := by rw [sizeLine_eq]; omega) F N (isL N h1) (isL N h2) fun h' F' N' => h _ h' F' N' fun p hp => Heap.lt_size (N p hp).1
theorem run_callN {env : Env} {run : List Tk} {oi : List OutS} {R : Addr} {n : Nat} {Q : Value → Shared → Prop}
    (hrun : RunIs run oi) (X : (Mine.hd.heap_39 w.params).In B) (T : Top pr loose mean mg mb B) (Bl : Below A₀ base outer B) (F : Fr B L s.heap m) (N : News B L s.heap news)
    (hf : env.frame = some L) (hke : env.scope.kind = .function) (hR : (R, listOf (run.map rf).toArray n) ∈ news) (hts : ∀ t ∈ run, TkIn B t) (hlen : run.length ≤ 100)
    (hQ : ∀ S h' tk vs c Fx, vs.length ≤ 10 → RowsOf RowP Fx oi vs → Fr B L h' m → News B L h' ((S, listOf vs.toArray c) :: (news ++ Fx)) → (∀ p ∈ news, p.1 ≠ S) → Q (.ref S) { s with heap := h', toks := tk }) :
    wpAny (model PySem.Challenge.rw_ew0014_01.row.prog w) (AA (env :: outer) none) (call (.ref 646) [.ref R]) Q E s := by
  refine run_call hrun X T Bl F rfl hf hke rfl (Nat.le_of_ble_eq_true rfl) (Nat.le_of_ble_eq_true rfl) (N _ hR).1 (fun t ht => (hts t ht).keeps F.keep) hlen ?_
  intro S h' tk vs c Fx up rows new
  have fresh : ∀ q ∈ (S, listOf vs.toArray c) :: Fx, h'.get? q.1 = some q.2 ∧ q.1 ≠ L ∧ B.get? q.1 = none := fun q hq => by
    obtain ⟨h1, h2⟩ := new q hq
    refine ⟨h1, fun e => ?_, ?_⟩
    · obtain ⟨o, _, _, ho, _⟩ := id F.ns
      rw [e, ho] at h2; cases h2
    · cases e : B.get? q.1 with
      | none => rfl
      | some o => rw [F.keep _ _ e] at h2; cases h2
  refine hQ S h' tk vs c Fx (by rw [rows_len rows]; exact Nat.le_trans (run_len hrun) (by decide)) rows (F.keeps up) (fun q hq => ?_) fun p hp e => ?_
  · rcases List.mem_cons.mp hq with rfl | hq
    · exact fresh _ (.head _)
    · rcases List.mem_append.mp hq with hq | hq
      · exact ⟨up _ _ (N q hq).1, (N q hq).2⟩
      · exact fresh q (.tail _ hq)
  · have z := (N p hp).1
    rw [e, (new _ (.head _)).2] at z; cases z
end
theorem eqL_empty {prog : Program} {w : World} {A : Around} {E : Value → Shared → Prop} {s : Shared} {B : Heap} {Li R D : Addr} {n c : Nat} {Q : Value → Shared → Prop} {news : List (Addr × Obj)} (N : News B Li s.heap news) (hR : (R, listOf #[] n) ∈ news) (hm : (D, listOf #[] c) ∈ news) (hA : A.units < cLine)
    (h : Q (.bool true) s) : wpAny (model prog w) A (compareOp .Eq (.ref R) (.ref D)) Q E s :=
  PySem.SeqAt.eq_listAt (e := fun _ => true) (isL (vs := []) N hR) (isL (vs := []) N hm) rfl hA (fun j h1 _ => absurd h1 (Nat.not_lt_zero j)) h
local macro_rules | `(tactic| k_inst) => `(tactic| exact inst_tok (TkIn.keeps (by assumption) (Fr.keep (by k_asm))))
local macro_rules | `(tactic| walk_at "eval Name") => `(tactic| (refine wpAny_Name (wpAny_loadName_local (by rfl) (by rfl) (Fr.ns (by k_asm)) (by assumption) ?_) (by decide)))
local macro_rules | `(tactic| walk_at "compareOp Eq str str") => `(tactic| first | (refine eq_wordT (by assumption) ?_; (try dsimp only)) | (refine eq_blankT (by assumption) ?_; (try dsimp only)))
local macro_rules | `(tactic| walk_at "binaryOp Add ref ref") => `(tactic| ((k_dflt (refine' tl_add ?F ?N ?a ?b ?z ?_; (case F => k_asm); (case N => k_asm); (case a => k_mem); (case b => k_mem); (case z => (simp only [List.length_append, List.length_cons, List.length_nil]; omega)); k_whole)); intro D' h' F' N' l1; (try k_lt l1); (try dsimp only)))
local macro_rules | `(tactic| walk_at "call ref") => `(tactic| ((with_reducible show wpAny _ _ (call (Value.ref 646) [Value.ref _] _) _ _ _); (k_dflt (refine' run_callN ?k1 ?k2 ?k3 ?k4 ?k5 ?k6 ?k7 ?k8 ?k9 ?k10 ?k11 ?_; (case k1 => assumption); (case k2 => assumption); (case k3 => assumption); (case k4 => assumption); (case k5 => k_asm); (case k6 => k_asm); (case k7 => exact rfl); (case k8 => exact rfl); (case k9 => k_mem); (case k10 => assumption); (case k11 => assumption); k_whole)); intro S' h' tk' vs' c' Fx' hv' hr' F' N' l1; (simp only [List.cons_append, List.nil_append] at N'); (try dsimp only)))
local macro_rules | `(tactic| walk_at "compareOp Eq ref ref") => `(tactic| first | (refine eqL_empty (by k_asm) (by k_mem) (by k_mem) (Nat.le_of_ble_eq_true rfl) ?_; (try dsimp only)) | (refine PySem.SeqAt.eq_list_lengthsAt (isL (by k_asm) (by k_mem)) (isL (vs := []) (by k_asm) (by k_mem)) (ne_size (by assumption)) (Nat.le_of_ble_eq_true rfl) ?_; (try dsimp only)))
local macro_rules | `(tactic| walk_at "call builtin:list.append") => `(tactic| ((k_dflt (refine' tl_append ?F ?N ?U ?z ?_; (case F => k_asm); (case N => k_asm); (case U => k_upd); (case z => first | assumption | omega | decide)); kl_rest)))
local macro_rules | `(tactic| k_all) => `(tactic| first | exact List.forall_mem_nil _ | (refine' List.forall_mem_cons.mpr ⟨?a, ?b⟩; (case a => k_ne); (case b => k_all)) | assumption | exact ne_tail (by assumption) (by omega))
theorem d_0 : ∀ {w : World} {A₀ : Around} {base B : Heap} {outer : List Env} {Ld : Addr} {cd : Value}
   {m mg mb : Str → Option Value} {p : Program} {loose : List Str} {mean : ExcName → Option Value} {s : Shared} {Q : Flow → Shared → Prop},
   (Mine.hd.heap_39 w.params).In B → Top p loose mean mg mb B → Below A₀ base outer B → Fr B Ld s.heap m → News B Ld s.heap [] →
   (∀ f r h' tk m', @Ne Nat f r → m' (Str.ofString "found") = some (.ref f) → m' (Str.ofString "run") = some (.ref r) → m' (Str.ofString "tokens") = m (Str.ofString "tokens") → Fr B Ld h' m' → News B Ld h' [(f, listOf #[] 0), (r, listOf #[] 0)] → Q .next { s with heap := h', toks := tk }) →
   wpAny (model PySem.Challenge.rw_ew0014_01.row.prog w) (AA (envD w.params Ld cd :: outer) none)
     (execs ((dueB w.params).1.take 1) (envD w.params Ld cd)) Q (fun _ _ => False) s := by
  k_fill
  intro w A₀ base B outer Ld cd m mg mb p loose mean s Q X T Bl F N hQ
  dsimp only [dueB, dueS, envD, List.take]
  repeat' (first | (k_unfold; (try dsimp only)) | (k_end; wrow_close) | walk1 | (dsimp only; walk1) | (leave1; walk_say "STEP leave1"; try dsimp only))
  refine hQ ?f ?r ?h' ?tk ?m' ?ne ?a ?b ?c ?F ?N
  case F => k_asm
  case a => ((try dsimp only); rw [if_pos rfl])
  case b => ((try dsimp only); rw [if_neg (by decide), if_pos rfl])
  case c => ((try dsimp only); rw [if_neg (by decide), if_neg (by decide)])
  case ne => k_ne
  case N => exact News.pick (by k_asm) (by k_mem) (News.pick (by k_asm) (by k_mem) News.nil)
theorem d_val : ∀ {w : World} {A₀ : Around} {base B : Heap} {outer : List Env} {Ld I f r X0 : Addr} {cd : Value} {oI : Obj} {vs : List Value} {nf nr : Nat} {run : List Tk} {oi : List OutS} {t : Tk} {Fx : List (Addr × Obj)}
   {m mg mb : Str → Option Value} {p : Program} {loose : List Str} {mean : ExcName → Option Value} {s : Shared} {Q : Flow → Shared → Prop},
   (Mine.hd.heap_39 w.params).In B → Top p loose mean mg mb B → Below A₀ base outer B → Fr B Ld s.heap m → News B Ld s.heap ((I, oI) :: (f, listOf vs.toArray nf) :: (r, listOf (run.map rf).toArray nr) :: Fx) →
   m (Str.ofString "token") = some (rf t) → m (Str.ofString "found") = some (.ref f) → m (Str.ofString "run") = some (.ref r) → TkIn B t → t.v = .ref X0 → RunIs run oi → (∀ t ∈ run, TkIn B t) → run.length ≤ 100 → vs.length ≤ 500 →
   (∀ f' r' T h' tk m' vs' Fx' a b c, RowsOf RowP Fx' oi vs' → @Ne Nat f' r' → m' (Str.ofString "found") = some (.ref f') → m' (Str.ofString "run") = some (.ref r') → Fr B Ld h' m' →
     News B Ld h' [(I, oI), (f', listOf (vs ++ vs' ++ [Value.ref T]).toArray 0), (r', listOf #[] 0), (T, tupO #[.int t.st a, .int t.en b, .str t.sg c, rf t])] → News B Ld h' (Fx ++ Fx') → Q .next { s with heap := h', toks := tk }) →
   wpAny (model PySem.Challenge.rw_ew0014_01.row.prog w) (AA (envD w.params Ld cd :: outer) none)
     (execs (dueL w.params).1 (envD w.params Ld cd)) Q (fun _ _ => False) s := by
  k_fill
  intro w A₀ base B outer Ld I f r X0 cd oI vs nf nr run oi t Fx m mg mb p loose mean s Q X T Bl F N hm1 hm2 hm3 ht hv hrun hts hlen hvl hQ
  obtain ⟨a, tdx, tst, ten, tts, tte, ttk, tsg, tv⟩ := t
  dsimp only [Tk.obj, rf] at hv hm1
  subst hv
  dsimp only [dueL, dueS, envD]
  repeat' (first | (k_unfold; (try dsimp only)) | (k_end; wrow_close) | walk1 | (dsimp only; walk1) | (leave1; walk_say "STEP leave1"; try dsimp only))
  refine hQ ?f ?r ?T ?h' ?tk ?m' ?vs' ?Fi ?x ?y ?z ?rows ?ne ?a ?b ?F ?N ?N2
  case F => k_asm
  case a => ((try dsimp only); rw [if_neg (by decide), if_pos rfl])
  case b => ((try dsimp only); rw [if_pos rfl])
  case rows => assumption
  case ne => k_ne
  case N => exact News.pick (by k_asm) (by k_mem) (News.pick (by k_asm) (by k_mem) (News.pick (by k_asm) (by k_mem) (News.pick (by k_asm) (by k_mem) News.nil)))
  case N2 => exact News.sub (by k_asm) fun q hq => by repeat' (first | exact hq | refine List.Mem.tail _ ?_)
/-- a blank where no run waits -/
theorem d_blank : ∀ {w : World} {A₀ : Around} {base B : Heap} {outer : List Env} {Ld I f r : Addr} {cd : Value} {oI : Obj} {vs : List Value} {nf nr : Nat} {t : Tk} {Fx : List (Addr × Obj)}
   {m mg mb : Str → Option Value} {p : Program} {loose : List Str} {mean : ExcName → Option Value} {s : Shared} {Q : Flow → Shared → Prop},
   (Mine.hd.heap_39 w.params).In B → Top p loose mean mg mb B → Below A₀ base outer B → Fr B Ld s.heap m → News B Ld s.heap ((I, oI) :: (f, listOf vs.toArray nf) :: (r, listOf #[] nr) :: Fx) →
   m (Str.ofString "token") = some (rf t) → m (Str.ofString "found") = some (.ref f) → m (Str.ofString "run") = some (.ref r) → TkIn B t → t.v = .none → Blank t → @Ne Nat I f → @Ne Nat r f → (∀ q ∈ Fx, q.1 ≠ f) → vs.length ≤ 500 →
   (∀ T h' tk a b c n', Fr B Ld h' m → News B Ld h' [(I, oI), (f, listOf (vs ++ [Value.ref T]).toArray n'), (r, listOf #[] nr), (T, tupO #[.int t.st a, .int t.en b, .str (Str.ofString " ") c, rf t])] → News B Ld h' Fx → Q .next { s with heap := h', toks := tk }) →
   wpAny (model PySem.Challenge.rw_ew0014_01.row.prog w) (AA (envD w.params Ld cd :: outer) none)
     (execs (dueL w.params).1 (envD w.params Ld cd)) Q (fun _ _ => False) s := by
  k_fill
  intro w A₀ base B outer Ld I f r cd oI vs nf nr t Fx m mg mb p loose mean s Q X T Bl F N hm1 hm2 hm3 ht hv hb h1 h2 h3 hvl hQ
  obtain ⟨a, tdx, tst, ten, tts, tte, ttk, tsg, tv⟩ := t
  dsimp only [Tk.obj, rf] at hv hm1
  subst hv
  dsimp only [dueL, dueS, envD]
  repeat' (first | (k_unfold; (try dsimp only)) | (k_end; wrow_close) | walk1 | (dsimp only; walk1) | (leave1; walk_say "STEP leave1"; try dsimp only))
  refine hQ ?T ?h' ?tk ?x ?y ?z ?n ?F ?N ?N2
  case F => k_asm
  case N => exact News.pick (by k_asm) (by k_mem) (News.pick (by k_asm) (by k_mem) (News.pick (by k_asm) (by k_mem) (News.pick (by k_asm) (by k_mem) News.nil)))
  case N2 => exact News.sub (by k_asm) (fun q hq => by repeat' (first | exact hq | refine List.Mem.tail _ ?_))
/-- a token that joins the waiting run -/
theorem d_app : ∀ {w : World} {A₀ : Around} {base B : Heap} {outer : List Env} {Ld I f r : Addr} {cd : Value} {oI : Obj} {vs : List Value} {nf nr : Nat} {run : List Tk} {t : Tk} {Fx : List (Addr × Obj)}
   {m mg mb : Str → Option Value} {p : Program} {loose : List Str} {mean : ExcName → Option Value} {s : Shared} {Q : Flow → Shared → Prop},
   (Mine.hd.heap_39 w.params).In B → Top p loose mean mg mb B → Below A₀ base outer B → Fr B Ld s.heap m → News B Ld s.heap ((I, oI) :: (f, listOf vs.toArray nf) :: (r, listOf (run.map rf).toArray nr) :: Fx) →
   m (Str.ofString "token") = some (rf t) → m (Str.ofString "found") = some (.ref f) → m (Str.ofString "run") = some (.ref r) → TkIn B t → t.v = .none → run.map rf ≠ [] → @Ne Nat I r → @Ne Nat f r → (∀ q ∈ Fx, q.1 ≠ r) → (run.map rf).length ≤ 500 →
   (∀ h' tk n', Fr B Ld h' m → News B Ld h' ((I, oI) :: (f, listOf vs.toArray nf) :: (r, listOf (run.map rf ++ [rf t]).toArray n') :: Fx) → Q .next { s with heap := h', toks := tk }) →
   wpAny (model PySem.Challenge.rw_ew0014_01.row.prog w) (AA (envD w.params Ld cd :: outer) none)
     (execs (dueL w.params).1 (envD w.params Ld cd)) Q (fun _ _ => False) s := by
  k_fill
  intro w A₀ base B outer Ld I f r cd oI vs nf nr run t Fx m mg mb p loose mean s Q X T Bl F N hm1 hm2 hm3 ht hv hne h1 h2 h3 hvl hQ
  obtain ⟨a, tdx, tst, ten, tts, tte, ttk, tsg, tv⟩ := t
  dsimp only [Tk.obj, rf] at hv hm1
  subst hv
  dsimp only [dueL, dueS, envD]
  repeat' (first | (k_unfold; (try dsimp only)) | (k_end; wrow_close) | walk1 | (dsimp only; walk1) | (leave1; walk_say "STEP leave1"; try dsimp only))
  refine hQ ?h' ?tk ?n ?F ?N
  case F => k_asm
  case N => exact News.sub (by k_asm) fun q hq => List.Mem.tail _ hq
/-- a word where no run waits -/
theorem d_word : ∀ {w : World} {A₀ : Around} {base B : Heap} {outer : List Env} {Ld I f r : Addr} {cd : Value} {oI : Obj} {vs : List Value} {nf nr : Nat} {t : Tk} {Fx : List (Addr × Obj)}
   {m mg mb : Str → Option Value} {p : Program} {loose : List Str} {mean : ExcName → Option Value} {s : Shared} {Q : Flow → Shared → Prop},
   (Mine.hd.heap_39 w.params).In B → Top p loose mean mg mb B → Below A₀ base outer B → Fr B Ld s.heap m → News B Ld s.heap ((I, oI) :: (f, listOf vs.toArray nf) :: (r, listOf #[] nr) :: Fx) →
   m (Str.ofString "token") = some (rf t) → m (Str.ofString "found") = some (.ref f) → m (Str.ofString "run") = some (.ref r) → TkIn B t → t.v = .none → Word t → @Ne Nat I r → @Ne Nat f r → (∀ q ∈ Fx, q.1 ≠ r) →
   (∀ h' tk n', Fr B Ld h' m → News B Ld h' ((I, oI) :: (f, listOf vs.toArray nf) :: (r, listOf #[rf t] n') :: Fx) → Q .next { s with heap := h', toks := tk }) →
   wpAny (model PySem.Challenge.rw_ew0014_01.row.prog w) (AA (envD w.params Ld cd :: outer) none)
     (execs (dueL w.params).1 (envD w.params Ld cd)) Q (fun _ _ => False) s := by
  k_fill
  intro w A₀ base B outer Ld I f r cd oI vs nf nr t Fx m mg mb p loose mean s Q X T Bl F N hm1 hm2 hm3 ht hv hw h1 h2 h3 hQ
  obtain ⟨a, tdx, tst, ten, tts, tte, ttk, tsg, tv⟩ := t
  dsimp only [Tk.obj, rf] at hv hm1
  subst hv
  dsimp only [dueL, dueS, envD]
  repeat' (first | (k_unfold; (try dsimp only)) | (k_end; wrow_close) | walk1 | (dsimp only; walk1) | (leave1; walk_say "STEP leave1"; try dsimp only))
  refine hQ ?h' ?tk ?n ?F ?N
  case F => k_asm
  case N => exact News.sub (by k_asm) fun q hq => List.Mem.tail _ hq
/-- the last row -/
theorem d_ret : ∀ {w : World} {A₀ : Around} {base B : Heap} {outer : List Env} {Ld f r : Addr} {cd : Value} {vs : List Value} {nf nr : Nat} {run : List Tk} {oi : List OutS} {Fx : List (Addr × Obj)}
   {m mg mb : Str → Option Value} {p : Program} {loose : List Str} {mean : ExcName → Option Value} {s : Shared} {Q : Flow → Shared → Prop},
   (Mine.hd.heap_39 w.params).In B → Top p loose mean mg mb B → Below A₀ base outer B → Fr B Ld s.heap m → News B Ld s.heap ((f, listOf vs.toArray nf) :: (r, listOf (run.map rf).toArray nr) :: Fx) →
   m (Str.ofString "found") = some (.ref f) → m (Str.ofString "run") = some (.ref r) → RunIs run oi → (∀ t ∈ run, TkIn B t) → run.length ≤ 100 → vs.length ≤ 500 →
   (∀ S h' tk vs' Fx', RowsOf RowP Fx' oi vs' → Fr B Ld h' m → News B Ld h' [(S, listOf (vs ++ vs').toArray 0)] → News B Ld h' (Fx ++ Fx') → Q (.ret (.ref S)) { s with heap := h', toks := tk }) →
   wpAny (model PySem.Challenge.rw_ew0014_01.row.prog w) (AA (envD w.params Ld cd :: outer) none)
     (execs ((dueB w.params).1.drop 2) (envD w.params Ld cd)) Q (fun _ _ => False) s := by
  k_fill
  intro w A₀ base B outer Ld f r cd vs nf nr run oi Fx m mg mb p loose mean s Q X T Bl F N hm2 hm3 hrun hts hlen hvl hQ
  dsimp only [dueB, dueS, envD, List.drop]
  repeat' (first | (k_unfold; (try dsimp only)) | (k_end; wrow_close) | walk1 | (dsimp only; walk1) | (leave1; walk_say "STEP leave1"; try dsimp only))
  refine hQ ?S ?h' ?tk ?vs' ?Fi ?rows ?F ?N ?N2
  case F => k_asm
  case rows => assumption
  case N => exact News.pick (by k_asm) (by k_mem) News.nil
  case N2 => exact News.sub (by k_asm) (fun q hq => by repeat' (first | exact hq | refine List.Mem.tail _ ?_))
end Mine
end
section -- L12
open PySem PySem.W PyProof.Rows PySem.Calls
set_option Elab.async false
set_option maxRecDepth 100000
set_option maxHeartbeats 12000000
namespace Mine
theorem obj_ne {h₀ h : Heap} {L : Addr} {l : List (Addr × Obj)} (N : News h₀ L h l) {p q : Addr × Obj} (hp : p ∈ l) (hq : q ∈ l) (hne : p.2.cls ≠ q.2.cls) : p.1 ≠ q.1 := fun e => by
  have h1 := (N p hp).1
  rw [e, (N q hq).1] at h1
  exact hne (by rw [Option.some.inj h1])
theorem RowsOf.up {O : Type} {Out : O → Value → List (Addr × Obj) → Prop} {Fx Fx' : List (Addr × Obj)} (h : ∀ q ∈ Fx, q ∈ Fx') : ∀ {os : List O} {vs : List Value}, RowsOf Out Fx os vs → RowsOf Out Fx' os vs
  | [], [], _ => trivial
  | _ :: _, _ :: _, ⟨⟨nw, a, b⟩, r⟩ => ⟨⟨nw, a, fun p hp => h _ (b p hp)⟩, RowsOf.up h r⟩
theorem RowsOf.app {O : Type} {Out : O → Value → List (Addr × Obj) → Prop} {Fx : List (Addr × Obj)} : ∀ {os : List O} {vs : List Value} {os' : List O} {vs' : List Value}, RowsOf Out Fx os vs → RowsOf Out Fx os' vs' → RowsOf Out Fx (os ++ os') (vs ++ vs')
  | [], [], _, _, _, h => h
  | _ :: _, _ :: _, _, _, ⟨a, r⟩, h => ⟨a, RowsOf.app r h⟩
/-- what a row's ledger holds: tuples alone -/
theorem rows_tups : ∀ {os : List OutS} {vs : List Value} {Fx : List (Addr × Obj)}, RowsOf RowP Fx os vs → ∃ Fx', (∀ q ∈ Fx', q ∈ Fx ∧ q.2.cls = .type "tuple") ∧ RowsOf RowP Fx' os vs
  | [], [], _, _ => ⟨[], (fun _ h => nomatch h), trivial⟩
  | o :: _, _ :: _, Fx, ⟨⟨nw, a, b⟩, r⟩ => by
    obtain ⟨Fx', h1, h2⟩ := rows_tups r
    refine ⟨nw ++ Fx', fun q hq => ?_, ⟨nw, a, fun p hp => List.mem_append_left _ hp⟩, h2.up fun q hq => List.mem_append_right _ hq⟩
    rcases List.mem_append.mp hq with hq | hq
    · refine ⟨b q hq, ?_⟩
      cases o with
      | old t => obtain ⟨T, _, _, _, _, rfl⟩ := a; rw [List.mem_singleton.mp hq]
      | new st en txt => obtain ⟨T, _, _, _, _, _, rfl⟩ := a; rw [List.mem_singleton.mp hq]
    · exact h1 q hq
structure DInv (B : Heap) (ts : List Tk) (os : List OutS) (i : Nat) (m : Str → Option Value) (nx : List (Addr × Obj)) (f r : Addr) (nf nr : Nat) (run : List Tk) (osd osr : List OutS) (vs : List Value) (Fx : List (Addr × Obj)) : Prop where
  os : osd ++ osr = os
  outs : OutsIs B run (ts.drop i) osr
  rows : RowsOf RowP Fx osd vs
  mf : m (Str.ofString "found") = some (.ref f)
  mr : m (Str.ofString "run") = some (.ref r)
  nx : nx = (f, listOf vs.toArray nf) :: (r, listOf (run.map rf).toArray nr) :: Fx
  fr : @Ne Nat f r
  tup : ∀ q ∈ Fx, q.2.cls = .type "tuple"
  rin : ∀ t ∈ run, t ∈ ts
  rl : run.length ≤ i
  vl : vs.length ≤ 3 * i
theorem cls_lt : (Value.type "list" : Value) ≠ .type "tuple" := by decide
theorem cls_li : (Value.type "list" : Value) ≠ .type "list_iterator" := by decide
theorem cls_ti : (Value.type "tuple" : Value) ≠ .type "list_iterator" := by decide
theorem due_body {w : World} {A₀ : Around} {base B : Heap} {outer : List Env} {Ld tl : Addr} {cd : Value} {m mg mb : Str → Option Value} {p : Program} {loose : List Str} {mean : ExcName → Option Value} {s : Shared} {ts : List Tk} {os : List OutS} {n : Nat} {Q : Flow → Shared → Prop}
    (hout : OutsIs B [] ts os) (X : (Mine.hd.heap_39 w.params).In B) (T : Top p loose mean mg mb B) (Bl : Below A₀ base outer B) (F : Fr B Ld s.heap m) (hR : B.get? tl = some (listOf (ts.map rf).toArray n)) (hm : m (Str.ofString "tokens") = some (.ref tl))
    (hts : ∀ t ∈ ts, TkIn B t) (hlen : ts.length ≤ 100)
    (hQ : ∀ S h' tk m' vs c Fx, Fr B Ld h' m' → News B Ld h' ((S, listOf vs.toArray c) :: Fx) → RowsOf RowP Fx os vs → Q (.ret (.ref S)) { s with heap := h', toks := tk }) :
    wpAny (model PySem.Challenge.rw_ew0014_01.row.prog w) (AA (envD w.params Ld cd :: outer) none) (execs (dueB w.params).1 (envD w.params Ld cd)) Q (fun _ _ => False) s := by
  refine any_take 1 (d_0 X T Bl F News.nil ?_)
  intro f r h1 tk1 m1 hfr hmf hmr hmt F1 N1
  obtain ⟨px, pn, pos, e⟩ := due_shape w.params
  dsimp only
  rw [e]
  refine wpAny_execs_cons (For_invV B rfl rfl (wpAny_Name (wpAny_loadName_local rfl rfl F1.ns (hmt.trans hm) ?_) (by decide)))
  refine list_inv (J := fun i m nx => ∃ f r nf nr run osd osr vs Fx, DInv B ts os i m nx f r nf nr run osd osr vs Fx) rfl (vs := ts.map rf) ⟨_, hR, rfl, _, rfl⟩ F1 N1 ⟨f, r, 0, 0, [], [], os, [], [], rfl, hout, trivial, hmf, hmr, rfl, hfr, (fun _ h => nomatch h), (fun _ h => nomatch h), Nat.le_refl _, Nat.le_refl _⟩ ?_ ?_
  · rintro I oI i v m2 nx h2 tk2 hv hIc ⟨f, r, nf, nr, run, osd, osr, vs, Fx, D⟩ hoff F2 N2
    rw [List.getElem?_map] at hv
    obtain ⟨t, ht, rfl⟩ : ∃ t, ts[i]? = some t ∧ v = rf t := by
      cases q : ts[i]? with
      | none => rw [q] at hv; cases hv
      | some t => rw [q] at hv; exact ⟨t, rfl, (Option.some.inj hv).symm⟩
    have hilt : i < ts.length := (List.getElem?_eq_some_iff.mp ht).1
    have hdrop : ts.drop i = t :: ts.drop (i + 1) := by
      rw [List.drop_eq_getElem_cons hilt]
      rw [(List.getElem?_eq_some_iff.mp ht).2]
    have htm : t ∈ ts := List.mem_of_getElem? ht
    have hnx := D.nx
    subst hnx
    have hrts : ∀ t ∈ run, TkIn B t := fun t h => hts t (D.rin t h)
    have hrl : run.length ≤ 100 := by have := D.rl; omega
    have hvl : vs.length ≤ 500 := by have := D.vl; omega
    have hIf : @Ne Nat I f := fun e => hoff (f, listOf vs.toArray nf) (by simp) e.symm
    have hIr : @Ne Nat I r := fun e => hoff (r, listOf (run.map rf).toArray nr) (by simp) e.symm
    have hFf : ∀ q ∈ Fx, q.1 ≠ f := fun q hq => obj_ne (q := (f, listOf vs.toArray nf)) N2 (by simp [hq]) (by simp) (by rw [D.tup q hq]; exact cls_lt.symm)
    have hFr : ∀ q ∈ Fx, q.1 ≠ r := fun q hq => obj_ne (q := (r, listOf (run.map rf).toArray nr)) N2 (by simp [hq]) (by simp) (by rw [D.tup q hq]; exact cls_lt.symm)
    have mt : (fun y => if y = Str.ofString "token" then some (rf t) else m2 y) (Str.ofString "token") = some (rf t) := if_pos rfl
    have mf : (fun y => if y = Str.ofString "token" then some (rf t) else m2 y) (Str.ofString "found") = some (.ref f) := (if_neg (by decide)).trans D.mf
    have mr : (fun y => if y = Str.ofString "token" then some (rf t) else m2 y) (Str.ofString "run") = some (.ref r) := (if_neg (by decide)).trans D.mr
    have outs := D.outs
    rw [hdrop] at outs
    generalize hrest : ts.drop (i + 1) = rest at outs
    cases outs with
    | @val _ oi _ _ os' hrun hX ho =>
      obtain ⟨X0, _, _, _, hX0, _, _⟩ := hX
      refine d_val X T Bl F2 N2 mt mf mr (hts t htm) hX0 hrun hrts hrl hvl ?_
      intro f' r' T' h' tk m' vs' Fx' a b c rows hne hmf hmr F' N' N''
      obtain ⟨Fy, hFy, rows'⟩ := rows_tups rows
      have n1 : ∀ p ∈ [(f', listOf (vs ++ vs' ++ [Value.ref T']).toArray 0), (r', listOf #[] 0), (T', tupO #[.int t.st a, .int t.en b, .str t.sg c, rf t])], p.1 ≠ I := fun p hp => by
        refine obj_ne (q := (I, oI)) N' (List.mem_cons_of_mem _ hp) (.head _) ?_
        rw [hIc]
        simp only [List.mem_cons, List.not_mem_nil, or_false] at hp
        rcases hp with rfl | rfl | rfl
        · exact cls_li
        · exact cls_li
        · exact cls_ti
      have nI := N' (I, oI) (.head _)
      have N3 : News B Ld h' ((I, oI) :: ((f', listOf (vs ++ vs' ++ [Value.ref T']).toArray 0) :: (r', listOf (([] : List Tk).map rf).toArray 0) :: ((T', tupO #[.int t.st a, .int t.en b, .str t.sg c, rf t]) :: (Fx ++ Fy)))) := fun q hq => by
        have hq' : q ∈ [(I, oI), (f', listOf (vs ++ vs' ++ [Value.ref T']).toArray 0), (r', listOf #[] 0), (T', tupO #[.int t.st a, .int t.en b, .str t.sg c, rf t])] ++ (Fx ++ Fy) := hq
        rcases List.mem_append.mp hq' with h | h
        · exact N' q h
        · refine N'' q ?_
          rcases List.mem_append.mp h with h | h
          · exact List.mem_append_left _ h
          · exact List.mem_append_right _ (hFy q h).1
      have tup3 : ∀ q ∈ (T', tupO #[.int t.st a, .int t.en b, .str t.sg c, rf t]) :: (Fx ++ Fy), q.2.cls = .type "tuple" := fun q hq => by
        rcases List.mem_cons.mp hq with rfl | hq
        · rfl
        · rcases List.mem_append.mp hq with hq | hq
          · exact D.tup q hq
          · exact (hFy q hq).2
      refine ⟨rfl, h', tk, m', _, rfl, F', N3, fun q hq => ?_, f', r', 0, 0, [], osd ++ (oi ++ [.old t]), os', vs ++ vs' ++ [.ref T'], _, ⟨?_, ?_, ?_, hmf, hmr, rfl, hne, tup3, (fun _ h => nomatch h), Nat.zero_le _, ?_⟩⟩
      · refine obj_ne (q := (I, oI)) N3 (List.mem_cons_of_mem _ hq) (.head _) ?_
        rw [hIc]
        rcases List.mem_cons.mp hq with rfl | hq
        · exact cls_li
        · rcases List.mem_cons.mp hq with rfl | hq
          · exact cls_li
          · rw [tup3 q hq]; exact cls_ti
      · rw [← D.os]; simp
      · rw [hrest]; exact ho
      · rw [List.append_assoc]
        refine RowsOf.app (D.rows.up fun q hq => by simp [hq]) (RowsOf.app (rows'.up fun q hq => by simp [hq]) ⟨⟨_, ⟨T', _, _, _, rfl, rfl⟩, fun q hq => by rw [List.mem_singleton.mp hq]; exact .head _⟩, trivial⟩)
      · have h1 := D.vl
        have h2 := rows_len rows
        have h3 := run_len hrun
        simp only [List.length_append, List.length_cons, List.length_nil]
        omega
    | @blank _ _ os' hv0 hb ho =>
      refine d_blank X T Bl F2 N2 mt mf mr (hts t htm) hv0 hb hIf (Ne.symm D.fr) hFf hvl ?_
      intro T' h' tk a b c n' F' N' N''
      rw [← hb.sg] at N'
      have N3 : News B Ld h' ((I, oI) :: ((f, listOf (vs ++ [Value.ref T']).toArray n') :: (r, listOf (([] : List Tk).map rf).toArray nr) :: ((T', tupO #[.int t.st a, .int t.en b, .str t.sg c, rf t]) :: Fx))) := fun q hq => by
        have hq' : q ∈ [(I, oI), (f, listOf (vs ++ [Value.ref T']).toArray n'), (r, listOf #[] nr), (T', tupO #[.int t.st a, .int t.en b, .str t.sg c, rf t])] ++ Fx := hq
        rcases List.mem_append.mp hq' with h | h
        · exact N' q h
        · exact N'' q h
      have tup3 : ∀ q ∈ (T', tupO #[.int t.st a, .int t.en b, .str t.sg c, rf t]) :: Fx, q.2.cls = .type "tuple" := fun q hq => by
        rcases List.mem_cons.mp hq with rfl | hq
        · rfl
        · exact D.tup q hq
      refine ⟨rfl, h', tk, _, _, rfl, F', N3, fun q hq => ?_, f, r, n', nr, [], osd ++ [.old t], os', vs ++ [.ref T'], _, ⟨?_, ?_, ?_, mf, mr, rfl, D.fr, tup3, (fun _ h => nomatch h), Nat.zero_le _, ?_⟩⟩
      · refine obj_ne (q := (I, oI)) N3 (List.mem_cons_of_mem _ hq) (.head _) ?_
        rw [hIc]
        rcases List.mem_cons.mp hq with rfl | hq
        · exact cls_li
        · rcases List.mem_cons.mp hq with rfl | hq
          · exact cls_li
          · rw [tup3 q hq]; exact cls_ti
      · rw [← D.os]; simp
      · rw [hrest]; exact ho
      · exact RowsOf.app (D.rows.up fun q hq => by simp [hq]) ⟨⟨_, ⟨T', _, _, _, rfl, rfl⟩, fun q hq => by rw [List.mem_singleton.mp hq]; exact .head _⟩, trivial⟩
      · have h1 := D.vl
        simp only [List.length_append, List.length_cons, List.length_nil]
        omega
    | app hv0 hor ho =>
      have fin : ∀ h' tk n', Fr B Ld h' (fun y => if y = Str.ofString "token" then some (rf t) else m2 y) → News B Ld h' ((I, oI) :: (f, listOf vs.toArray nf) :: (r, listOf ((run ++ [t]).map rf).toArray n') :: Fx) →
          RTurn B Ld { s with heap := h2, toks := tk2 } I oI (fun m nx => ∃ f r nf nr run osd osr vs Fx, DInv B ts os (i + 1) m nx f r nf nr run osd osr vs Fx) { s with heap := h', toks := tk } := fun h' tk n' F' N' => by
        refine ⟨h', tk, _, _, rfl, F', N', fun q hq => ?_, f, r, nf, n', run ++ [t], osd, osr, vs, Fx, ⟨D.os, ?_, D.rows, mf, mr, rfl, D.fr, D.tup, fun t' h => ?_, ?_, ?_⟩⟩
        · refine obj_ne (q := (I, oI)) N' (List.mem_cons_of_mem _ hq) (.head _) ?_
          rw [hIc]
          rcases List.mem_cons.mp hq with rfl | hq
          · exact cls_li
          · rcases List.mem_cons.mp hq with rfl | hq
            · exact cls_li
            · rw [D.tup q hq]; exact cls_ti
        · rw [hrest]; exact ho
        · rcases List.mem_append.mp h with h | h
          · exact D.rin t' h
          · rw [List.mem_singleton.mp h]; exact htm
        · have := D.rl
          simp only [List.length_append, List.length_cons, List.length_nil]
          omega
        · have := D.vl
          omega
      by_cases hre : run = []
      · subst hre
        have hw := hor.resolve_left fun h => h rfl
        exact d_word X T Bl F2 N2 mt mf mr (hts t htm) hv0 hw hIr D.fr hFr fun h' tk n' F' N' => ⟨rfl, fin h' tk n' F' N'⟩
      · refine d_app X T Bl F2 N2 mt mf mr (hts t htm) hv0 (by simpa using hre) hIr D.fr hFr (by simp; omega) fun h' tk n' F' N' => ⟨rfl, fin h' tk n' F' ?_⟩
        rw [List.map_append]; exact N'
  · rintro m2 nx h2 tk2 ⟨f, r, nf, nr, run, osd, osr, vs, Fx, D⟩ F2 N2
    have hnx := D.nx
    subst hnx
    have outs := D.outs
    rw [List.length_map, List.drop_length] at outs
    cases outs with
    | nil hrun =>
      have hlm : (ts.map rf).length = ts.length := List.length_map ..
      refine d_ret X T Bl F2 N2 D.mf D.mr hrun (fun t h => hts t (D.rin t h)) (by have := D.rl; omega) (by have := D.vl; omega) ?_
      intro S h' tk vs' Fx' rows F' N' N''
      refine hQ S h' tk _ (vs ++ vs') 0 (Fx ++ Fx') F' (fun q hq => ?_) ?_
      · rcases List.mem_cons.mp hq with rfl | hq
        · exact N' _ (.head _)
        · exact N'' q hq
      · rw [← D.os]
        exact RowsOf.app (D.rows.up fun q hq => List.mem_append_left _ hq) (rows.up fun q hq => List.mem_append_right _ hq)
end Mine
end
section -- L13
open PySem PySem.W PyProof.Rows PySem.Calls
set_option Elab.async false
set_option maxRecDepth 100000
set_option maxHeartbeats 12000000
namespace Mine
theorem OutsIs.up {B B' : Heap} (k : ∀ b o, B.get? b = some o → B'.get? b = some o) : ∀ {run ts : List Tk} {os : List OutS}, OutsIs B run ts os → OutsIs B' run ts os
  | _, _, _, .nil h => .nil h
  | _, _, _, .val h ⟨X, dX, es, n, a, b, c⟩ r => .val h ⟨X, dX, es, n, a, k _ _ b, k _ _ c⟩ (OutsIs.up k r)
  | _, _, _, .blank a b r => .blank a b (OutsIs.up k r)
  | _, _, _, .app a b r => .app a b (OutsIs.up k r)
theorem due_call {w : World} {A₀ A : Around} {base h₀ : Heap} {outer : List Env} {env : Env} {L : Addr} {m mg mb : Str → Option Value} {pr : Program} {loose : List Str} {mean : ExcName → Option Value} {s : Shared} {ts : List Tk} {os : List OutS} {tl : Addr} {n : Nat} {Q : Value → Shared → Prop} {E : Value → Shared → Prop}
    (hout : OutsIs s.heap [] ts os) (X : (Mine.hd.heap_39 w.params).In h₀) (T : Top pr loose mean mg mb h₀) (Bl : Below A₀ base outer h₀) (F : Fr h₀ L s.heap m)
    (hA : A.frames = some (env :: outer)) (hf : env.frame = some L) (hke : env.scope.kind = .function) (hh : A.handled = none) (hd : A.depth ≤ 399) (hu : A.units ≤ 1990)
    (hR : s.heap.get? tl = some (listOf (ts.map rf).toArray n)) (hts : ∀ t ∈ ts, TkIn s.heap t) (hlen : ts.length ≤ 100)
    (hQ : ∀ S h' tk vs c Fx, (∀ b o, s.heap.get? b = some o → h'.get? b = some o) → RowsOf RowP Fx os vs → (∀ q ∈ (S, listOf vs.toArray c) :: Fx, h'.get? q.1 = some q.2 ∧ s.heap.get? q.1 = none) → Q (.ref S) { s with heap := h', toks := tk }) :
    wpAny (model PySem.Challenge.rw_ew0014_01.row.prog w) A (call (.ref 653) [.ref tl]) Q E s := by
  obtain ⟨oc, od, osl, prm, dV, kV, doc, pm, an, ct, cd, ho, hci, hbind⟩ := fn653 w.params
  refine wpAny_call (defEnterF (sub := []) Bl F X News.nil T hA hf hke ho hci (Nat.lt_of_le_of_lt hd (by decide)) (hbind s (.ref tl)) ?_ ?_ ?_ rfl rfl rfl)
  · intro y hy
    rw [List.mem_singleton.mp hy]
    dsimp only [dueS]; decide
  · intro g L' h₁ up dn hsz F1 N1 BG XG TG
    have up' : ∀ b o, s.heap.get? b = some o → g.get? b = some o := fun b o e => up b o e (by simp)
    have lA : LessA (A.deeper (envD w.params L' cd)) (AA (envD w.params L' cd :: env :: outer) none) := ⟨hh, by show A.depth + 1 ≤ 400; omega, .inr (by show A.frames.map _ = _; rw [hA]; rfl), .inl rfl, by show A.units + 3 ≤ 2000; omega⟩
    refine wpLess (A' := A.deeper (envD w.params L' cd)) lA.hh lA.hd lA.hf lA.hg lA.hu ?_
    refine due_body (hout.up up') XG TG BG F1 (up' _ _ hR) rfl (fun t ht => (hts t ht).keeps up') hlen ?_
    intro S h' tk m' vs c Fx F' N' rows
    refine hQ S h' tk vs c Fx (fun b o e => F'.keep b o (up' b o e)) rows fun q hq => ⟨(N' q hq).1, ?_⟩
    have z := (N' q hq).2.2
    cases e : s.heap.get? q.1 with
    | none => rfl
    | some o => rw [up' _ _ e] at z; cases z
  · dsimp only [dueS]; decide
end Mine
end
section -- L14
open PySem PySem.W PyProof.Rows PySem.Calls
set_option Elab.async false
set_option maxRecDepth 100000
set_option maxHeartbeats 12000000
namespace Mine
abbrev envT (P : Params) (Lt : Addr) (cd : Value) : Env := envX nmT (tokS P).1 Lt 641 cd []
def tokL (P : Params) : { x : PySem.Expr × List Stmt // (match (tokB P).1 with | _ :: .For _ it b _ _ :: _ => (it, b) | _ => (.Constant .none 0 ⟨0, 0, 0, 0⟩, [])) = x } := by
  refine ⟨?b, ?h⟩
  case h =>
    conv => lhs; whnf
theorem tok_shape (P : Params) : ∃ px pos, (tokB P).1.drop 1 = .For (.Name (Str.ofString "at") px) (tokL P).1.1 (tokL P).1.2 [] pos :: (tokB P).1.drop 2 := ⟨_, _, rfl⟩
theorem len_frz {prog : Program} {w : World} {A : Around} {E : Value → Shared → Prop} {s : Shared} {B : Heap} {L l : Addr} {m : Str → Option Value} {vs : List Value} {Q : Value → Shared → Prop} (F : Fr B L s.heap m) (hl : B.IsList l vs.toArray) (hn : vs.length ≤ 63)
    (h : ∀ t k, Q (.int (vs.length : Int) t) { s with toks := k }) : wpAny (model prog w) A (call (.builtin "len") [.ref l]) Q E s := by
  refine call_len_list (hl.at fun o e => F.keep l o e) (by simp; omega) ?_
  have e2 : ((vs.toArray.size : Nat) : Int) = (vs.length : Int) := by simp
  rw [e2]; exact h _ _
local macro_rules | `(tactic| walk_at "call builtin:len") => `(tactic| ((with_reducible show wpAny _ _ (call (Value.builtin "len") [Value.ref _]) _ _ _); (refine len_frz (by k_asm) (by assumption) (by assumption) ?_; intro _ _; (try dsimp only))))
local macro_rules | `(tactic| walk_at "eval Name") => `(tactic| (refine wpAny_Name (wpAny_loadName_local (by rfl) (by rfl) (Fr.ns (by k_asm)) (by assumption) ?_) (by decide)))
theorem fmod64 (a : Int) : 0 ≤ a.fmod 64 ∧ a.fmod 64 ≤ 63 := by
  rw [Int.fmod_eq_emod_of_nonneg _ (by decide)]
  omega
theorem t_0 : ∀ {w : World} {A₀ : Around} {base B : Heap} {outer : List Env} {Lt : Addr} {cd : Value}
   {m mg mb : Str → Option Value} {p : Program} {loose : List Str} {mean : ExcName → Option Value} {s : Shared} {Q : Flow → Shared → Prop},
   (Mine.hd.heap_39 w.params).In B → Top p loose mean mg mb B → Below A₀ base outer B → Fr B Lt s.heap m → News B Lt s.heap [] →
   (∀ f h' tk m' t1 t2, m' (Str.ofString "found") = some (.ref f) → m' (Str.ofString "place") = some (.int 0 t1) → m' (Str.ofString "last") = some (.str (Str.ofString "") t2) → m' (Str.ofString "script") = m (Str.ofString "script") → Fr B Lt h' m' → News B Lt h' [(f, listOf #[] 0)] → Q .next { s with heap := h', toks := tk }) →
   wpAny (model PySem.Challenge.rw_ew0014_01.row.prog w) (AA (envT w.params Lt cd :: outer) none)
     (execs ((tokB w.params).1.take 1) (envT w.params Lt cd)) Q (fun _ _ => False) s := by
  k_fill
  intro w A₀ base B outer Lt cd m mg mb p loose mean s Q X T Bl F N hQ
  dsimp only [tokB, tokS, envT, List.take]
  repeat' (first | (k_unfold; (try dsimp only)) | (k_end; wrow_close) | walk1 | (dsimp only; walk1) | (leave1; walk_say "STEP leave1"; try dsimp only))
  refine hQ ?f ?h' ?tk ?m' ?t1 ?t2 ?a ?b ?c ?d ?F ?N
  case F => k_asm
  case a => ((try dsimp only); rw [if_pos rfl])
  case b => ((try dsimp only); rw [if_neg (by decide), if_pos rfl])
  case c => ((try dsimp only); rw [if_neg (by decide), if_neg (by decide), if_pos rfl])
  case d => ((try dsimp only); rw [if_neg (by decide), if_neg (by decide), if_neg (by decide)])
  case N => exact News.pick (by k_asm) (by k_mem) News.nil
theorem t_iter : ∀ {w : World} {A₀ : Around} {base B : Heap} {outer : List Env} {Lt l : Addr} {cd : Value} {vs : List Value}
   {m mg mb : Str → Option Value} {p : Program} {loose : List Str} {mean : ExcName → Option Value} {s : Shared} {news : List (Addr × Obj)} {Q : Value → Shared → Prop},
   (Mine.hd.heap_39 w.params).In B → Top p loose mean mg mb B → Below A₀ base outer B → Fr B Lt s.heap m → News B Lt s.heap news → B.IsList l vs.toArray → vs.length ≤ 63 → m (Str.ofString "script") = some (.ref l) →
   (∀ R h' tk b t u v, (∃ k : Nat, b = (k : Int) ∧ 1 ≤ k ∧ k ≤ 8) → IsRange h' R 0 b 1 t u v → Fr B Lt h' m → News B Lt h' news → Q (.ref R) { s with heap := h', toks := tk }) →
   wpAny (model PySem.Challenge.rw_ew0014_01.row.prog w) (AA (envT w.params Lt cd :: outer) none)
     (eval (tokL w.params).1.1 (envT w.params Lt cd)) Q (fun _ _ => False) s := by
  k_fill
  intro w A₀ base B outer Lt l cd vs m mg mb p loose mean s news Q X T Bl F N hl hlen hm hQ
  dsimp only [tokL, tokS, envT]
  repeat' (first | (k_unfold; (try dsimp only)) | (k_end; wrow_close) | walk1 | (dsimp only; walk1) | (leave1; walk_say "STEP leave1"; try dsimp only))
  refine' hQ _ _ _ _ _ _ _ ?qk ?qr ?qF ?qN
  case qr => assumption
  case qF => assumption
  case qN => assumption
  case qk =>
    refine ⟨(if (if (vs.length : Int) < 8 then (vs.length : Int) else 8) > 1 then (if (vs.length : Int) < 8 then (vs.length : Int) else 8) else 1).toNat, ?_⟩
    (repeat' split) <;> omega
theorem t_1 : ∀ {w : World} {A₀ : Around} {base B : Heap} {outer : List Env} {Lt l : Addr} {cd : Value} {vs : List Value} {ns : List Int} {i : Nat} {ti : Tok}
   {m mg mb : Str → Option Value} {p : Program} {loose : List Str} {mean : ExcName → Option Value} {s : Shared} {news : List (Addr × Obj)} {Q : Flow → Shared → Prop},
   (Mine.hd.heap_39 w.params).In B → Top p loose mean mg mb B → Below A₀ base outer B → Fr B Lt s.heap m → News B Lt s.heap news → B.IsList l vs.toArray → IntsAre vs ns → vs.length ≤ 63 → m (Str.ofString "script") = some (.ref l) → m (Str.ofString "at") = some (.int (i : Int) ti) → i ≤ 8 →
   (∀ h' tk c tc, 0 ≤ c → c ≤ 63 → Fr B Lt h' (fun y => if y = Str.ofString "cell" then some (.int c tc) else m y) → News B Lt h' news → Q .next { s with heap := h', toks := tk }) →
   wpAny (model PySem.Challenge.rw_ew0014_01.row.prog w) (AA (envT w.params Lt cd :: outer) none)
     (execs ((tokL w.params).1.2.take 1) (envT w.params Lt cd)) Q (fun _ _ => False) s := by
  k_fill
  intro w A₀ base B outer Lt l cd vs ns i ti m mg mb p loose mean s news Q X T Bl F N hl hi hlen hm hm2 h8 hQ
  dsimp only [tokL, tokS, envT, List.take]
  repeat' (first | (k_unfold; (try dsimp only)) | (k_end; wrow_close) | walk1 | (dsimp only; walk1) | (leave1; walk_say "STEP leave1"; try dsimp only))
  · refine' hQ _ _ _ _ ?qa ?qb ?qF ?qN
    case qF => k_asm
    case qN => k_asm
    case qa => exact (fmod64 _).1
    case qb => exact (fmod64 _).2
  · refine' hQ _ _ _ _ ?pa ?pb ?pF ?pN
    case pF => k_asm
    case pN => k_asm
    case pa => omega
    case pb => omega
end Mine
end
section -- L15
open PySem PySem.W PyProof.Rows PySem.Calls
set_option Elab.async false
set_option maxRecDepth 100000
set_option maxHeartbeats 12000000
namespace Mine
theorem tl_menu {prog : Program} {w : World} {A : Around} {E : Value → Shared → Prop} {s : Shared} {B : Heap} {L D : Addr} {news : List (Addr × Obj)} {a b c d : Str} {t1 t2 t3 t4 u : Tok} {n : Nat} {k : Int} {value slice : PySem.Expr} {Q : Value → Shared → Prop}
    (N : News B L s.heap news) (hm : (D, listOf #[.str a t1, .str b t2, .str c t3, .str d t4] n) ∈ news) (h0 : 0 ≤ k) (h4 : k < 4) (h : ∀ x t, x ∈ [a, b, c, d] → Q (.str x t) s)
    (hs : subscripted slice false (.ref D) (.int k u) = operate [.ref D, .int k u] (getItem (.ref D) (.int k u)) := by with_unfolding_all rfl) : wpAny (model prog w) A (subscriptTail value slice (.ref D) (.int k u)) Q E s := by
  have hl := isL (vs := [.str a t1, .str b t2, .str c t3, .str d t4]) N hm
  have hk : k = 0 ∨ k = 1 ∨ k = 2 ∨ k = 3 := by omega
  rcases hk with rfl | rfl | rfl | rfl
  · exact tail_any hl.typeIs slot_list_getitem.lookup (wpAny_getItem_list hl (by decide) (by decide) rfl (h a t1 (by simp))) hs
  · exact tail_any hl.typeIs slot_list_getitem.lookup (wpAny_getItem_list hl (by decide) (by decide) rfl (h b t2 (by simp))) hs
  · exact tail_any hl.typeIs slot_list_getitem.lookup (wpAny_getItem_list hl (by decide) (by decide) rfl (h c t3 (by simp))) hs
  · exact tail_any hl.typeIs slot_list_getitem.lookup (wpAny_getItem_list hl (by decide) (by decide) rfl (h d t4 (by simp))) hs
theorem fmod4 (a : Int) : 0 ≤ a.fmod 4 ∧ a.fmod 4 < 4 := by
  rw [Int.fmod_eq_emod_of_nonneg _ (by decide)]
  omega
local macro_rules | `(tactic| walk_at "eval Name") => `(tactic| (refine wpAny_Name (wpAny_loadName_local (by rfl) (by rfl) (Fr.ns (by k_asm)) (by assumption) ?_) (by decide)))
local macro_rules | `(tactic| walk_at "subscriptTail") => `(tactic| ((with_reducible show wpAny _ _ (subscriptTail _ _ (Value.ref _) (Value.int _ _)) _ _ _); k_dflt (refine' tl_menu ?k1 ?k2 ?k3 ?k4 ?_; (case k1 => k_asm); (case k2 => k_mem); (case k3 => exact (fmod4 _).1); (case k4 => exact (fmod4 _).2); k_whole); intro x' t' hx'; (try dsimp only)))
theorem fm_succ {c : Int} (h : c.fmod 4 = 1) : (c + 1).fmod 4 ≠ 1 := by
  rw [Int.fmod_eq_emod_of_nonneg _ (by decide)] at h ⊢
  omega
theorem t_2 : ∀ {w : World} {A₀ : Around} {base B : Heap} {outer : List Env} {Lt : Addr} {cd : Value} {c : Int} {tc : Tok}
   {m mg mb : Str → Option Value} {p : Program} {loose : List Str} {mean : ExcName → Option Value} {s : Shared} {news : List (Addr × Obj)} {Q : Flow → Shared → Prop},
   (Mine.hd.heap_39 w.params).In B → Top p loose mean mg mb B → Below A₀ base outer B → Fr B Lt s.heap m → News B Lt s.heap news →
   m (Str.ofString "cell") = some (.int c tc) → 0 ≤ c → c ≤ 64 →
   (∀ h' tk wd tw, wd ∈ menu → Fr B Lt h' (fun y => if y = Str.ofString "word" then some (.str wd tw) else m y) → News B Lt h' news → Q .next { s with heap := h', toks := tk }) →
   wpAny (model PySem.Challenge.rw_ew0014_01.row.prog w) (AA (envT w.params Lt cd :: outer) none)
     (execs (((tokL w.params).1.2.drop 1).take 1) (envT w.params Lt cd)) Q (fun _ _ => False) s := by
  k_fill
  intro w A₀ base B outer Lt cd c tc m mg mb p loose mean s news Q X T Bl F N hm h0 h1 hQ 
  dsimp only [tokL, tokS, envT, List.take, List.drop]
  repeat' (first | (k_unfold; (try dsimp only)) | (k_end; wrow_close) | walk1 | (dsimp only; walk1) | (leave1; walk_say "STEP leave1"; try dsimp only))
  refine' hQ _ _ _ _ ?qm ?qF ?qN
  case qF => k_asm
  case qm => assumption
  case qN => exact News.sub (by k_asm) fun q hq => List.Mem.tail _ hq
theorem t_3 : ∀ {w : World} {A₀ : Around} {base B : Heap} {outer : List Env} {Lt : Addr} {cd : Value} {c : Int} {tc tl : Tok} {la : Str}
   {m mg mb : Str → Option Value} {p : Program} {loose : List Str} {mean : ExcName → Option Value} {s : Shared} {news : List (Addr × Obj)} {Q : Flow → Shared → Prop},
   (Mine.hd.heap_39 w.params).In B → Top p loose mean mg mb B → Below A₀ base outer B → Fr B Lt s.heap m → News B Lt s.heap news →
   m (Str.ofString "cell") = some (.int c tc) → m (Str.ofString "last") = some (.str la tl) → 0 ≤ c → c ≤ 63 → la.length ≤ 100 →
   (∀ h' tk c' tc' m', 0 ≤ c' → c' ≤ 64 → (c'.fmod 4 = 1 → la ≠ Str.ofString " ") → m' (Str.ofString "cell") = some (.int c' tc') → (∀ y, y ≠ Str.ofString "cell" → m' y = m y) → Fr B Lt h' m' → News B Lt h' news → Q .next { s with heap := h', toks := tk }) →
   wpAny (model PySem.Challenge.rw_ew0014_01.row.prog w) (AA (envT w.params Lt cd :: outer) none)
     (execs (((tokL w.params).1.2.drop 2).take 1) (envT w.params Lt cd)) Q (fun _ _ => False) s := by
  k_fill
  intro w A₀ base B outer Lt cd c tc tl la m mg mb p loose mean s news Q X T Bl F N hm hm2 h0 h1 hla hQ 
  dsimp only [tokL, tokS, envT, List.take, List.drop]
  repeat' (first | (k_unfold; (try dsimp only)) | (k_end; wrow_close) | walk1 | (dsimp only; walk1) | (leave1; walk_say "STEP leave1"; try dsimp only))
  · refine' hQ _ _ _ _ _ ?qa ?qb ?qc ?qd ?qe ?qF ?qN
    case qF => k_asm
    case qN => k_asm
    case qd => ((try dsimp only); rw [if_pos rfl])
    case qe => exact fun y hy => if_neg hy
    case qa => omega
    case qb => omega
    case qc => exact fun h => absurd h (fm_succ (by assumption))
  · refine' hQ _ _ _ _ _ ?pa ?pb ?pc ?pd ?pe ?pF ?pN
    case pF => k_asm
    case pN => k_asm
    case pd => assumption
    case pe => exact fun y hy => rfl
    case pa => omega
    case pb => omega
    case pc => exact fun _ => beq_eq_false_iff_ne.mp (by assumption)
  · refine' hQ _ _ _ _ _ ?ra ?rb ?rc ?rd ?re ?rF ?rN
    case rF => k_asm
    case rN => k_asm
    case rd => assumption
    case re => exact fun y hy => rfl
    case ra => omega
    case rb => omega
    case rc => exact fun h => absurd h (by assumption)
theorem t_4 : ∀ {w : World} {A₀ : Around} {base B : Heap} {outer : List Env} {Lt : Addr} {cd : Value} {c : Int} {tc tw : Tok} {wd : Str}
   {m mg mb : Str → Option Value} {p : Program} {loose : List Str} {mean : ExcName → Option Value} {s : Shared} {news : List (Addr × Obj)} {Q : Flow → Shared → Prop},
   (Mine.hd.heap_39 w.params).In B → Top p loose mean mg mb B → Below A₀ base outer B → Fr B Lt s.heap m → News B Lt s.heap news →
   m (Str.ofString "cell") = some (.int c tc) → m (Str.ofString "word") = some (.str wd tw) → 0 ≤ c → c ≤ 64 →
   (∀ h' tk tx tt, (c.fmod 4 = 1 ∧ tx = Str.ofString " ") ∨ (c.fmod 4 ≠ 1 ∧ tx = wd) → Fr B Lt h' (fun y => if y = Str.ofString "text" then some (.str tx tt) else m y) → News B Lt h' news → Q .next { s with heap := h', toks := tk }) →
   wpAny (model PySem.Challenge.rw_ew0014_01.row.prog w) (AA (envT w.params Lt cd :: outer) none)
     (execs (((tokL w.params).1.2.drop 3).take 1) (envT w.params Lt cd)) Q (fun _ _ => False) s := by
  k_fill
  intro w A₀ base B outer Lt cd c tc tw wd m mg mb p loose mean s news Q X T Bl F N hm hm2 h0 h1 hQ 
  dsimp only [tokL, tokS, envT, List.take, List.drop]
  repeat' (first | (k_unfold; (try dsimp only)) | (k_end; wrow_close) | walk1 | (dsimp only; walk1) | (leave1; walk_say "STEP leave1"; try dsimp only))
  · refine' hQ _ _ _ _ ?qa ?qF ?qN
    case qF => k_asm
    case qN => k_asm
    case qa => exact .inl ⟨by assumption, rfl⟩
  · refine' hQ _ _ _ _ ?pa ?pF ?pN
    case pF => k_asm
    case pN => k_asm
    case pa => exact .inr ⟨by assumption, rfl⟩
end Mine
end
section -- L16
open PySem PySem.W PyProof.Rows PySem.Calls
set_option Elab.async false
set_option maxRecDepth 100000
set_option maxHeartbeats 12000000
namespace Mine
theorem key_of {wd : Str} (h : wd ∈ menu) : KeyOk wd := key_ok (ws := [wd]) (by simp) (fun s hs => by rw [List.mem_singleton.mp hs]; exact h) (Nat.le_of_ble_eq_true rfl)
local macro_rules | `(tactic| walk_at "eval Name") => `(tactic| (refine wpAny_Name (wpAny_loadName_local (by rfl) (by rfl) (Fr.ns (by k_asm)) (by assumption) ?_) (by decide)))
local macro_rules | `(tactic| walk_at "call ref") => `(tactic| ((with_reducible show wpAny _ _ (call (Value.ref 471) [Value.str _ _] _) _ _ _); k_dflt (refine' sym_call ?k1 ?k2 ?k3 ?k4 ?k5 ?k6 ?_; (case k1 => assumption); (case k2 => assumption); (case k3 => assumption); (case k4 => k_asm); (case k5 => k_asm); (case k6 => assumption); k_whole); intro x' d' h' tk' t1 t2 t3 t4 t5 t6 tv a1 a2 F' N' l1 l2; (try k_lt l1); (try k_lt2 l2); (try dsimp only)))
local macro_rules | `(tactic| walk_at "call ref") => `(tactic| ((with_reducible show wpAny _ _ (call (Value.ref 183) [Value.int _ _, Value.int _ _, Value.str _ _, _] _) _ _ _); k_dflt (refine' token_call ?k1 ?k2 ?k3 ?k4 ?k5 ?_; (case k1 => assumption); (case k2 => assumption); (case k3 => assumption); (case k4 => k_asm); (case k5 => k_asm); k_whole); intro x' d' h' tk' F' N' l1 l2; (try k_lt l1); (try k_lt2 l2); (try dsimp only)))
local macro_rules | `(tactic| walk_at "call builtin:list.append") => `(tactic| ((k_dflt (refine' tl_append ?F ?N ?U ?z ?_; (case F => k_asm); (case N => k_asm); (case U => k_upd); (case z => first | assumption | omega | decide)); kl_rest)))
local macro_rules | `(tactic| k_all) => `(tactic| first | exact List.forall_mem_nil _ | (refine' List.forall_mem_cons.mpr ⟨?a, ?b⟩; (case a => k_ne); (case b => k_all)) | assumption | exact ne_tail (by assumption) (by omega))
theorem fdiv16 {c : Int} (h0 : 0 ≤ c) (h1 : c ≤ 64) : 0 ≤ c.fdiv 16 ∧ c.fdiv 16 ≤ 4 := by
  rw [Int.fdiv_eq_ediv_of_nonneg _ (by decide)]
  omega
theorem t_5a : ∀ {w : World} {A₀ : Around} {base B : Heap} {outer : List Env} {Lt : Addr} {cd : Value} {c pl : Int} {tc tw tt tp : Tok} {wd tx : Str} {I f : Addr} {oI : Obj} {vs : List Value} {nf : Nat} {Tl : List (Addr × Obj)}
   {m mg mb : Str → Option Value} {p : Program} {loose : List Str} {mean : ExcName → Option Value} {s : Shared} {Q : Flow → Shared → Prop},
   (Mine.hd.heap_39 w.params).In B → Top p loose mean mg mb B → Below A₀ base outer B → Fr B Lt s.heap m → News B Lt s.heap ((I, oI) :: (f, listOf vs.toArray nf) :: Tl) →
   m (Str.ofString "cell") = some (.int c tc) → m (Str.ofString "word") = some (.str wd tw) → m (Str.ofString "text") = some (.str tx tt) → m (Str.ofString "place") = some (.int pl tp) → m (Str.ofString "found") = some (.ref f) → 0 ≤ c → c ≤ 64 → 0 ≤ pl → pl ≤ 1000 → tx.length ≤ 100 → KeyOk wd → vs.length ≤ 100 → @Ne Nat I f → (∀ q ∈ Tl, q.1 ≠ f) → c.fmod 4 > 1 →
   (∀ (x dx : Addr) st en ts te tk1 (X dX : Addr) es n n' h' tk, Fr B Lt h' m → News B Lt h' [(I, oI), (f, listOf (vs ++ [Value.ref x]).toArray n'), (x, tokObj dx st en ts te tk1 tx (.ref X)), (dx, dictOf [] 0), (X, instObj 471 dX), (dX, dictOf es n)] → News B Lt h' Tl → (@Ne Nat x I ∧ @Ne Nat dx I ∧ @Ne Nat X I ∧ @Ne Nat dX I) → (@Ne Nat x f ∧ @Ne Nat dx f ∧ @Ne Nat X f ∧ @Ne Nat dX f) → Q .next { s with heap := h', toks := tk }) →
   wpAny (model PySem.Challenge.rw_ew0014_01.row.prog w) (AA (envT w.params Lt cd :: outer) none)
     (execs (((tokL w.params).1.2.drop 4).take 1) (envT w.params Lt cd)) Q (fun _ _ => False) s := by
  k_fill
  intro w A₀ base B outer Lt cd c pl tc tw tt tp wd tx I f oI vs nf Tl m mg mb p loose mean s Q X T Bl F N m1 m2 m3 m4 m5 h0 h1 h2 h3 h4 hk hvl hIf hTl hc hQ
  dsimp only [tokL, tokS, envT, List.take, List.drop]
  repeat' (first | (k_unfold; (try dsimp only)) | (k_end; wrow_close) | walk1 | (dsimp only; walk1) | (leave1; walk_say "STEP leave1"; try dsimp only))
  refine' hQ _ _ _ _ _ _ _ _ _ _ _ _ _ _ ?qF ?qN ?qN2 ?qI ?qf
  case qF => k_asm
  case qN => exact (News.pick (by k_asm) (by k_mem) (News.pick (by k_asm) (by k_mem) (News.pick (by k_asm) (by k_mem) (News.pick (by k_asm) (by k_mem) (News.pick (by k_asm) (by k_mem) (News.pick (by k_asm) (by k_mem) News.nil))))))
  case qN2 => exact News.sub (by k_asm) (fun q hq => by repeat' (first | exact hq | refine List.Mem.tail _ ?_))
  case qI => exact ⟨by k_ne, by k_ne, by k_ne, by k_ne⟩
  case qf => exact ⟨by k_ne, by k_ne, by k_ne, by k_ne⟩
theorem t_5b : ∀ {w : World} {A₀ : Around} {base B : Heap} {outer : List Env} {Lt : Addr} {cd : Value} {c pl : Int} {tc tw tt tp : Tok} {wd tx : Str} {I f : Addr} {oI : Obj} {vs : List Value} {nf : Nat} {Tl : List (Addr × Obj)}
   {m mg mb : Str → Option Value} {p : Program} {loose : List Str} {mean : ExcName → Option Value} {s : Shared} {Q : Flow → Shared → Prop},
   (Mine.hd.heap_39 w.params).In B → Top p loose mean mg mb B → Below A₀ base outer B → Fr B Lt s.heap m → News B Lt s.heap ((I, oI) :: (f, listOf vs.toArray nf) :: Tl) →
   m (Str.ofString "cell") = some (.int c tc) → m (Str.ofString "word") = some (.str wd tw) → m (Str.ofString "text") = some (.str tx tt) → m (Str.ofString "place") = some (.int pl tp) → m (Str.ofString "found") = some (.ref f) → 0 ≤ c → c ≤ 64 → 0 ≤ pl → pl ≤ 1000 → tx.length ≤ 100 → vs.length ≤ 100 → @Ne Nat I f → (∀ q ∈ Tl, q.1 ≠ f) → ¬ c.fmod 4 > 1 →
   (∀ (x dx : Addr) st en ts te tk1 n' h' tk, Fr B Lt h' m → News B Lt h' [(I, oI), (f, listOf (vs ++ [Value.ref x]).toArray n'), (x, tokObj dx st en ts te tk1 tx .none), (dx, dictOf [] 0)] → News B Lt h' Tl → (@Ne Nat x I ∧ @Ne Nat dx I) → (@Ne Nat x f ∧ @Ne Nat dx f) → Q .next { s with heap := h', toks := tk }) →
   wpAny (model PySem.Challenge.rw_ew0014_01.row.prog w) (AA (envT w.params Lt cd :: outer) none)
     (execs (((tokL w.params).1.2.drop 4).take 1) (envT w.params Lt cd)) Q (fun _ _ => False) s := by
  k_fill
  intro w A₀ base B outer Lt cd c pl tc tw tt tp wd tx I f oI vs nf Tl m mg mb p loose mean s Q X T Bl F N m1 m2 m3 m4 m5 h0 h1 h2 h3 h4 hvl hIf hTl hc hQ
  dsimp only [tokL, tokS, envT, List.take, List.drop]
  repeat' (first | (k_unfold; (try dsimp only)) | (k_end; wrow_close) | walk1 | (dsimp only; walk1) | (leave1; walk_say "STEP leave1"; try dsimp only))
  refine' hQ _ _ _ _ _ _ _ _ _ _ ?qF ?qN ?qN2 ?qI ?qf
  case qF => k_asm
  case qN => exact (News.pick (by k_asm) (by k_mem) (News.pick (by k_asm) (by k_mem) (News.pick (by k_asm) (by k_mem) (News.pick (by k_asm) (by k_mem) News.nil))))
  case qN2 => exact News.sub (by k_asm) (fun q hq => by repeat' (first | exact hq | refine List.Mem.tail _ ?_))
  case qI => exact ⟨by k_ne, by k_ne⟩
  case qf => exact ⟨by k_ne, by k_ne⟩
theorem t_6 : ∀ {w : World} {A₀ : Around} {base B : Heap} {outer : List Env} {Lt : Addr} {cd : Value} {c pl : Int} {tc tt tp : Tok} {tx : Str}
   {m mg mb : Str → Option Value} {p : Program} {loose : List Str} {mean : ExcName → Option Value} {s : Shared} {news : List (Addr × Obj)} {Q : Flow → Shared → Prop},
   (Mine.hd.heap_39 w.params).In B → Top p loose mean mg mb B → Below A₀ base outer B → Fr B Lt s.heap m → News B Lt s.heap news →
   m (Str.ofString "cell") = some (.int c tc) → m (Str.ofString "text") = some (.str tx tt) → m (Str.ofString "place") = some (.int pl tp) → 0 ≤ c → c ≤ 64 → 0 ≤ pl → pl ≤ 1000 → tx.length ≤ 8 →
   (∀ h' tk pl' t1 t2 m', 0 ≤ pl' → pl' ≤ pl + 100 → m' (Str.ofString "place") = some (.int pl' t1) → m' (Str.ofString "last") = some (.str tx t2) → m' (Str.ofString "found") = m (Str.ofString "found") → m' (Str.ofString "script") = m (Str.ofString "script") → Fr B Lt h' m' → News B Lt h' news → Q .next { s with heap := h', toks := tk }) →
   wpAny (model PySem.Challenge.rw_ew0014_01.row.prog w) (AA (envT w.params Lt cd :: outer) none)
     (execs ((tokL w.params).1.2.drop 5) (envT w.params Lt cd)) Q (fun _ _ => False) s := by
  k_fill
  intro w A₀ base B outer Lt cd c pl tc tt tp tx m mg mb p loose mean s news Q X T Bl F N m1 m2 m3 h0 h1 h2 h3 h4 hQ
  dsimp only [tokL, tokS, envT, List.drop]
  repeat' (first | (k_unfold; (try dsimp only)) | (k_end; wrow_close) | walk1 | (dsimp only; walk1) | (leave1; walk_say "STEP leave1"; try dsimp only))
  refine' hQ _ _ _ _ _ _ ?qp ?qq ?qa ?qb ?qc ?qd ?qF ?qN
  case qF => k_asm
  case qa => ((try dsimp only); rw [if_pos rfl])
  case qb => ((try dsimp only); rw [if_neg (by decide), if_pos rfl])
  case qc => ((try dsimp only); rw [if_neg (by decide), if_neg (by decide)])
  case qd => ((try dsimp only); rw [if_neg (by decide), if_neg (by decide)])
  case qp => have := fdiv16 h0 h1; omega
  case qq => have := fdiv16 h0 h1; omega
  case qN => exact News.sub (by k_asm) fun q hq => List.Mem.tail _ hq
end Mine
end
section -- L17
open PySem PySem.W PyProof.Rows PySem.Calls
set_option Elab.async false
set_option maxRecDepth 100000
set_option maxHeartbeats 12000000
namespace Mine
theorem any_step {M : Model} {A : Around} {E : Value → Shared → Prop} {s : Shared} {env : Env} {l : List Stmt} (n : Nat) {Q : Flow → Shared → Prop}
    (h : wpAny M A (execs ((l.drop n).take 1) env) (fun f s' => match f with | .next => wpAny M A (execs (l.drop (n + 1)) env) Q E s' | f => Q f s') E s) : wpAny M A (execs (l.drop n) env) Q E s := by
  refine any_take 1 ?_
  rw [List.drop_drop, Nat.add_comm]
  rw [Nat.add_comm] at h
  exact h
def KindT (T : List (Addr × Obj)) (t : Tk) : Prop :=
  (t.v = .none ∧ t.sg ∈ menu) ∨ (t.v = .none ∧ Blank t) ∨ (t.sg ∈ menu ∧ ∃ X dX es n, t.v = .ref X ∧ (X, instObj 471 dX) ∈ T ∧ (dX, dictOf es n) ∈ T)
theorem KindT.up {T T' : List (Addr × Obj)} {t : Tk} (h : ∀ q ∈ T, q ∈ T') : KindT T t → KindT T' t
  | .inl x => .inl x
  | .inr (.inl x) => .inr (.inl x)
  | .inr (.inr ⟨a, X, dX, es, n, b, c, d⟩) => .inr (.inr ⟨a, X, dX, es, n, b, h _ c, h _ d⟩)
/-- no two blanks next to one another -/
def NoBB (ts : List Tk) : Prop := ∀ i a b, ts[i]? = some a → ts[i + 1]? = some b → Blank a → Blank b → False
theorem NoBB.snoc {ts : List Tk} {t : Tk} (h : NoBB ts) (hl : ∀ a, ts.getLast? = some a → Blank a → Blank t → False) : NoBB (ts ++ [t]) := fun i a b ha hb xa xb => by
  have hi : i + 1 < (ts ++ [t]).length := (List.getElem?_eq_some_iff.mp hb).1
  rw [List.length_append, List.length_singleton] at hi
  by_cases hlt : i + 1 < ts.length
  · rw [List.getElem?_append_left (by omega)] at ha
    rw [List.getElem?_append_left hlt] at hb
    exact h i a b ha hb xa xb
  · have e : i + 1 = ts.length := by omega
    rw [List.getElem?_append_left (by omega)] at ha
    rw [e, List.getElem?_concat_length] at hb
    have e2 : b = t := (Option.some.inj hb).symm
    subst e2
    refine hl a ?_ xa xb
    rw [List.getLast?_eq_getElem?, ← e, Nat.add_sub_cancel]
    exact ha
structure TInv (B : Heap) (l : Addr) (i : Nat) (m : Str → Option Value) (nx : List (Addr × Obj)) (f : Addr) (nf : Nat) (ts : List Tk) (pl : Int) (la : Str) (Tl : List (Addr × Obj)) : Prop where
  mf : m (Str.ofString "found") = some (.ref f)
  mp : ∃ tp, m (Str.ofString "place") = some (.int pl tp)
  ml : ∃ tl, m (Str.ofString "last") = some (.str la tl)
  ms : m (Str.ofString "script") = some (.ref l)
  nx : nx = (f, listOf (ts.map rf).toArray nf) :: Tl
  len : ts.length = i
  p0 : 0 ≤ pl
  p1 : pl ≤ 100 * (i : Int)
  lal : la.length ≤ 8
  toks : ∀ t ∈ ts, (t.a, t.obj) ∈ Tl ∧ (t.dx, dictOf [] 0) ∈ Tl ∧ KindT Tl t
  bb : NoBB ts
  last : ∀ t, ts.getLast? = some t → t.sg = la
  tl : ∀ q ∈ Tl, q.2.cls ≠ .type "list" ∧ q.2.cls ≠ .type "range_iterator"
theorem itR_cls (a b : Int) : (itR a b).cls = .type "range_iterator" := rfl
theorem tx_len {c : Int} {tx wd : Str} (hw : wd ∈ menu) (h : (c.fmod 4 = 1 ∧ tx = Str.ofString " ") ∨ (c.fmod 4 ≠ 1 ∧ tx = wd)) : tx.length ≤ 8 := by
  rcases h with ⟨_, rfl⟩ | ⟨_, rfl⟩
  · decide
  · exact (menu_good _ hw).2.1
theorem t_turn {w : World} {A₀ : Around} {base B : Heap} {outer : List Env} {Lt l : Addr} {cd : Value} {mg mb : Str → Option Value} {p : Program} {loose : List Str} {mean : ExcName → Option Value} {s : Shared} {vs : List Value} {ns : List Int}
    (X : (Mine.hd.heap_39 w.params).In B) (T : Top p loose mean mg mb B) (Bl : Below A₀ base outer B) (hl : B.IsList l vs.toArray) (hi : IntsAre vs ns) (hlen : vs.length ≤ 63)
    {I : Addr} {a b : Int} {i : Nat} {ti : Tok} {m : Str → Option Value} {nx : List (Addr × Obj)} {h : Heap} {tk : Tok} {f : Addr} {nf : Nat} {ts : List Tk} {pl : Int} {la : Str} {Tl : List (Addr × Obj)} (hi8 : i < 8) (D : TInv B l i m nx f nf ts pl la Tl) (hoff : ∀ q ∈ nx, q.1 ≠ I)
    (F : Fr B Lt h (fun y => if y = Str.ofString "at" then some (.int (i : Int) ti) else m y)) (N : News B Lt h ((I, itR a b) :: nx)) :
    wpAny (model PySem.Challenge.rw_ew0014_01.row.prog w) (AA (envT w.params Lt cd :: outer) none) (execs (tokL w.params).1.2 (envT w.params Lt cd))
      (fun fl s₂ => fl = .next ∧ RTurn B Lt { s with heap := h, toks := tk } I (itR a b) (fun m nx => ∃ f nf ts pl la Tl, TInv B l (i + 1) m nx f nf ts pl la Tl) s₂) (fun _ _ => False) { s with heap := h, toks := tk } := by
  have hnx := D.nx
  subst hnx
  obtain ⟨tp, mp⟩ := D.mp
  obtain ⟨tl, ml⟩ := D.ml
  have hIf : @Ne Nat I f := fun e => hoff (f, listOf (ts.map rf).toArray nf) (by simp) e.symm
  have hTf : ∀ q ∈ Tl, q.1 ≠ f := fun q hq => obj_ne (q := (f, listOf (ts.map rf).toArray nf)) N (by simp [hq]) (by simp) (D.tl q hq).1
  refine any_take 1 (t_1 X T Bl F N hl hi hlen ((if_neg (by decide)).trans D.ms) (if_pos rfl) (by omega) ?_)
  intro h1 k1 c tc c0 c1 F1 N1
  dsimp only
  refine any_step 1 (t_2 X T Bl F1 N1 (if_pos rfl) c0 (by omega) ?_)
  intro h2 k2 wd tw hwd F2 N2
  dsimp only
  refine any_step 2 (t_3 X T Bl F2 N2 (c := c) (tc := tc) (la := la) (tl := tl) ((if_neg (by decide)).trans (if_pos rfl)) ((if_neg (by decide)).trans ((if_neg (by decide)).trans ((if_neg (by decide)).trans ml))) c0 c1 (Nat.le_trans D.lal (by decide)) ?_)
  intro h3 k3 c' tc' m3 c0' c1' hla mc hm3 F3 N3
  dsimp only
  have mw : m3 (Str.ofString "word") = some (.str wd tw) := (hm3 _ (by decide)).trans (if_pos rfl)
  refine any_step 3 (t_4 X T Bl F3 N3 mc mw c0' c1' ?_)
  intro h4 k4 tx tt htx F4 N4
  dsimp only
  have htl := tx_len hwd htx
  have m4 : ∀ y, y ≠ Str.ofString "text" → y ≠ Str.ofString "cell" → y ≠ Str.ofString "word" → y ≠ Str.ofString "at" → (if y = Str.ofString "text" then some (.str tx tt) else m3 y) = m y := fun y a1 a2 a3 a4 => by
    rw [if_neg a1, hm3 y a2]
    show (if y = Str.ofString "word" then _ else if y = Str.ofString "cell" then _ else if y = Str.ofString "at" then _ else m y) = m y
    rw [if_neg a3, if_neg a2, if_neg a4]
  have e1 : (fun y => if y = Str.ofString "text" then some (.str tx tt) else m3 y) (Str.ofString "cell") = some (.int c' tc') := (if_neg (by decide)).trans mc
  have e2 : (fun y => if y = Str.ofString "text" then some (.str tx tt) else m3 y) (Str.ofString "word") = some (.str wd tw) := (if_neg (by decide)).trans mw
  have e3 : (fun y => if y = Str.ofString "text" then some (.str tx tt) else m3 y) (Str.ofString "text") = some (.str tx tt) := if_pos rfl
  have e4 : (fun y => if y = Str.ofString "text" then some (.str tx tt) else m3 y) (Str.ofString "place") = some (.int pl tp) := (m4 _ (by decide) (by decide) (by decide) (by decide)).trans mp
  have e5 : (fun y => if y = Str.ofString "text" then some (.str tx tt) else m3 y) (Str.ofString "found") = some (.ref f) := (m4 _ (by decide) (by decide) (by decide) (by decide)).trans D.mf
  have e6 : (fun y => if y = Str.ofString "text" then some (.str tx tt) else m3 y) (Str.ofString "script") = some (.ref l) := (m4 _ (by decide) (by decide) (by decide) (by decide)).trans D.ms
  have hp1 : pl ≤ 1000 := by have := D.p1; omega
  have hvl : (ts.map rf).length ≤ 100 := by rw [List.length_map, D.len]; omega
  -- the end of the turn, for a new token and the things made with it
  have fin : ∀ (t : Tk) (nw : List (Addr × Obj)) (n' : Nat) (h5 : Heap) (k5 : Tok), t.sg = tx → (t.a, t.obj) ∈ nw → (t.dx, dictOf [] 0) ∈ nw → KindT nw t → (∀ q ∈ nw, q.2.cls ≠ .type "list" ∧ q.2.cls ≠ .type "range_iterator") → (Blank t → la ≠ Str.ofString " ") →
      Fr B Lt h5 (fun y => if y = Str.ofString "text" then some (.str tx tt) else m3 y) → News B Lt h5 ((I, itR a b) :: (f, listOf (ts.map rf ++ [rf t]).toArray n') :: (nw ++ Tl)) →
      wpAny (model PySem.Challenge.rw_ew0014_01.row.prog w) (AA (envT w.params Lt cd :: outer) none) (execs ((tokL w.params).1.2.drop 5) (envT w.params Lt cd))
        (fun fl s₂ => fl = .next ∧ RTurn B Lt { s with heap := h, toks := tk } I (itR a b) (fun m nx => ∃ f nf ts pl la Tl, TInv B l (i + 1) m nx f nf ts pl la Tl) s₂) (fun _ _ => False) { s with heap := h5, toks := k5 } := fun t nw n' h5 k5 hsg ha hdx hk hcl hbl F5 N5 => by
    refine t_6 X T Bl F5 N5 e1 e3 e4 c0' c1' D.p0 hp1 htl ?_
    intro h6 k6 pl' t1 t2 m6 p0 p1 mp6 ml6 mf6 ms6 F6 N6
    have htl' : ∀ q ∈ nw ++ Tl, q.2.cls ≠ .type "list" ∧ q.2.cls ≠ .type "range_iterator" := fun q hq => by
      rcases List.mem_append.mp hq with hq | hq
      · exact hcl q hq
      · exact D.tl q hq
    refine ⟨rfl, h6, k6, m6, _, rfl, F6, N6, fun q hq => ?_, f, n', ts ++ [t], pl', tx, nw ++ Tl, ⟨mf6.trans e5, ⟨t1, mp6⟩, ⟨t2, ml6⟩, ms6.trans e6, ?_, ?_, p0, ?_, htl, fun t' ht' => ?_, ?_, fun t' ht' => ?_, htl'⟩⟩
    · rcases List.mem_cons.mp hq with rfl | hq
      · exact hIf.symm
      · exact obj_ne (q := (I, itR a b)) N6 (by simp only [List.mem_cons]; exact .inr (.inr hq)) (.head _) (htl' q hq).2
    · rw [List.map_append]; rfl
    · rw [List.length_append, D.len]; rfl
    · have := D.p1
      push_cast
      omega
    · rcases List.mem_append.mp ht' with ht' | ht'
      · obtain ⟨x1, x2, x3⟩ := D.toks t' ht'
        exact ⟨List.mem_append_right _ x1, List.mem_append_right _ x2, x3.up fun q hq => List.mem_append_right _ hq⟩
      · rw [List.mem_singleton.mp ht']
        exact ⟨List.mem_append_left _ ha, List.mem_append_left _ hdx, hk.up fun q hq => List.mem_append_left _ hq⟩
    · refine D.bb.snoc fun a' ha' xa xb => hbl xb ?_
      rw [← D.last a' ha']; exact xa.sg
    · rw [List.getLast?_concat] at ht'
      rw [← Option.some.inj ht']; exact hsg
  by_cases hc : c'.fmod 4 > 1
  · have htx' : tx = wd := by
      rcases htx with ⟨q, _⟩ | ⟨_, q⟩
      · omega
      · exact q
    refine any_step 4 (t_5a X T Bl F4 N4 e1 e2 e3 e4 e5 c0' c1' D.p0 hp1 (Nat.le_trans htl (by decide)) (key_of hwd) hvl hIf hTf hc ?_)
    intro x dx st en tss te tk1 Xs dX es n n' h5 k5 F5 N5 N5' _ _
    refine fin ⟨x, dx, st, en, tss, te, tk1, tx, .ref Xs⟩ [(x, tokObj dx st en tss te tk1 tx (.ref Xs)), (dx, dictOf [] 0), (Xs, instObj 471 dX), (dX, dictOf es n)] n' h5 k5 rfl (by simp [Tk.obj]) (by simp) (.inr (.inr ⟨by rw [htx']; exact hwd, Xs, dX, es, n, rfl, by simp, by simp⟩)) (fun q hq => ?_) (fun hb => ?_) F5 (fun q hq => ?_)
    · simp only [List.mem_cons, List.not_mem_nil, or_false] at hq
      rcases hq with rfl | rfl | rfl | rfl
      · exact ⟨(by show Value.ref _ ≠ _; exact fun e => nomatch e), (by show Value.ref _ ≠ _; exact fun e => nomatch e)⟩
      · exact ⟨(by show Value.type _ ≠ _; decide), (by show Value.type _ ≠ _; decide)⟩
      · exact ⟨(by show Value.ref _ ≠ _; exact fun e => nomatch e), (by show Value.ref _ ≠ _; exact fun e => nomatch e)⟩
      · exact ⟨(by show Value.type _ ≠ _; decide), (by show Value.type _ ≠ _; decide)⟩
    · have z := hb.sg
      have z' : tx = Str.ofString " " := z
      rw [htx'] at z'
      exact absurd hwd (by rw [z']; decide)
    · have hq' : q ∈ [(I, itR a b), (f, listOf (ts.map rf ++ [Value.ref x]).toArray n'), (x, tokObj dx st en tss te tk1 tx (.ref Xs)), (dx, dictOf [] 0), (Xs, instObj 471 dX), (dX, dictOf es n)] ++ Tl := hq
      rcases List.mem_append.mp hq' with hq | hq
      · exact N5 q hq
      · exact N5' q hq
  · refine any_step 4 (t_5b X T Bl F4 N4 e1 e2 e3 e4 e5 c0' c1' D.p0 hp1 (Nat.le_trans htl (by decide)) hvl hIf hTf hc ?_)
    intro x dx st en tss te tk1 n' h5 k5 F5 N5 N5' _ _
    refine fin ⟨x, dx, st, en, tss, te, tk1, tx, .none⟩ [(x, tokObj dx st en tss te tk1 tx .none), (dx, dictOf [] 0)] n' h5 k5 rfl (by simp [Tk.obj]) (by simp) ?_ (fun q hq => ?_) (fun hb => ?_) F5 (fun q hq => ?_)
    · rcases htx with ⟨_, q⟩ | ⟨_, q⟩
      · exact .inr (.inl ⟨rfl, ⟨q⟩⟩)
      · exact .inl ⟨rfl, by show tx ∈ menu; rw [q]; exact hwd⟩
    · simp only [List.mem_cons, List.not_mem_nil, or_false] at hq
      rcases hq with rfl | rfl
      · exact ⟨(by show Value.ref _ ≠ _; exact fun e => nomatch e), (by show Value.ref _ ≠ _; exact fun e => nomatch e)⟩
      · exact ⟨(by show Value.type _ ≠ _; decide), (by show Value.type _ ≠ _; decide)⟩
    · rcases htx with ⟨q, _⟩ | ⟨_, q⟩
      · exact hla q
      · have z' : tx = Str.ofString " " := hb.sg
        rw [q] at z'
        exact absurd hwd (by rw [z']; decide)
    · have hq' : q ∈ [(I, itR a b), (f, listOf (ts.map rf ++ [Value.ref x]).toArray n'), (x, tokObj dx st en tss te tk1 tx .none), (dx, dictOf [] 0)] ++ Tl := hq
      rcases List.mem_append.mp hq' with hq | hq
      · exact N5 q hq
      · exact N5' q hq
end Mine
end
section -- L18
open PySem PySem.W PyProof.Rows PySem.Calls
set_option Elab.async false
set_option maxRecDepth 100000
set_option maxHeartbeats 12000000
namespace Mine
local macro_rules | `(tactic| walk_at "eval Name") => `(tactic| (refine wpAny_Name (wpAny_loadName_local (by rfl) (by rfl) (Fr.ns (by k_asm)) (by assumption) ?_) (by decide)))
theorem t_ret : ∀ {w : World} {A₀ : Around} {base B : Heap} {outer : List Env} {Lt f : Addr} {cd : Value}
   {m mg mb : Str → Option Value} {p : Program} {loose : List Str} {mean : ExcName → Option Value} {s : Shared} {news : List (Addr × Obj)} {Q : Flow → Shared → Prop},
   (Mine.hd.heap_39 w.params).In B → Top p loose mean mg mb B → Below A₀ base outer B → Fr B Lt s.heap m → News B Lt s.heap news → m (Str.ofString "found") = some (.ref f) →
   (∀ tk, Q (.ret (.ref f)) { s with toks := tk }) →
   wpAny (model PySem.Challenge.rw_ew0014_01.row.prog w) (AA (envT w.params Lt cd :: outer) none)
     (execs ((tokB w.params).1.drop 2) (envT w.params Lt cd)) Q (fun _ _ => False) s := by
  k_fill
  intro w A₀ base B outer Lt f cd m mg mb p loose mean s news Q X T Bl F N hm hQ
  dsimp only [tokB, tokS, envT, List.drop]
  repeat' (first | (k_unfold; (try dsimp only)) | (k_end; wrow_close) | walk1 | (dsimp only; walk1) | (leave1; walk_say "STEP leave1"; try dsimp only))
  exact hQ _
theorem rng {k : Nat} (h8 : k ≤ 8) : Builtin.Range.small 0 (k : Int) 1 = true ∧ Builtin.Range.rangeSize 0 (k : Int) 1 = (k : Int) := by
  have : k = 0 ∨ k = 1 ∨ k = 2 ∨ k = 3 ∨ k = 4 ∨ k = 5 ∨ k = 6 ∨ k = 7 ∨ k = 8 := by omega
  rcases this with rfl | rfl | rfl | rfl | rfl | rfl | rfl | rfl | rfl <;> exact ⟨by decide, by decide⟩
theorem tokens_body {w : World} {A₀ : Around} {base B : Heap} {outer : List Env} {Lt l : Addr} {cd : Value} {m mg mb : Str → Option Value} {p : Program} {loose : List Str} {mean : ExcName → Option Value} {s : Shared} {vs : List Value} {ns : List Int} {Q : Flow → Shared → Prop}
    (X : (Mine.hd.heap_39 w.params).In B) (T : Top p loose mean mg mb B) (Bl : Below A₀ base outer B) (hl : B.IsList l vs.toArray) (hi : IntsAre vs ns) (hlen : vs.length ≤ 63) (F : Fr B Lt s.heap m) (hm : m (Str.ofString "script") = some (.ref l))
    (hQ : ∀ f n ts Tl h' tk m', Fr B Lt h' m' → News B Lt h' ((f, listOf (ts.map rf).toArray n) :: Tl) → 1 ≤ ts.length → ts.length ≤ 8 → (∀ t ∈ ts, (t.a, t.obj) ∈ Tl ∧ (t.dx, dictOf [] 0) ∈ Tl ∧ KindT Tl t) → NoBB ts → Q (.ret (.ref f)) { s with heap := h', toks := tk }) :
    wpAny (model PySem.Challenge.rw_ew0014_01.row.prog w) (AA (envT w.params Lt cd :: outer) none) (execs (tokB w.params).1 (envT w.params Lt cd)) Q (fun _ _ => False) s := by
  refine any_take 1 (t_0 X T Bl F News.nil ?_)
  intro f h1 k1 m1 t1 t2 mf mp ml ms F1 N1
  obtain ⟨px, pos, e⟩ := tok_shape w.params
  dsimp only
  rw [e]
  refine wpAny_execs_cons (For_invV B rfl rfl (t_iter X T Bl F1 N1 hl hlen (ms.trans hm) ?_))
  rintro R h2 k2 b t u v ⟨k, rfl, hk1, hk8⟩ hr F2 N2
  refine range_inv (J := fun i m nx => ∃ f nf ts pl la Tl, TInv B l i m nx f nf ts pl la Tl) (n := k) rfl hr (rng hk8).1 (rng hk8).2 F2 N2
    ⟨f, 0, [], 0, Str.ofString "", [], mf, ⟨t1, mp⟩, ⟨t2, ml⟩, ms.trans hm, rfl, rfl, Int.le_refl _, Int.le_refl _, by decide, (fun _ h => nomatch h), (fun i a b h => by simp at h), (fun _ h => nomatch h), (fun _ h => nomatch h)⟩ ?_ ?_
  · rintro I i ti m3 nx h3 k3 hin ⟨f, nf, ts, pl, la, Tl, D⟩ hoff F3 N3
    rw [Int.zero_add] at F3
    exact t_turn (s := { s with heap := h2, toks := k2 }) X T Bl hl hi hlen (Nat.lt_of_lt_of_le hin hk8) D hoff F3 N3
  · rintro m3 nx h3 k3 ⟨f, nf, ts, pl, la, Tl, D⟩ F3 N3
    have hnx := D.nx
    subst hnx
    refine t_ret X T Bl F3 N3 D.mf fun k4 => ?_
    exact hQ f nf ts Tl h3 k4 m3 F3 N3 (by rw [D.len]; exact hk1) (by rw [D.len]; exact hk8) D.toks D.bb
theorem tokens_call {w : World} {A₀ A : Around} {base h₀ : Heap} {outer : List Env} {env : Env} {L l : Addr} {m mg mb : Str → Option Value} {pr : Program} {loose : List Str} {mean : ExcName → Option Value} {s : Shared} {vs : List Value} {ns : List Int} {Q : Value → Shared → Prop} {E : Value → Shared → Prop}
    (X : (Mine.hd.heap_39 w.params).In h₀) (T : Top pr loose mean mg mb h₀) (Bl : Below A₀ base outer h₀) (F : Fr h₀ L s.heap m)
    (hA : A.frames = some (env :: outer)) (hf : env.frame = some L) (hke : env.scope.kind = .function) (hh : A.handled = none) (hd : A.depth ≤ 399) (hu : A.units ≤ 1990)
    (hl : h₀.IsList l vs.toArray) (hi : IntsAre vs ns) (hlen : vs.length ≤ 63)
    (hQ : ∀ f n ts Tl h' tk, (∀ b o, s.heap.get? b = some o → h'.get? b = some o) → (∀ q ∈ (f, listOf (ts.map rf).toArray n) :: Tl, h'.get? q.1 = some q.2 ∧ s.heap.get? q.1 = none) → 1 ≤ ts.length → ts.length ≤ 8 → (∀ t ∈ ts, (t.a, t.obj) ∈ Tl ∧ (t.dx, dictOf [] 0) ∈ Tl ∧ KindT Tl t) → NoBB ts → Q (.ref f) { s with heap := h', toks := tk }) :
    wpAny (model PySem.Challenge.rw_ew0014_01.row.prog w) A (call (.ref 641) [.ref l]) Q E s := by
  obtain ⟨oc, od, osl, prm, dV, kV, doc, pm, an, ct, cd, ho, hci, hbind⟩ := fn641 w.params
  refine wpAny_call (defEnterF (sub := []) Bl F X News.nil T hA hf hke ho hci (Nat.lt_of_le_of_lt hd (by decide)) (hbind s (.ref l)) ?_ ?_ ?_ rfl rfl rfl)
  · intro y hy
    rw [List.mem_singleton.mp hy]
    dsimp only [tokS]; decide
  · intro g L' h₁ up dn hsz F1 N1 BG XG TG
    have up' : ∀ b o, s.heap.get? b = some o → g.get? b = some o := fun b o e => up b o e (by simp)
    have lA : LessA (A.deeper (envT w.params L' cd)) (AA (envT w.params L' cd :: env :: outer) none) := ⟨hh, by show A.depth + 1 ≤ 400; omega, .inr (by show A.frames.map _ = _; rw [hA]; rfl), .inl rfl, by show A.units + 3 ≤ 2000; omega⟩
    refine wpLess (A' := A.deeper (envT w.params L' cd)) lA.hh lA.hd lA.hf lA.hg lA.hu ?_
    refine tokens_body XG TG BG (hl.at fun o e => up' _ o (F.keep _ o e)) hi hlen F1 rfl ?_
    intro f n ts Tl h' tk m' F' N' h1 h8 htk hbb
    refine hQ f n ts Tl h' tk (fun b o e => F'.keep b o (up' b o e)) (fun q hq => ⟨(N' q hq).1, ?_⟩) h1 h8 htk hbb
    have z := (N' q hq).2.2
    cases e : s.heap.get? q.1 with
    | none => rfl
    | some o => rw [up' _ _ e] at z; cases z
  · dsimp only [tokS]; decide
end Mine
end
section -- L19
open PySem PySem.W PyProof.Rows PySem.Calls
set_option Elab.async false
set_option maxRecDepth 100000
set_option maxHeartbeats 12000000
namespace Mine
theorem word_of {t : Tk} (h : t.sg ∈ menu) : Word t := by
  obtain ⟨_, h2, h3, h4⟩ := menu_good _ h
  exact ⟨h3, h4, by omega⟩
theorem not_blank {t : Tk} (h : t.sg ∈ menu) : ¬ Blank t := fun b => absurd h (by rw [b.sg]; decide)
theorem NoBB.left {a b : List Tk} (h : NoBB (a ++ b)) : NoBB a := fun i x y hx hy => by
  have h1 : i + 1 < a.length := (List.getElem?_eq_some_iff.mp hy).1
  exact h i x y (by rw [List.getElem?_append_left (by omega)]; exact hx) (by rw [List.getElem?_append_left h1]; exact hy)
theorem NoBB.right {a b : List Tk} (h : NoBB (a ++ b)) : NoBB b := fun i x y hx hy => by
  refine h (a.length + i) x y ?_ ?_
  · rw [List.getElem?_append_right (by omega), Nat.add_sub_cancel_left]; exact hx
  · rw [List.getElem?_append_right (by omega), Nat.add_assoc, Nat.add_sub_cancel_left]; exact hy
structure RunOk (run : List Tk) : Prop where
  all : ∀ t ∈ run, t.sg ∈ menu ∨ Blank t
  bb : NoBB run
  hd : ∀ t, run.head? = some t → t.sg ∈ menu
  len : run.length ≤ 100
theorem key_run {ws0 : List Tk} {x : Tk} (h : ∀ t ∈ ws0 ++ [x], t.sg ∈ menu ∨ Blank t) (hx : x.sg ∈ menu) (hl : ws0.length ≤ 99) : KeyOk (textOf (ws0 ++ [x])) := by
  have hw : ∀ t : Tk, t.sg ∈ menu → (t.sg != Str.ofString " ") = true := fun t ht => word_ne (word_of ht)
  refine key_ok (ws := wordsOf (ws0 ++ [x])) ?_ ?_ ?_
  · unfold wordsOf
    rw [List.filter_append, List.filter_cons, hw x hx]
    simp
  · intro s hs
    obtain ⟨t, ht, rfl⟩ := List.mem_map.mp hs
    obtain ⟨h1, h2⟩ := List.mem_filter.mp ht
    rcases h t h1 with h3 | h3
    · exact h3
    · rw [blank_eq h3] at h2; cases h2
  · unfold wordsOf
    rw [List.length_map]
    refine Nat.le_trans (List.length_filter_le ..) ?_
    rw [List.length_append, List.length_singleton]; omega
theorem list_end {α : Type} (l : List α) : l = [] ∨ ∃ i y, l = i ++ [y] := by
  cases l with
  | nil => exact .inl rfl
  | cons a r => exact .inr ⟨(a :: r).dropLast, (a :: r).getLast (by simp), (List.dropLast_concat_getLast (by simp)).symm⟩
theorem head_ne {l : List Tk} {x : Tk} : ∃ fst, (l ++ [x]).head? = some fst := by
  cases l with
  | nil => exact ⟨x, rfl⟩
  | cons a r => exact ⟨a, rfl⟩
theorem runIs_of {run : List Tk} (h : RunOk run) : ∃ oi, RunIs run oi := by
  have wb : ∀ t ∈ run, Word t ∨ Blank t := fun t ht => (h.all t ht).imp word_of id
  rcases list_end run with rfl | ⟨i, y, rfl⟩
  · exact ⟨[], .nil⟩
  have hlen := h.len
  rw [List.length_append, List.length_singleton] at hlen
  rcases h.all y (by simp) with hy | hy
  · obtain ⟨fst, hf⟩ := head_ne (l := i) (x := y)
    have z := RunIs.mk i [] fst y (word_of hy) hf (.inl rfl) (by rw [List.append_nil]; exact wb) (by omega) (key_run h.all hy (by omega))
    rw [List.append_nil] at z
    exact ⟨_, z⟩
  · rcases list_end i with rfl | ⟨j, x, rfl⟩
    · exact absurd hy (not_blank (h.hd y rfl))
    have hx : x.sg ∈ menu := (h.all x (by simp)).resolve_right fun hb => by
      refine h.bb j.length x y ?_ ?_ hb hy
      · rw [List.getElem?_append_left (by simp), List.getElem?_append_right (Nat.le_refl _), Nat.sub_self]; rfl
      · rw [List.getElem?_append_right (by simp)]; simp
    rw [List.length_append, List.length_singleton] at hlen
    obtain ⟨fst, hf⟩ := head_ne (l := j) (x := x)
    exact ⟨_, RunIs.mk j [y] fst x (word_of hx) hf (.inr ⟨y, rfl, hy⟩) wb (by omega) (key_run (fun t ht => h.all t (List.mem_append_left _ ht)) hx (by omega))⟩
theorem outs_of {Tl : List (Addr × Obj)} : ∀ (ts run : List Tk), RunOk run → (∀ t ∈ ts, KindT Tl t) → NoBB (run ++ ts) → run.length + ts.length ≤ 100 →
    ∃ os, os.length ≤ 3 * ts.length + 2 ∧ ∀ B : Heap, (∀ p ∈ Tl, B.get? p.1 = some p.2) → OutsIs B run ts os
  | [], run, hr, _, _, _ => by
    obtain ⟨oi, h⟩ := runIs_of hr
    exact ⟨oi, by have := run_len h; omega, fun B _ => .nil h⟩
  | t :: ts, run, hr, hk, hb, hl => by
    have hk' : ∀ t' ∈ ts, KindT Tl t' := fun t' h => hk t' (.tail _ h)
    have ok0 : RunOk [] := ⟨(fun _ h => nomatch h), (fun i a b h => by simp at h), (fun _ h => nomatch h), Nat.zero_le _⟩
    rw [List.length_cons] at hl
    have hbt : NoBB ts := by
      have z : NoBB ((run ++ [t]) ++ ts) := by rw [List.append_assoc]; exact hb
      exact z.right
    have app : (t.v = .none) → (t.sg ∈ menu ∨ Blank t) → (run ≠ [] ∨ t.sg ∈ menu) → ∃ os, os.length ≤ 3 * (t :: ts).length + 2 ∧ ∀ B : Heap, (∀ p ∈ Tl, B.get? p.1 = some p.2) → OutsIs B run (t :: ts) os := fun hv hw hor => by
      have z : NoBB ((run ++ [t]) ++ ts) := by rw [List.append_assoc]; exact hb
      obtain ⟨os, h1, h2⟩ := outs_of ts (run ++ [t]) ⟨fun t' h => by
        rcases List.mem_append.mp h with h | h
        · exact hr.all t' h
        · rw [List.mem_singleton.mp h]; exact hw, z.left, fun t' h => by
        cases run with
        | nil =>
          have e : t = t' := Option.some.inj h
          rw [← e]
          exact hor.resolve_left fun q => q rfl
        | cons a r => exact hr.hd t' h, by rw [List.length_append, List.length_singleton]; omega⟩ hk' z (by rw [List.length_append, List.length_singleton]; omega)
      exact ⟨os, by rw [List.length_cons]; omega, fun B hB => .app hv (hor.imp id word_of) (h2 B hB)⟩
    rcases hk t (.head _) with ⟨hv, hm⟩ | ⟨hv, hbl⟩ | ⟨hm, X, dX, es, n, hv, hX, hdX⟩
    · exact app hv (.inl hm) (.inr hm)
    · by_cases hre : run = []
      · subst hre
        obtain ⟨os, h1, h2⟩ := outs_of ts [] ok0 hk' hbt (by simp; omega)
        exact ⟨.old t :: os, by simp only [List.length_cons]; omega, fun B hB => .blank hv hbl (h2 B hB)⟩
      · exact app hv (.inr hbl) (.inl hre)
    · obtain ⟨oi, hoi⟩ := runIs_of hr
      obtain ⟨os, h1, h2⟩ := outs_of ts [] ok0 hk' hbt (by simp; omega)
      refine ⟨oi ++ .old t :: os, ?_, fun B hB => .val hoi ⟨X, dX, es, n, hv, hB _ hX, hB _ hdX⟩ (h2 B hB)⟩
      have := run_len hoi
      simp only [List.length_append, List.length_cons]
      omega
end Mine
end
section -- L20a
open PySem PySem.W PyProof.Rows PySem.Calls PySem.Spec
set_option Elab.async false
set_option maxRecDepth 100000
set_option maxHeartbeats 12000000
namespace Mine
section
variable {w : World} {A : Around} {E : Value → Shared → Prop} {s : Shared} {x : Addr} {ox od : Obj}
/-- the class of a token, asked by the attribute -/
theorem tok_class {prog : Program} {P : Params} {Q : Option Value → Shared → Prop} (X : (Mine.hd.heap_39 P).In s.heap) (I : InstAt s.heap x ox 183 (some od)) (h : Q (some (.ref 183)) { s with toks := s.toks + 1 }) : wpAny (model prog w) A (getAttr? (.ref x) "__class__") Q E s := by
  have e1 : plainGet (Mine.hd.heap_39 P) 183 "__class__" = true := by kernel_rfl
  have e2 : (clsIn (Mine.hd.heap_39 P) 183).isSome = true := by kernel_rfl
  have e3 : findIn (Mine.hd.heap_39 P) (.ref 183) "__class__" = some (some (.builtin "object.__class__")) := by kernel_rfl
  have e4 : specialIn (Mine.hd.heap_39 P) (.builtin "object.__class__") "__get__" = some (some (.builtin "getset_descriptor.__get__")) := by kernel_rfl
  have e5 : takesIn (Mine.hd.heap_39 P) (.builtin "object.__class__") = some true := by kernel_rfl
  have e6 : mroIn (Mine.hd.heap_39 P) 183 (.type "object") = some true := by kernel_rfl
  exact kin_open X I (plainGet_of e1).1 (kin_hooked (s := { s with toks := s.toks + 1 }) X I (findObj_data e2 e3 e4 e5) (plainGet_of e1).2
    (wpAny_call (class_get (s := { s with toks := s.toks + 1 }) (ox := ox) (od := some od) X I e6 (handed_on rfl h))))
theorem is_cls183 {M : Model} {P : Params} {h : Heap} (X : (Mine.hd.heap_39 P).In h) : Looks M h (isType (.ref 183)) true := by
  have e2 : (clsIn (Mine.hd.heap_39 P) 183).isSome = true := by kernel_rfl
  unfold clsIn at e2
  split at e2
  · rename_i c d cd sl ho
    intro A E Q s k q
    unfold isType loadHead
    exact wpAny_bind (wpAny_loadPart (k _ _ (X _ _ ho)) (wpAny_pure q))
  · cases e2
theorem sub_no {M : Model} {P : Params} {h : Heap} (X : (Mine.hd.heap_39 P).In h) : Looks M h (isSubtype (.ref 183) (.type "str")) false :=
  looks_subIn X (by kernel_rfl)
theorem str_is : typeOf (.type "str") = pure (.type "type") := by kernel_rfl
theorem tok_nested {prog : Program} {P : Params} {dep : Int} {tk : Tok} {Q : PySem.Fin → Shared → Prop} (X : (Mine.hd.heap_39 P).In s.heap) (I : InstAt s.heap x ox 183 (some od)) (h : Q (.done (.ret (.bool false))) { s with toks := s.toks + 1 }) :
    wpAny (model prog w) A (Builtin.«isinstance.nested» ⟨[.ref x, .type "str", .int dep tk], []⟩) Q E s := by
  obtain ⟨hp, gs, dr, ts, os⟩ := s
  have L0 := I.type (M := model prog w)
  have LI : Looks (model prog w) hp (isInstance (.ref x) (.type "str")) false := L0.andThen (sub_no X)
  have hne : (Value.ref 183 == Value.type "str") = false := by decide
  unfold Builtin.«isinstance.nested»
  refine wpAny_bind (L0.at ?_)
  rw [if_neg (by rw [hne]; exact Bool.false_ne_true)]
  refine wpAny_bind (wpAny_of_eq str_is ?_)
  rw [if_pos (by decide)]
  k_delta "plainIsInstance"
  refine wpAny_bind (wpAny_bind (wpAny_of_eq (a := true) rfl ?_))
  simp only [Bool.not_true, Bool.false_eq_true, if_false]
  refine wpAny_bind (LI.at ?_)
  simp only [Bool.false_eq_true, if_false]
  refine wpAny_bind (tok_class X I ?_)
  refine wpAny_bind ((is_cls183 X).at ?_)
  simp only [Bool.not_true, Bool.false_eq_true, if_false]
  refine wpAny_bind (wpAny_rule ?_)
  refine (sub_no X).at ?_
  first
    | exact wpAny_pure h
    | exact wpAny_pure (wpAny_pure h)
    | exact wpAny_bind (wpAny_pure (wpAny_pure h))
/-- a token is no text -/
theorem tok_notstr {prog : Program} {P : Params} {Q : Value → Shared → Prop} (X : (Mine.hd.heap_39 P).In s.heap) (I : InstAt s.heap x ox 183 (some od)) (h : Q (.bool false) { s with toks := s.toks + 1 }) : wpAny (model prog w) A (call (.builtin "isinstance") [.ref x, .type "str"]) Q E s :=
  call_isinstance (S := fun _ R s => ((Mine.hd.heap_39 P).In s.heap ∧ InstAt s.heap x ox 183 (some od)) ∧ R (.ok (.ret (.bool false))) { s with toks := s.toks + 1 })
    (fun _ _ _ _ _ hs => isinstance_outer (tok_nested hs.1.1 hs.1.2 hs.2) (fun q => nomatch q)) ⟨⟨X, I⟩, h⟩
end
end Mine
end
section -- L20
open PySem PySem.W PyProof.Rows PySem.Calls
set_option Elab.async false
set_option maxRecDepth 100000
set_option maxHeartbeats 12000000
namespace Mine
def lawB (P : Params) : { b : List Stmt // bodyOf (Mine.hd.heap_39 P) 660 = b } := by
  refine ⟨?b, ?h⟩
  case h =>
    conv => lhs; whnf
def lawS (P : Params) : { b : Scope // scopeOf (Mine.hd.heap_39 P) 660 = b } := by
  refine ⟨?b, ?h⟩
  case h =>
    conv => lhs; whnf
abbrev nmL : Str := Str.ofString "law"
abbrev envL (P : Params) (L fa : Addr) (cd : Value) : Env := envX nmL (lawS P).1 L fa cd []
abbrev AD (fr : List Env) : Around := ⟨none, 310, some fr, none, 1400⟩
/-- the loop's target and body -/
def lawZ (P : Params) : { x : PySem.Expr × List Stmt // (match (lawB P).1 with | _ :: _ :: _ :: .For t _ b _ _ :: _ => (t, b) | _ => (.Constant .none 0 ⟨0, 0, 0, 0⟩, [])) = x } := by
  refine ⟨?b, ?h⟩
  case h =>
    conv => lhs; whnf
section
variable {prog : Program} {w : World} {A : Around} {E : Value → Shared → Prop} {s : Shared} {h₀ : Heap} {L : Addr} {m : Str → Option Value} {news : List (Addr × Obj)}
theorem sliceApplied_to3 {sl : Addr} {u : Tok} {Q : Int × Int × Nat → Shared → Prop} (hs : s.heap.IsSliceOf sl .none (.int 3 u) .none) (h : Q ((0 : Int), 1, 3) s) :
    wpAny (model prog w) A (Builtin.Slice.sliceApplied (.ref sl) (pure ((4 : Nat) : Int))) Q E s := by
  obtain ⟨os, hos, hcs, hds⟩ := id hs
  unfold Builtin.Slice.sliceApplied Builtin.Slice.sliceFields
  refine wpAny_bind (wpAny_bind (wpAny_field hos hds (x := .none) rfl (wpAny_bind (wpAny_field hos hds (x := .int 3 u) rfl (wpAny_bind (wpAny_field hos hds (x := .none) rfl (wpAny_pure ?_)))))))
  refine wpAny_bind (slicePart_none ?_)
  show wpAny _ _ (if ((1 : Int) == 0) = true then _ else _) _ _ s
  rw [if_neg (by decide)]
  refine wpAny_bind (slicePart_none (wpAny_bind (slicePart_int (wpAny_bind (wpAny_pure ?_)))))
  exact wpAny_pure h
theorem getItem_tup3 {t sl : Addr} {a b c d : Value} {u : Tok} {Q : Value → Shared → Prop} (ht : IsTup s.heap t #[a, b, c, d]) (hs : s.heap.IsSliceOf sl .none (.int 3 u) .none)
    (h : Q (.ref s.heap.objs.size) { s with heap := s.heap.push { cls := .type "tuple", data := .seq #[a, b, c] } }) : wpAny (model prog w) A (getItem (.ref t) (.ref sl)) Q E s := by
  obtain ⟨os, hos, hcs, hds⟩ := id hs
  have hTs : s.TypeIs (.ref sl) "slice" := ⟨os, hos, hcs⟩
  unfold getItem
  try with_reducible refine wpAny_holding ?_
  first | refine wpAny_bind (wpAny_pure ?_) | skip
  refine wpAny_bind (wpAny_sequenceKey ht.typeIs (by decide) ?_)
  refine wpAny_bind (wpAny_callSpecial?_slot (name := Str.ofString "__getitem__") ht.typeIs slot_tuple_getitem
    (wpAny_call_entry slot_tuple_getitem ht.typeIs entry_tuple_getitem ?_ (args_tuple_getitem _ _)))
  show wpAny _ _ (Builtin.Tuple.tupleItemsOf (.ref t) >>= _) _ _ s
  refine wpAny_bind (tupleItemsOf_ ht ?_)
  refine wpAny_bind (wpAny_typeOf hTs ?_)
  rw [if_pos (by decide)]
  refine wpAny_bind (sliceApplied_to3 hs ?_)
  show wpAny _ _ (if ((0 : Int) == 0 && (1 : Int) == 1 && (3 : Nat) == 4) = true then _ else _) _ _ s
  rw [if_neg (by decide)]
  first
    | exact wpAny_bind (m := Builtin.Tuple.tupleExact _) (wpAny_newObj_type (wpAny_pure ⟨_, rfl, wpAny_pure h⟩) (by show 3 ≤ sizeLine; rw [sizeLine_eq]; decide))
    | exact wpAny_bind (wpAny_bind (m := Builtin.Tuple.tupleExact _) (wpAny_newObj_type (wpAny_pure ⟨_, rfl, wpAny_pure h⟩) (by show 3 ≤ sizeLine; rw [sizeLine_eq]; decide)))
theorem slice_tup3 {value slice : PySem.Expr} {t : Addr} {a b c d : Value} {u : Tok} {Q : Value → Shared → Prop}
    (F : Fr h₀ L s.heap m) (N : News h₀ L s.heap news) (ht : (t, tupO #[a, b, c, d]) ∈ news)
    (h : ∀ D h', Fr h₀ L h' m → News h₀ L h' ((D, tupO #[a, b, c]) :: news) → (∀ p ∈ news, p.1 < D) → Q (.ref D) { s with heap := h' })
    (hs : subscripted slice false (.ref t) (.ref s.heap.objs.size) = operate [.ref s.heap.objs.size, .ref t] (getItem (.ref t) (.ref s.heap.objs.size)) := by with_unfolding_all rfl)
    (hg : ∀ r, letTemporaryGo value (.ref t) r = pure () := by intro _; with_unfolding_all rfl) :
    wpAny (model prog w) A (subscriptTail value slice (.ref t) (.ref s.heap.objs.size)) Q E { s with heap := s.heap.push { cls := .type "slice", data := .fields #[.none, .int 3 u, .none] } } := by
  have ht' : IsTup (s.heap.push { cls := .type "slice", data := .fields #[.none, .int 3 u, .none] }) t #[a, b, c, d] := ⟨_, Heap.get?_push_of_some _ (N _ ht).1, rfl, _, rfl⟩
  refine subscriptTail_ops (s := { s with heap := s.heap.push { cls := .type "slice", data := .fields #[.none, .int 3 u, .none] } }) ht'.typeIs slot_tuple_getitem.lookup
    (getItem_tup3 ht' (Heap.IsSliceOf.new ..) ?_) hs hg
  have N1 := News.push (F.push { cls := .type "slice", data := .fields #[.none, .int 3 u, .none] }) (N.grown fun _ _ e => Heap.get?_push_of_some _ e) { cls := .type "tuple", data := .seq #[a, b, c] }
  exact h _ _ ((F.push _).push _) N1 fun p hp => Nat.lt_of_lt_of_le (Heap.lt_size (N p hp).1) (by show s.heap.objs.size ≤ (s.heap.push _).objs.size; rw [Heap.size_push]; exact Nat.le_succ _)
end
theorem ne_tup3 {prog : Program} {w : World} {A : Around} {E : Value → Shared → Prop} {s : Shared} {h₀ : Heap} {L : Addr} {news : List (Addr × Obj)} {l r : Addr} {a b : Int} {c : Str} {t1 t2 t3 u1 u2 u3 : Tok} {Q : Value → Shared → Prop}
    (N : News h₀ L s.heap news) (h1 : (l, tupO #[.int a t1, .int b t2, .str c t3]) ∈ news) (h2 : (r, tupO #[.int a u1, .int b u2, .str c u3]) ∈ news) (hu : A.units < cLine) (h : Q (.bool false) s) : wpAny (model prog w) A (compareOp .NotEq (.ref l) (.ref r)) Q E s := by
  show wpAny _ _ (richCompare .NotEq (.ref l) (.ref r)) Q E s
  refine PySem.SeqAt.RcNeAt.tuples (e := fun _ => true) (items := #[.int a t1, .int b t2, .str c t3]) (items2 := #[.int a u1, .int b u2, .str c u3]) ⟨_, (N _ h1).1, rfl, _, rfl⟩ ⟨_, (N _ h2).1, rfl, _, rfl⟩ hu ?_ prog w E Q h
  intro j h1 h2
  have hj : j = 0 ∨ j = 1 ∨ j = 2 := by
    have : j < 3 := h1
    omega
  rcases hj with rfl | rfl | rfl
  · have z := (MeetsSeq.EqGives.int a a t1 u1).at A.in1 s
    rw [beq_self_eq_true] at z; exact z
  · have z := (MeetsSeq.EqGives.int b b t2 u2).at A.in1 s
    rw [beq_self_eq_true] at z; exact z
  · have z := (PyProof.Rows.eqGives_str c c t3 u3).at A.in1 s
    rw [beq_self_eq_true] at z; exact z
theorem ne_same {prog : Program} {w : World} {A : Around} {E : Value → Shared → Prop} {s : Shared} {x : Str} {t u : Tok} {Q : Value → Shared → Prop} (h : Q (.bool false) s) : wpAny (model prog w) A (compareOp .NotEq (.str x t) (.str x u)) Q E s := by
  refine PyProof.Rows.ne_str ?_
  rw [bne_self_eq_false]; exact h
theorem item4 {prog : Program} {w : World} {A : Around} {E : Value → Shared → Prop} {s : Shared} {h₀ : Heap} {L : Addr} {news : List (Addr × Obj)} {value slice : PySem.Expr} {r : Addr} {a b c d : Value} {u : Tok} {Q : Value → Shared → Prop}
    (N : News h₀ L s.heap news) (h1 : (r, tupO #[a, b, c, d]) ∈ news) (h : Q d s)
    (hs : subscripted slice false (.ref r) (.int 3 u) = operate [.ref r, .int 3 u] (getItem (.ref r) (.int 3 u)) := by with_unfolding_all rfl) (hg : ∀ x, letTemporaryGo value (.ref r) x = pure () := by intro _; with_unfolding_all rfl) : wpAny (model prog w) A (subscriptTail value slice (.ref r) (.int 3 u)) Q E s := by
  have ht : IsTup s.heap r #[a, b, c, d] := ⟨_, (N _ h1).1, rfl, _, rfl⟩
  exact PyProof.Rows.item_tuple (j := 3) ht (by decide) (by decide) rfl rfl h hs hg
theorem inst_tokN {h₀ h : Heap} {L : Addr} {news : List (Addr × Obj)} {t : Tk} (N : News h₀ L h news) (h1 : (t.a, t.obj) ∈ news) (h2 : (t.dx, dictOf [] 0) ∈ news) : InstAt h t.a t.obj 183 (some (dictOf [] 0)) := inst_tok ⟨(N _ h1).1, (N _ h2).1⟩
local macro_rules | `(tactic| walk_at "m_tail") => `(tactic| first | assumption | (refine List.Mem.tail _ ?_; walk_at "m_tail"))
theorem inst_tokR {h₀ h : Heap} {L : Addr} {news : List (Addr × Obj)} {x dx : Addr} {st en : Int} {ts te tk : Tok} {sg : Str} {v : Value} (N : News h₀ L h news) (h1 : (x, tokObj dx st en ts te tk sg v) ∈ news) (h2 : (dx, dictOf [] 0) ∈ news) : InstAt h x (tokObj dx st en ts te tk sg v) 183 (some (dictOf [] 0)) := ⟨(N _ h1).1, rfl, rfl, (N _ h2).1⟩
theorem inst_symR {h₀ h : Heap} {L : Addr} {news : List (Addr × Obj)} {x dx : Addr} {es : List DictEntry} {n : Nat} (N : News h₀ L h news) (h1 : (x, instObj 471 dx) ∈ news) (h2 : (dx, dictOf es n) ∈ news) : InstAt h x (instObj 471 dx) 471 (some (dictOf es n)) := ⟨(N _ h1).1, rfl, rfl, (N _ h2).1⟩
local macro_rules | `(tactic| k_inst) => `(tactic| (refine' inst_symR ?qN ?qa ?qb; (case qN => k_asm); (case qa => walk_at "m_tail"); (case qb => walk_at "m_tail")))
local macro_rules | `(tactic| k_inst) => `(tactic| (refine' inst_tokR ?qN ?qa ?qb; (case qN => k_asm); (case qa => walk_at "m_tail"); (case qb => walk_at "m_tail")))
local macro_rules | `(tactic| k_inst) => `(tactic| (refine' inst_tokN ?qN ?qa ?qb; (case qN => k_asm); (case qa => walk_at "m_tail"); (case qb => walk_at "m_tail")))
local macro_rules | `(tactic| walk_at "subscriptTail Name Slice ref ref") => `(tactic| ((with_reducible show wpAny _ _ (subscriptTail _ _ (Value.ref _) (Value.ref _)) _ _ _); k_dflt (refine' slice_tup3 ?qF ?qN ?qm ?_; (case qF => k_asm); (case qN => k_asm); (case qm => walk_at "m_tail"); k_whole); intro D' h' F' N' l1; (try k_lt l1); (try dsimp only)))
local macro_rules | `(tactic| walk_at "compareOp NotEq ref ref") => `(tactic| ((with_reducible show wpAny _ _ (compareOp CmpOp.NotEq (Value.ref _) (Value.ref _)) _ _ _); k_dflt (refine' ne_tup3 ?qN ?qa ?qb ?qu ?_; (case qN => k_asm); (case qa => k_mem); (case qb => k_mem); (case qu => exact Nat.le_of_ble_eq_true rfl)); (try dsimp only)))
local macro_rules | `(tactic| walk_at "compareOp NotEq str str") => `(tactic| (refine ne_same ?_; (try dsimp only)))
local macro_rules | `(tactic| walk_at "subscriptTail") => `(tactic| ((with_reducible show wpAny _ _ (subscriptTail _ _ (Value.ref _) (Value.int 3 _)) _ _ _); k_dflt (refine' item4 ?qN ?qm ?_; (case qN => k_asm); (case qm => walk_at "m_tail"); k_whole); (try dsimp only)))
local macro_rules | `(tactic| walk_at "call builtin:isinstance") => `(tactic| ((with_reducible show wpAny _ _ (call _ [Value.ref _, Value.type "str"]) _ _ _); k_dflt (refine' tok_notstr ?qX ?qI ?_; (case qX => exact Frag.In.keeps (by assumption) (Fr.keep (by k_asm))); (case qI => k_inst)); (try dsimp only)))
theorem sym_is {prog : Program} {w : World} {A : Around} {E : Value → Shared → Prop} {s : Shared} {P : Params} {x : Addr} {ox : Obj} {od : Option Obj} {Q : Value → Shared → Prop} (X : (Mine.hd.heap_39 P).In s.heap) (I : InstAt s.heap x ox 471 od) (h : Q (.bool true) s) : wpAny (model prog w) A (call (.builtin "isinstance") [.ref x, .ref 471]) Q E s :=
  isi_call X (fun M => I.type (M := M)) (by kernel_rfl) (fun q => nomatch q) h
local macro_rules | `(tactic| walk_at "call builtin:isinstance") => `(tactic| ((with_reducible show wpAny _ _ (call _ [Value.ref _, Value.ref 471]) _ _ _); k_dflt (refine' sym_is ?qX ?qI ?_; (case qX => exact Frag.In.keeps (by assumption) (Fr.keep (by k_asm))); (case qI => k_inst)); (try dsimp only)))
theorem z_old : ∀ {w : World} {A₀ : Around} {base B : Heap} {outer : List Env} {L fa Tu R : Addr} {cd : Value} {t : Tk} {a b c : Tok} {news : List (Addr × Obj)}
   {m mg mb : Str → Option Value} {p : Program} {loose : List Str} {mean : ExcName → Option Value} {s : Shared} {Q : Flow → Shared → Prop},
   (Mine.hd.heap_39 w.params).In B → Top p loose mean mg mb B → Below A₀ base outer B → Fr B L s.heap m → News B L s.heap news → IsTup s.heap Tu #[rf t, .ref R] →
   (R, tupO #[.int t.st a, .int t.en b, .str t.sg c, rf t]) ∈ news → (t.a, t.obj) ∈ news → (t.dx, dictOf [] 0) ∈ news →
   (∀ h' tk m', Fr B L h' m' → News B L h' news → Q .next { s with heap := h', toks := tk }) →
   wpAny (model PySem.Challenge.rw_ew0014_01.row.prog w) (AD (envL w.params L fa cd :: outer))
     (assign (lawZ w.params).1.1 (envL w.params L fa cd) (.ref Tu)) (fun _ s₂ => wpAny (model PySem.Challenge.rw_ew0014_01.row.prog w) (AD (envL w.params L fa cd :: outer)) (execs (lawZ w.params).1.2 (envL w.params L fa cd)) Q (fun _ _ => False) s₂) (fun _ _ => False) s := by
  k_fill
  intro w A₀ base B outer L fa Tu R cd t a b c news m mg mb p loose mean s Q X T Bl F N hT hR ht1 ht2 hQ
  dsimp only [lawZ, lawS, envL]
  repeat' (first | (k_unfold; (try dsimp only)) | (k_end; wrow_close) | walk1 | (dsimp only; walk1) | (leave1; walk_say "STEP leave1"; try dsimp only))
  exact hQ _ _ _ (by k_asm) (News.sub (by k_asm) fun q hq => List.Mem.tail _ (List.Mem.tail _ hq))
theorem z_new : ∀ {w : World} {A₀ : Around} {base B : Heap} {outer : List Env} {L fa Tu R x dx Xs dX : Addr} {cd : Value} {st en : Int} {txt : Str} {ts te tx t1 t2 t3 t4 t5 t6 tv a b c d : Tok} {a1 a2 : Addr} {news : List (Addr × Obj)}
   {m mg mb : Str → Option Value} {p : Program} {loose : List Str} {mean : ExcName → Option Value} {s : Shared} {Q : Flow → Shared → Prop},
   (Mine.hd.heap_39 w.params).In B → Top p loose mean mg mb B → Below A₀ base outer B → Fr B L s.heap m → News B L s.heap news → IsTup s.heap Tu #[.ref x, .ref R] →
   (R, tupO #[.int st a, .int en b, .str txt c, .str txt d]) ∈ news → (x, tokObj dx st en ts te tx txt (.ref Xs)) ∈ news → (dx, dictOf [] 0) ∈ news → (Xs, instObj 471 dX) ∈ news → (dX, dictOf (symEs w.params txt t1 t2 t3 t4 t5 t6 tv a1 a2) 6) ∈ news →
   (∀ h' tk m', Fr B L h' m' → News B L h' news → Q .next { s with heap := h', toks := tk }) →
   wpAny (model PySem.Challenge.rw_ew0014_01.row.prog w) (AD (envL w.params L fa cd :: outer))
     (assign (lawZ w.params).1.1 (envL w.params L fa cd) (.ref Tu)) (fun _ s₂ => wpAny (model PySem.Challenge.rw_ew0014_01.row.prog w) (AD (envL w.params L fa cd :: outer)) (execs (lawZ w.params).1.2 (envL w.params L fa cd)) Q (fun _ _ => False) s₂) (fun _ _ => False) s := by
  k_fill
  intro w A₀ base B outer L fa Tu R x dx Xs dX cd st en txt ts te tx t1 t2 t3 t4 t5 t6 tv a b c d a1 a2 news m mg mb p loose mean s Q X T Bl F N hT hR ht1 ht2 ht3 ht4 hQ
  dsimp only [lawZ, lawS, envL]
  repeat' (first | (k_unfold; (try dsimp only)) | (k_end; wrow_close) | walk1 | (dsimp only; walk1) | (leave1; walk_say "STEP leave1"; try dsimp only))
  exact hQ _ _ _ (by k_asm) (News.sub (by k_asm) fun q hq => List.Mem.tail _ (List.Mem.tail _ hq))
end Mine
end
section -- L21
open PySem PySem.W PyProof.Rows PySem.Calls
set_option Elab.async false
set_option maxRecDepth 100000
set_option maxHeartbeats 12000000
namespace Mine
theorem runIs_old {run : List Tk} {oi : List OutS} (h : RunIs run oi) {t : Tk} (ht : .old t ∈ oi) : t ∈ run := by
  cases h with
  | nil => cases ht
  | mk ws0 tr fst x =>
    rcases List.mem_cons.mp ht with e | ht
    · cases e
    · obtain ⟨t', h', e⟩ := List.mem_map.mp ht
      cases e
      exact List.mem_append_right _ h'
theorem outs_old {B : Heap} : ∀ {run ts : List Tk} {os : List OutS}, OutsIs B run ts os → ∀ {t : Tk}, .old t ∈ os → t ∈ run ∨ t ∈ ts
  | _, _, _, .nil h, _, ht => .inl (runIs_old h ht)
  | _, _, _, .val h _ r, t, ht => by
    rcases List.mem_append.mp ht with ht | ht
    · exact .inl (runIs_old h ht)
    · rcases List.mem_cons.mp ht with e | ht
      · cases e; exact .inr (.head _)
      · exact .inr (.tail _ ((outs_old r ht).resolve_left fun q => nomatch q))
  | _, _, _, .blank _ _ r, t, ht => by
    rcases List.mem_cons.mp ht with e | ht
    · cases e; exact .inr (.head _)
    · exact .inr (.tail _ ((outs_old r ht).resolve_left fun q => nomatch q))
  | _, _, _, .app _ _ r, t, ht => by
    rcases outs_old r ht with h | h
    · rcases List.mem_append.mp h with h | h
      · exact .inl h
      · rw [List.mem_singleton.mp h]; exact .inr (.head _)
    · exact .inr (.tail _ h)
theorem zip_rest {w : World} {A₀ : Around} {base h₀ : Heap} {outer : List Env} {L fa I : Addr} {cd : Value} {mg mb : Str → Option Value} {p : Program} {loose : List Str} {mean : ExcName → Option Value} {s : Shared} {Q : Flow → Shared → Prop} {news FxA FxB keep : List (Addr × Obj)} {fr : Addr → Prop}
    (X : (Mine.hd.heap_39 w.params).In h₀) (T : Top p loose mean mg mb h₀) (Bl : Below A₀ base outer h₀) (hA : ∀ q ∈ FxA, q ∈ news) (hB : ∀ q ∈ FxB, q ∈ news) (hk : SubL keep news) (hI : ∀ q ∈ news, q.1 < I)
    (done : ∀ h tk m, Fr h₀ L h m → News h₀ L h news → Q .next { s with heap := h, toks := tk }) :
    ∀ (os : List OutS) (xs ys : List Value), RowsOf (OutP w.params fr) FxA os xs → RowsOf RowP FxB os ys → (∀ t, .old t ∈ os → (t.a, t.obj) ∈ news ∧ (t.dx, dictOf [] 0) ∈ news) → ∀ m,
      ItemsRest PySem.Challenge.rw_ew0014_01.row.prog w (AD (envL w.params L fa cd :: outer)) (fun _ _ => False) h₀ (envL w.params L fa cd) (lawZ w.params).1.1 (lawZ w.params).1.2 Q s [(I + 4, "zip"), (I + 2, "tuple"), (I + 3, "tuple"), (I, "list_iterator"), (I + 1, "list_iterator")] keep (zipItems xs ys) m news
  | [], [], [], _, _, _, m => fun h tk F N => done h tk m F N
  | o :: os, x :: xs, y :: ys, ⟨⟨nw, o1, n1⟩, r1⟩, ⟨⟨nw', o2, n2⟩, r2⟩, ho, m => by
    have ih := zip_rest (fa := fa) (cd := cd) X T Bl hA hB hk hI done os xs ys r1 r2 (fun t ht => ho t (.tail _ ht))
    refine ItemsRest.pair fun Tu t h tk hT F => ?_
    intro c1 e1 c2 e2 c3 e3 c4 e4 c5 e5 N
    have hoff : ∀ q ∈ news, ∀ q' ∈ [(I + 4, c1), (I + 2, c2), (I + 3, c3), (I, c4), (I + 1, c5)], q.1 ≠ q'.1 := fun q hq q' hq' e => by
      have z : @LT.lt Nat _ q.1 I := hI q hq
      simp only [List.mem_cons, List.not_mem_nil, or_false] at hq'
      rcases hq' with rfl | rfl | rfl | rfl | rfl <;> (have e' : @Eq Nat q.1 _ := e; omega)
    have fin : ∀ h' tk' m', Fr h₀ L h' m' → News h₀ L h' ([(I + 4, c1), (I + 2, c2), (I + 3, c3), (I, c4), (I + 1, c5)] ++ news) →
        UnrPostW h₀ L { s with heap := h, toks := tk } [(I + 4, c1), (I + 2, c2), (I + 3, c3), (I, c4), (I + 1, c5)] (fun m' n' => SubL keep n' ∧ ItemsRest PySem.Challenge.rw_ew0014_01.row.prog w (AD (envL w.params L fa cd :: outer)) (fun _ _ => False) h₀ (envL w.params L fa cd) (lawZ w.params).1.1 (lawZ w.params).1.2 Q s [(I + 4, "zip"), (I + 2, "tuple"), (I + 3, "tuple"), (I, "list_iterator"), (I + 1, "list_iterator")] keep (zipItems xs ys) m' n') Q .next { s with heap := h', toks := tk' } := fun h' tk' m' F' N' =>
      ⟨h', tk', m', news, rfl, F', N', hoff, hk, ih m'⟩
    have up : ∀ q ∈ news, q ∈ [(I + 4, c1), (I + 2, c2), (I + 3, c3), (I, c4), (I + 1, c5)] ++ news := fun q hq => List.mem_append_right _ hq
    cases o with
    | old t' =>
      obtain ⟨rfl, _⟩ := o1
      obtain ⟨R, a, b, c, rfl, rfl⟩ := o2
      obtain ⟨q1, q2⟩ := ho t' (.head _)
      exact z_old (s := { s with heap := h, toks := tk }) X T Bl F N hT (up _ (hB _ (n2 _ (.head _)))) (up _ q1) (up _ q2) fun h' tk' m' F' N' => fin h' tk' m' F' N'
    | new st en txt =>
      obtain ⟨x, dx, Xs, dX, ts, te, tx, t1, t2, t3, t4, t5, t6, tv, a1, a2, rfl, rfl, _⟩ := o1
      obtain ⟨R, a, b, c, d, rfl, rfl⟩ := o2
      exact z_new (s := { s with heap := h, toks := tk }) X T Bl F N hT (up _ (hB _ (n2 _ (.head _)))) (up _ (hA _ (n1 _ (.head _)))) (up _ (hA _ (n1 _ (.tail _ (.head _))))) (up _ (hA _ (n1 _ (.tail _ (.tail _ (.head _)))))) (up _ (hA _ (n1 _ (.tail _ (.tail _ (.tail _ (.head _))))))) fun h' tk' m' F' N' => fin h' tk' m' F' N'
end Mine
end
section -- L22
open PySem PySem.W PyProof.Rows PySem.Calls
set_option Elab.async false
set_option maxRecDepth 100000
set_option maxHeartbeats 12000000
namespace Mine
theorem out_rows {P : Params} {fr : Addr → Prop} : ∀ {os : List OutS} {vs : List Value} {Fx : List (Addr × Obj)}, RowsOf (OutP P fr) Fx os vs → ∃ Fx', (∀ q ∈ Fx', q ∈ Fx ∧ fr q.1) ∧ RowsOf (OutP P (fun _ => True)) Fx' os vs
  | [], [], _, _ => ⟨[], (fun _ h => nomatch h), trivial⟩
  | o :: _, _ :: _, Fx, ⟨⟨nw, a, b⟩, r⟩ => by
    obtain ⟨Fx', h1, h2⟩ := out_rows r
    refine ⟨nw ++ Fx', fun q hq => ?_, ⟨nw, OutP.mono (fun _ _ => trivial) o _ nw a, fun p hp => List.mem_append_left _ hp⟩, h2.up fun q hq => List.mem_append_right _ hq⟩
    rcases List.mem_append.mp hq with hq | hq
    · refine ⟨b q hq, ?_⟩
      cases o with
      | old t => obtain ⟨_, rfl⟩ := a; cases hq
      | new st en txt =>
        obtain ⟨x, dx, Xs, dX, ts, te, tx, t1, t2, t3, t4, t5, t6, tv, a1, a2, _, e, h⟩ := a
        exact h q hq
    · exact h1 q hq
def ListGo (w : World) (A : Around) (E : Value → Shared → Prop) (s : Shared) (h₀ : Heap) (L : Addr) (m : Str → Option Value) (T₁ : List (Addr × Obj)) (os : List OutS) (J : Addr) (h₁ : Heap) (gens₁ : Array GenState) : Prop :=
  ∀ (tk : Tok) (Q' : Value → Shared → Prop), (∀ S h' gens' tk' vs c' Fx ps, Fr h₀ L h' m → News h₀ L h' ((205, tabObj ps) :: (S, listOf vs.toArray c') :: (T₁ ++ Fx)) → RowsOf (OutP w.params (fun _ => True)) Fx os vs → AllBare gens' → Q' (.ref S) { s with heap := h', gens := gens', toks := tk' }) →
    wpAny (model PySem.Challenge.rw_ew0014_01.row.prog w) A (call (.type "list") [.ref J]) Q' E { s with heap := h₁, gens := gens₁, toks := tk }
section
variable {w : World} {A₀ : Around} {base h₀ : Heap} {outer : List Env} {env : Env} {L : Addr} {m mg mb : Str → Option Value} {pr : Program} {loose : List Str} {mean : ExcName → Option Value} {s : Shared} {T₁ news : List (Addr × Obj)} {ts : List Tk} {os : List OutS} {tl : Addr} {n : Nat} {E : Value → Shared → Prop}
theorem ListGo.use {A : Around} {s' : Shared} {J : Addr} {Q : Value → Shared → Prop} (g : ListGo w A E s h₀ L m T₁ os J s'.heap s'.gens) (e1 : s'.drawn = s.drawn) (e2 : s'.os = s.os)
    (h : ∀ S h' gens' tk' vs c' Fx ps, Fr h₀ L h' m → News h₀ L h' ((205, tabObj ps) :: (S, listOf vs.toArray c') :: (T₁ ++ Fx)) → RowsOf (OutP w.params (fun _ => True)) Fx os vs → AllBare gens' → Q (.ref S) { s with heap := h', gens := gens', toks := tk' }) :
    wpAny (model PySem.Challenge.rw_ew0014_01.row.prog w) A (call (.type "list") [.ref J]) Q E s' := by
  have z := g s'.toks Q h
  have e : s' = { s with heap := s'.heap, gens := s'.gens, toks := s'.toks } := by cases s'; simp only at e1 e2 ⊢; subst e1; subst e2; rfl
  rw [e]; exact z
theorem build_callN {Q : Value → Shared → Prop} (X : (Mine.hd.heap_39 w.params).In h₀) (T : Top pr loose mean mg mb h₀) (Bl : Below A₀ base outer h₀) (C0 : CodeHd h₀ 209 205) (F : Fr h₀ L s.heap m) (N : News h₀ L s.heap ((205, tabObj #[]) :: T₁)) (h5 : ∀ p ∈ T₁, p.1 ≠ 205)
    (hf : env.frame = some L) (hke : env.scope.kind = .function) (htl : (tl, listOf (ts.map rf).toArray n) ∈ T₁) (hts : ∀ t ∈ ts, (t.a, t.obj) ∈ T₁ ∧ (t.dx, dictOf [] 0) ∈ T₁) (hlen : ts.length ≤ 90)
    (hout : ∀ B : Heap, (∀ p ∈ T₁, B.get? p.1 = some p.2) → OutsIs B [] ts os) (hos : os.length ≤ 1000) (hb : AllBare s.gens)
    (hQ : ∀ J h₁ gens₁ tk₁, Fr h₀ L h₁ m → News h₀ L h₁ ((205, tabObj #[]) :: T₁) → ListGo w (AD (env :: outer)) E s h₀ L m T₁ os J h₁ gens₁ → Q (.ref J) { s with heap := h₁, gens := gens₁, toks := tk₁ }) :
    wpAny (model PySem.Challenge.rw_ew0014_01.row.prog w) (AD (env :: outer)) (call (.ref 210) [.ref tl]) Q E s := by
  refine build_call X T Bl C0 F N h5 rfl hf hke ⟨rfl, Nat.le_of_ble_eq_true rfl, .inr rfl, .inl rfl, Nat.le_of_ble_eq_true rfl⟩ rfl (Nat.le_of_ble_eq_true rfl) htl hts hlen hout hos hb ?_
  intro J h₁ gens₁ tk₁ F1 N1 go
  refine hQ J h₁ gens₁ tk₁ F1 N1 fun tk Q' hQ' => go tk Q' ?_
  intro S h' gens' tk' vs c' Fx ps F' N' rows hFx hb'
  obtain ⟨Fx', hF, rows'⟩ := out_rows rows
  refine hQ' S h' gens' tk' vs c' Fx' ps F' (fun q hq => ?_) rows' hb'
  have hq' : q ∈ ((205, tabObj ps) :: (S, listOf vs.toArray c') :: T₁) ++ Fx' := hq
  rcases List.mem_append.mp hq' with hq | hq
  · exact N' q hq
  · exact ⟨hFx q (hF q hq).1, (hF q hq).2.2, (hF q hq).2.1⟩
theorem due_callN {Q : Value → Shared → Prop} (X : (Mine.hd.heap_39 w.params).In h₀) (T : Top pr loose mean mg mb h₀) (Bl : Below A₀ base outer h₀) (F : Fr h₀ L s.heap m) (N : News h₀ L s.heap news) (hsub : ∀ p ∈ T₁, p ∈ news)
    (hf : env.frame = some L) (hke : env.scope.kind = .function) (htl : (tl, listOf (ts.map rf).toArray n) ∈ T₁) (hts : ∀ t ∈ ts, (t.a, t.obj) ∈ T₁ ∧ (t.dx, dictOf [] 0) ∈ T₁) (hlen : ts.length ≤ 90)
    (hout : ∀ B : Heap, (∀ p ∈ T₁, B.get? p.1 = some p.2) → OutsIs B [] ts os)
    (hQ : ∀ S h' tk vs c Fx, RowsOf RowP Fx os vs → Fr h₀ L h' m → News h₀ L h' ((S, listOf vs.toArray c) :: (news ++ Fx)) → Q (.ref S) { s with heap := h', toks := tk }) :
    wpAny (model PySem.Challenge.rw_ew0014_01.row.prog w) (AD (env :: outer)) (call (.ref 653) [.ref tl]) Q E s := by
  have at1 : ∀ p ∈ T₁, s.heap.get? p.1 = some p.2 := fun p hp => (N p (hsub p hp)).1
  refine due_call (hout _ at1) X T Bl F rfl hf hke rfl (Nat.le_of_ble_eq_true rfl) (Nat.le_of_ble_eq_true rfl) (at1 _ htl) (fun t ht => ⟨at1 _ (hts t ht).1, at1 _ (hts t ht).2⟩) (by omega) ?_
  intro S h' tk vs c Fx up rows new
  refine hQ S h' tk vs c Fx rows (F.keeps up) fun q hq => ?_
  have fresh : ∀ q ∈ (S, listOf vs.toArray c) :: Fx, h'.get? q.1 = some q.2 ∧ q.1 ≠ L ∧ h₀.get? q.1 = none := fun q hq => by
    obtain ⟨h1, h2⟩ := new q hq
    refine ⟨h1, fun e => ?_, ?_⟩
    · obtain ⟨o, _, _, ho, _⟩ := id F.ns
      rw [e, ho] at h2; cases h2
    · cases e : h₀.get? q.1 with
      | none => rfl
      | some o => rw [F.keep _ _ e] at h2; cases h2
  rcases List.mem_cons.mp hq with rfl | hq
  · exact fresh _ (.head _)
  · rcases List.mem_append.mp hq with hq | hq
    · exact ⟨up _ _ (N q hq).1, (N q hq).2⟩
    · exact fresh q (.tail _ hq)
theorem tokens_callN {l : Addr} {vs : List Value} {ns : List Int} {Q : Value → Shared → Prop} (X : (Mine.hd.heap_39 w.params).In h₀) (T : Top pr loose mean mg mb h₀) (Bl : Below A₀ base outer h₀) (F : Fr h₀ L s.heap m) (N : News h₀ L s.heap news)
    (hf : env.frame = some L) (hke : env.scope.kind = .function) (hl : h₀.IsList l vs.toArray) (hi : IntsAre vs ns) (hlen : vs.length ≤ 63)
    (hQ : ∀ f n ts Tl h' tk, Fr h₀ L h' m → News h₀ L h' (news ++ (f, listOf (ts.map rf).toArray n) :: Tl) → (∀ p ∈ news, ∀ q ∈ (f, listOf (ts.map rf).toArray n) :: Tl, q.1 ≠ p.1) → 1 ≤ ts.length → ts.length ≤ 8 → (∀ t ∈ ts, (t.a, t.obj) ∈ Tl ∧ (t.dx, dictOf [] 0) ∈ Tl ∧ KindT Tl t) → NoBB ts → Q (.ref f) { s with heap := h', toks := tk }) :
    wpAny (model PySem.Challenge.rw_ew0014_01.row.prog w) (AD (env :: outer)) (call (.ref 641) [.ref l]) Q E s := by
  refine tokens_call X T Bl F rfl hf hke rfl (Nat.le_of_ble_eq_true rfl) (Nat.le_of_ble_eq_true rfl) hl hi hlen ?_
  intro f n ts Tl h' tk up new h1 h8 htk hbb
  refine hQ f n ts Tl h' tk (F.keeps up) (fun q hq => ?_) (fun p hp q hq e => ?_) h1 h8 htk hbb
  · rcases List.mem_append.mp hq with hq | hq
    · exact ⟨up _ _ (N q hq).1, (N q hq).2⟩
    · obtain ⟨h1, h2⟩ := new q hq
      refine ⟨h1, fun e => ?_, ?_⟩
      · obtain ⟨o, _, _, ho, _⟩ := id F.ns
        rw [e, ho] at h2; cases h2
      · cases e : h₀.get? q.1 with
        | none => rfl
        | some o => rw [F.keep _ _ e] at h2; cases h2
  · have z := (new q hq).2
    rw [e, (N p hp).1] at z; cases z
theorem tl_len {prog : Program} {A : Around} {D : Addr} {vs : List Value} {c : Nat} {Q : Value → Shared → Prop} (N : News h₀ L s.heap news) (hm : (D, listOf vs.toArray c) ∈ news) (hz : vs.length ≤ 1000) (h : ∀ t k, Q (.int (vs.length : Int) t) { s with toks := k }) : wpAny (model prog w) A (call (.builtin "len") [.ref D]) Q E s := by
  refine call_len_list (isL N hm) (by simp; omega) ?_
  have e : ((vs.toArray.size : Nat) : Int) = (vs.length : Int) := by simp
  rw [e]; exact h _ _
end
local macro_rules | `(tactic| walk_at "m_tail") => `(tactic| first | assumption | (refine List.Mem.tail _ ?_; walk_at "m_tail"))
local macro_rules | `(tactic| walk_at "eval Name") => `(tactic| (refine wpAny_Name (wpAny_loadName_local (by rfl) (by rfl) (Fr.ns (by k_asm)) (by assumption) ?_) (by decide)))
local macro_rules | `(tactic| walk_at "call ref") => `(tactic| ((with_reducible show wpAny _ _ (call (Value.ref 641) [Value.ref _] _) _ _ _); (k_dflt (refine' tokens_callN ?k1 ?k2 ?k3 ?k4 ?k5 ?k6 ?k7 ?k8 ?k9 ?k10 ?_; (case k1 => assumption); (case k2 => assumption); (case k3 => assumption); (case k4 => k_asm); (case k5 => k_asm); (case k6 => exact rfl); (case k7 => exact rfl); (case k8 => assumption); (case k9 => assumption); (case k10 => assumption); k_whole)); intro f' n' ts' Tl' h' tk' F' N' q1' q2' q3' q4' q5'; (try dsimp only)))
local macro_rules | `(tactic| walk_at "call ref") => `(tactic| ((with_reducible show wpAny _ _ (call (Value.ref 210) [Value.ref _] _) _ _ _); (k_dflt (refine' build_callN ?k1 ?k2 ?k3 ?k4 ?k5 ?k6 ?k7 ?k8 ?k9 ?k10 ?k11 ?k12 ?k13 ?k14 ?k15 ?_; (case k1 => assumption); (case k2 => assumption); (case k3 => assumption); (case k4 => assumption); (case k5 => k_asm); (case k6 => k_asm); (case k7 => assumption); (case k8 => exact rfl); (case k9 => exact rfl); (case k10 => assumption); (case k11 => assumption); (case k12 => assumption); (case k13 => assumption); (case k14 => assumption); (case k15 => assumption); k_whole)); intro J' h' gens' tk' F' N' go'; (try dsimp only)))
local macro_rules | `(tactic| walk_at "call type:list") => `(tactic| ((with_reducible show wpAny _ _ (call (Value.type "list") [Value.ref _]) _ _ _); (refine ListGo.use (by assumption) rfl rfl ?_); intro S' h' gens' tk' vs' c' Fx' ps' F' N' rows' hbare'; (try dsimp only)))
local macro_rules | `(tactic| walk_at "call ref") => `(tactic| ((with_reducible show wpAny _ _ (call (Value.ref 653) [Value.ref _] _) _ _ _); (k_dflt (refine' due_callN ?k1 ?k2 ?k3 ?k4 ?k5 ?k6 ?k7 ?k8 ?k9 ?k10 ?k11 ?k12 ?_; (case k1 => assumption); (case k2 => assumption); (case k3 => assumption); (case k4 => k_asm); (case k5 => k_asm); (case k12 => assumption); (case k9 => assumption); (case k10 => assumption); (case k6 => (intro q hq; exact List.Mem.tail _ (List.Mem.tail _ (List.mem_append_left _ hq)))); (case k7 => exact rfl); (case k8 => exact rfl); (case k11 => assumption); k_whole)); intro D' h' tk' vs' c' Fx' rows' F' N'; (try dsimp only)))
theorem l_1 : ∀ {w : World} {A₀ : Around} {base h₀ : Heap} {outer : List Env} {L fa l : Addr} {cd : Value} {vs : List Value} {ns : List Int}
   {m mg mb : Str → Option Value} {p : Program} {loose : List Str} {mean : ExcName → Option Value} {s : Shared} {news : List (Addr × Obj)} {Q : Flow → Shared → Prop},
   (Mine.hd.heap_39 w.params).In h₀ → Top p loose mean mg mb h₀ → Below A₀ base outer h₀ → Fr h₀ L s.heap m → News h₀ L s.heap news → h₀.IsList l vs.toArray → IntsAre vs ns → vs.length ≤ 63 → m (Str.ofString "script") = some (.ref l) →
   (∀ f n ts Tl h' tk, Fr h₀ L h' (fun y => if y = Str.ofString "tokens" then some (.ref f) else m y) → News h₀ L h' (news ++ (f, listOf (ts.map rf).toArray n) :: Tl) → (∀ p ∈ news, ∀ q ∈ (f, listOf (ts.map rf).toArray n) :: Tl, q.1 ≠ p.1) → 1 ≤ ts.length → ts.length ≤ 8 → (∀ t ∈ ts, (t.a, t.obj) ∈ Tl ∧ (t.dx, dictOf [] 0) ∈ Tl ∧ KindT Tl t) → NoBB ts → Q .next { s with heap := h', toks := tk }) →
   wpAny (model PySem.Challenge.rw_ew0014_01.row.prog w) (AD (envL w.params L fa cd :: outer))
     (execs ((lawB w.params).1.take 1) (envL w.params L fa cd)) Q (fun _ _ => False) s := by
  k_fill
  intro w A₀ base h₀ outer L fa l cd vs ns m mg mb p loose mean s news Q X T Bl F N hl hi hlen hm hQ
  dsimp only [lawB, lawS, envL, List.take]
  repeat' (first | (k_unfold; (try dsimp only)) | (k_end; wrow_close) | walk1 | (dsimp only; walk1) | (leave1; walk_say "STEP leave1"; try dsimp only))
  exact hQ _ _ _ _ _ _ (by k_asm) (by k_asm) (by assumption) (by assumption) (by assumption) (by assumption) (by assumption)
theorem l_2 : ∀ {w : World} {A₀ : Around} {base h₀ : Heap} {outer : List Env} {L fa tl : Addr} {cd : Value} {ts : List Tk} {os : List OutS} {n : Nat} {T₁ : List (Addr × Obj)}
   {m mg mb : Str → Option Value} {p : Program} {loose : List Str} {mean : ExcName → Option Value} {s : Shared} {Q : Flow → Shared → Prop},
   (Mine.hd.heap_39 w.params).In h₀ → Top p loose mean mg mb h₀ → Below A₀ base outer h₀ → CodeHd h₀ 209 205 → Fr h₀ L s.heap m → News h₀ L s.heap ((205, tabObj #[]) :: T₁) → (∀ p ∈ T₁, p.1 ≠ 205) → m (Str.ofString "tokens") = some (.ref tl) →
   (tl, listOf (ts.map rf).toArray n) ∈ T₁ → (∀ t ∈ ts, (t.a, t.obj) ∈ T₁ ∧ (t.dx, dictOf [] 0) ∈ T₁) → ts.length ≤ 90 → (∀ B : Heap, (∀ p ∈ T₁, B.get? p.1 = some p.2) → OutsIs B [] ts os) → os.length ≤ 1000 → AllBare s.gens →
   (∀ S D h' gens' tk m' vs ws c d FxA FxB ps, m' (Str.ofString "told") = some (.ref S) → m' (Str.ofString "due") = some (.ref D) → RowsOf (OutP w.params (fun _ => True)) FxA os vs → RowsOf RowP FxB os ws → AllBare gens' → Fr h₀ L h' m' →
      News h₀ L h' [(205, tabObj ps), (S, listOf vs.toArray c), (D, listOf ws.toArray d)] → News h₀ L h' (T₁ ++ FxA ++ FxB) → Q .next { s with heap := h', gens := gens', toks := tk }) →
   wpAny (model PySem.Challenge.rw_ew0014_01.row.prog w) (AD (envL w.params L fa cd :: outer))
     (execs (((lawB w.params).1.drop 1).take 1) (envL w.params L fa cd)) Q (fun _ _ => False) s := by
  k_fill
  intro w A₀ base h₀ outer L fa tl cd ts os n T₁ m mg mb p loose mean s Q X T Bl C0 F N h5 hm htl hts hlen hout hos hb hQ
  dsimp only [lawB, lawS, envL, List.take, List.drop]
  repeat' (first | (k_unfold; (try dsimp only)) | (k_end; wrow_close) | walk1 | (dsimp only; walk1) | (leave1; walk_say "STEP leave1"; try dsimp only))
  refine' hQ _ _ _ _ _ _ _ _ _ _ _ _ _ ?qa ?qb ?r1 ?r2 ?qG ?qF ?qN ?qN2
  case qF => k_asm
  case qa => ((try dsimp only); rw [if_pos rfl])
  case qb => ((try dsimp only); rw [if_neg (by decide), if_pos rfl])
  case r1 => assumption
  case r2 => assumption
  case qG => assumption
  case qN => exact News.pick (by k_asm) (by with_unfolding_all k_mem) (News.pick (by k_asm) (by with_unfolding_all k_mem) (News.pick (by k_asm) (by with_unfolding_all k_mem) News.nil))
  case qN2 =>
    refine News.sub (by k_asm) fun q hq => ?_
    have z := hq
    simp only [List.mem_append, List.mem_cons, List.cons_append] at z ⊢
    rcases z with (z | z) | z <;> simp [z]
local macro_rules | `(tactic| walk_at "call builtin:len") => `(tactic| ((with_reducible show wpAny _ _ (call (Value.builtin "len") [Value.ref _]) _ _ _); (refine tl_len (by k_asm) (by k_mem) (by assumption) ?_; intro _ _; (try dsimp only))))
theorem l_3 : ∀ {w : World} {A₀ : Around} {base h₀ : Heap} {outer : List Env} {L fa S D : Addr} {cd : Value} {vs ws : List Value} {c d k : Nat} {news : List (Addr × Obj)}
   {m mg mb : Str → Option Value} {p : Program} {loose : List Str} {mean : ExcName → Option Value} {s : Shared} {Q : Flow → Shared → Prop},
   (Mine.hd.heap_39 w.params).In h₀ → Top p loose mean mg mb h₀ → Below A₀ base outer h₀ → Fr h₀ L s.heap m → News h₀ L s.heap ((S, listOf vs.toArray c) :: (D, listOf ws.toArray d) :: news) → m (Str.ofString "told") = some (.ref S) → m (Str.ofString "due") = some (.ref D) →
   vs.length = k → ws.length = k → vs.length ≤ 1000 → ws.length ≤ 1000 →
   (∀ h' tk, Fr h₀ L h' m → News h₀ L h' ((S, listOf vs.toArray c) :: (D, listOf ws.toArray d) :: news) → Q .next { s with heap := h', toks := tk }) →
   wpAny (model PySem.Challenge.rw_ew0014_01.row.prog w) (AD (envL w.params L fa cd :: outer))
     (execs (((lawB w.params).1.drop 2).take 1) (envL w.params L fa cd)) Q (fun _ _ => False) s := by
  k_fill
  intro w A₀ base h₀ outer L fa S D cd vs ws c d k news m mg mb p loose mean s Q X T Bl F N hm1 hm2 hv hw hv2 hw2 hQ
  dsimp only [lawB, lawS, envL, List.take, List.drop]
  repeat' (first | (k_unfold; (try dsimp only)) | (k_end; wrow_close) | walk1 | (dsimp only; walk1) | (leave1; walk_say "STEP leave1"; try dsimp only))
  · exfalso; omega
  · exact hQ _ _ (by k_asm) (by k_asm)
theorem l_5 : ∀ {w : World} {A₀ : Around} {base h₀ : Heap} {outer : List Env} {L fa : Addr} {cd : Value} {news : List (Addr × Obj)}
   {m mg mb : Str → Option Value} {p : Program} {loose : List Str} {mean : ExcName → Option Value} {s : Shared} {Q : Flow → Shared → Prop},
   (Mine.hd.heap_39 w.params).In h₀ → Top p loose mean mg mb h₀ → Below A₀ base outer h₀ → Fr h₀ L s.heap m → News h₀ L s.heap news →
   Q (.ret (.bool true)) s →
   wpAny (model PySem.Challenge.rw_ew0014_01.row.prog w) (AD (envL w.params L fa cd :: outer))
     (execs ((lawB w.params).1.drop 4) (envL w.params L fa cd)) Q (fun _ _ => False) s := by
  k_fill
  intro w A₀ base h₀ outer L fa cd news m mg mb p loose mean s Q X T Bl F N hQ
  dsimp only [lawB, lawS, envL, List.take, List.drop]
  repeat' (first | (k_unfold; (try dsimp only)) | (k_end; wrow_close) | walk1 | (dsimp only; walk1) | (leave1; walk_say "STEP leave1"; try dsimp only))
  first | exact hQ | trace_state
end Mine
end
section -- L23
open PySem PySem.W PyProof.Rows PySem.Calls
set_option Elab.async false
set_option maxRecDepth 100000
set_option maxHeartbeats 12000000
namespace Mine
def lawI (P : Params) : { x : PySem.Expr // (match (lawB P).1 with | _ :: _ :: _ :: .For _ i _ _ _ :: _ => i | _ => .Constant .none 0 ⟨0, 0, 0, 0⟩) = x } := by
  refine ⟨?b, ?h⟩
  case h =>
    conv => lhs; whnf
theorem law_shape (P : Params) : ∃ pos, (lawB P).1.drop 3 = .For (lawZ P).1.1 (lawI P).1 (lawZ P).1.2 [] pos :: (lawB P).1.drop 4 := ⟨_, rfl⟩
theorem lawZ_tup (P : Params) : ∃ elts k pos, (lawZ P).1.1 = .Tuple elts k pos := ⟨_, _, _, rfl⟩
local macro_rules | `(tactic| walk_at "eval Name") => `(tactic| (refine wpAny_Name (wpAny_loadName_local (by rfl) (by rfl) (Fr.ns (by k_asm)) (by assumption) ?_) (by decide)))
local macro_rules | `(tactic| walk_at "call type:zip") => `(tactic| (refine (by assumption : ∀ tk : Tok, wpAny _ _ _ _ _ { _ with toks := tk }) _))
theorem l_4i : ∀ {w : World} {A₀ : Around} {base h₀ : Heap} {outer : List Env} {L fa S D : Addr} {cd : Value} {news : List (Addr × Obj)}
   {m mg mb : Str → Option Value} {p : Program} {loose : List Str} {mean : ExcName → Option Value} {s : Shared} {Q : Value → Shared → Prop},
   (Mine.hd.heap_39 w.params).In h₀ → Top p loose mean mg mb h₀ → Below A₀ base outer h₀ → Fr h₀ L s.heap m → News h₀ L s.heap news → m (Str.ofString "told") = some (.ref S) → m (Str.ofString "due") = some (.ref D) →
   (∀ tk : Tok, wpAny (model PySem.Challenge.rw_ew0014_01.row.prog w) (AD (envL w.params L fa cd :: outer)) (call (.type "zip") [.ref S, .ref D]) Q (fun _ _ => False) { s with toks := tk }) →
   wpAny (model PySem.Challenge.rw_ew0014_01.row.prog w) (AD (envL w.params L fa cd :: outer)) (eval (lawI w.params).1 (envL w.params L fa cd)) Q (fun _ _ => False) s := by
  k_fill
  intro w A₀ base h₀ outer L fa S D cd news m mg mb p loose mean s Q X T Bl F N hm1 hm2 hz
  dsimp only [lawI, lawS, envL]
  dsimp only [lawS, envL] at hz
  repeat' (first | (k_unfold; (try dsimp only)) | (k_end; wrow_close) | exact hz _ | walk1 | (dsimp only; walk1) | (leave1; walk_say "STEP leave1"; try dsimp only))
theorem law_body {w : World} {A₀ : Around} {base h₀ : Heap} {outer : List Env} {L fa l : Addr} {cd : Value} {m mg mb : Str → Option Value} {p : Program} {loose : List Str} {mean : ExcName → Option Value} {s : Shared} {vs : List Value} {ns : List Int} {Q : Flow → Shared → Prop}
    (X : (Mine.hd.heap_39 w.params).In h₀) (T : Top p loose mean mg mb h₀) (Bl : Below A₀ base outer h₀) (C0 : CodeHd h₀ 209 205) (F : Fr h₀ L s.heap m) (N : News h₀ L s.heap [(143, tabObj #[]), (205, tabObj #[])])
    (hl : h₀.IsList l vs.toArray) (hi : IntsAre vs ns) (hlen : vs.length ≤ 63) (hm : m (Str.ofString "script") = some (.ref l)) (hb : AllBare s.gens)
    (hQ : ∀ h' gens' tk m' ps, AllBare gens' → Fr h₀ L h' m' → News h₀ L h' [(143, tabObj #[]), (205, tabObj ps)] → Q (.ret (.bool true)) { s with heap := h', gens := gens', toks := tk }) :
    wpAny (model PySem.Challenge.rw_ew0014_01.row.prog w) (AD (envL w.params L fa cd :: outer)) (execs (lawB w.params).1 (envL w.params L fa cd)) Q (fun _ _ => False) s := by
  refine any_take 1 (l_1 X T Bl F N hl hi hlen hm ?_)
  intro f n ts Tl h1 k1 F1 N1 hoff hn1 hn8 htk hbb
  dsimp only
  have hT : News h₀ L h1 ((205, tabObj #[]) :: (143, tabObj #[]) :: (f, listOf (ts.map rf).toArray n) :: Tl) := News.sub N1 fun q hq => by
    simp only [List.mem_cons, List.mem_append, List.not_mem_nil, or_false] at hq ⊢
    rcases hq with h | h | h | h <;> simp [h]
  have h5 : ∀ q ∈ (143, tabObj #[]) :: (f, listOf (ts.map rf).toArray n) :: Tl, q.1 ≠ 205 := fun q hq => by
    rcases List.mem_cons.mp hq with rfl | hq
    · show (143 : Nat) ≠ 205; decide
    · exact hoff (205, tabObj #[]) (by simp) q hq
  have ok0 : RunOk [] := ⟨(fun _ h => nomatch h), (fun i a b h => by simp at h), (fun _ h => nomatch h), Nat.zero_le _⟩
  obtain ⟨os, hos, hout⟩ := outs_of (Tl := Tl) ts [] ok0 (fun t ht => (htk t ht).2.2) hbb (by simp; omega)
  have hold : ∀ t, .old t ∈ os → t ∈ ts := fun t ht => (outs_old (hout h1 fun q hq => (hT q (by simp [hq])).1) ht).resolve_left fun h => nomatch h
  refine any_step 1 (l_2 X T Bl C0 F1 hT h5 (if_pos rfl) (n := n) (ts := ts) (os := os) (by simp) (fun t ht => ⟨by simp [(htk t ht).1], by simp [(htk t ht).2.1]⟩) (by omega) (fun B hB => hout B fun q hq => hB q (by simp [hq])) (by omega) hb ?_)
  intro S D h2 g2 k2 m2 vs2 ws2 c d FxA FxB ps mt md rA rB hg2 F2 N2 N2'
  dsimp only
  have lA := rows_len rA
  have lB := rows_len rB
  have N3 : News h₀ L h2 ((S, listOf vs2.toArray c) :: (D, listOf ws2.toArray d) :: (205, tabObj ps) :: (((143, tabObj #[]) :: (f, listOf (ts.map rf).toArray n) :: Tl) ++ FxA ++ FxB)) := fun q hq => by
    rcases List.mem_cons.mp hq with rfl | hq
    · exact N2 _ (by simp)
    rcases List.mem_cons.mp hq with rfl | hq
    · exact N2 _ (by simp)
    rcases List.mem_cons.mp hq with rfl | hq
    · exact N2 _ (by simp)
    exact N2' q hq
  refine any_step 2 (l_3 X T Bl F2 N3 mt md lA lB (by omega) (by omega) ?_)
  intro h3 k3 F3 N4
  dsimp only
  obtain ⟨pos, e⟩ := law_shape w.params
  rw [e]
  refine wpAny_execs_cons (For_turns F3 (l_4i X T Bl F3 N4 mt md fun k4 => ?_))
  obtain ⟨elts, kk, pos', e'⟩ := lawZ_tup w.params
  have rest : ∀ I : Addr, (∀ q ∈ (S, listOf vs2.toArray c) :: (D, listOf ws2.toArray d) :: (205, tabObj ps) :: (((143, tabObj #[]) :: (f, listOf (ts.map rf).toArray n) :: Tl) ++ FxA ++ FxB), q.1 < I) →
      ItemsRest PySem.Challenge.rw_ew0014_01.row.prog w (AD (envL w.params L fa cd :: outer)) (fun _ _ => False) h₀ (envL w.params L fa cd) (lawZ w.params).1.1 (lawZ w.params).1.2
        (fun f s' => match f with | .next => wpAny (model PySem.Challenge.rw_ew0014_01.row.prog w) (AD (envL w.params L fa cd :: outer)) (execs ((lawB w.params).1.drop 4) (envL w.params L fa cd)) Q (fun _ _ => False) s' | f => Q f s')
        { s with heap := h3, gens := g2, toks := k4 } [(I + 4, "zip"), (I + 2, "tuple"), (I + 3, "tuple"), (I, "list_iterator"), (I + 1, "list_iterator")] [(S, listOf vs2.toArray c), (D, listOf ws2.toArray d)] (zipItems vs2 ws2) m2
        ((S, listOf vs2.toArray c) :: (D, listOf ws2.toArray d) :: (205, tabObj ps) :: (((143, tabObj #[]) :: (f, listOf (ts.map rf).toArray n) :: Tl) ++ FxA ++ FxB)) := fun I hI => by
    refine zip_rest (FxA := FxA) (FxB := FxB) X T Bl (fun q hq => by simp [hq]) (fun q hq => by simp [hq]) (by exact And.intro (by simp) (And.intro (by simp) trivial)) hI ?_ os vs2 ws2 rA rB (fun t ht => ?_) m2
    · intro h4 k5 m4 F4 N5
      dsimp only
      refine l_5 X T Bl F4 N5 ?_
      refine hQ h4 g2 k5 m4 ps hg2 F4 fun q hq => N5 q ?_
      simp only [List.mem_cons, List.not_mem_nil, or_false] at hq
      rcases hq with rfl | rfl <;> simp
    · obtain ⟨a1, a2, _⟩ := htk t (hold t ht)
      exact ⟨by simp [a1], by simp [a2]⟩
  rw [e'] at rest ⊢
  exact ktu_zip rfl F3 N4 (by simp) rfl rfl (by simp) rfl rfl rest
end Mine
end
section -- L24
open PySem PySem.W PyProof.Rows PySem.Calls
set_option Elab.async false
set_option maxRecDepth 100000
set_option maxHeartbeats 12000000
namespace Mine
def EndQ (h₀ : Heap) (L : Addr) (s : Shared) (f : Flow) (s' : Shared) : Prop := ∃ h' gens' tk m' ps, f = .ret (.bool true) ∧ s' = { s with heap := h', gens := gens', toks := tk } ∧ AllBare gens' ∧ Fr h₀ L h' m' ∧ News h₀ L h' [(143, tabObj #[]), (205, tabObj ps)]
theorem law_end {w : World} {h₀ : Heap} {L fa l : Addr} {cd : Value} {m mg mb : Str → Option Value} {p : Program} {loose : List Str} {mean : ExcName → Option Value} {s : Shared} {vs : List Value} {ns : List Int} {Q : Flow → Shared → Prop} {E : Value → Shared → Prop}
    (X : (Mine.hd.heap_39 w.params).In h₀) (T : Top p loose mean mg mb h₀) (Bl : Below callerA h₀ [] h₀) (C0 : CodeHd h₀ 209 205) (F : Fr h₀ L s.heap m) (N : News h₀ L s.heap [(143, tabObj #[]), (205, tabObj #[])])
    (hl : h₀.IsList l vs.toArray) (hi : IntsAre vs ns) (hlen : ¬ ((63 : Nat) : Int) < (ns.length : Int)) (hm : m (Str.ofString "script") = some (.ref l)) (hb : AllBare s.gens)
    (hQ : ∀ f s', EndQ h₀ L s f s' → Q f s') :
    wpAny (model PySem.Challenge.rw_ew0014_01.row.prog w) (callerA.deeper (envL w.params L fa cd)) (execs (lawB w.params).1 (envL w.params L fa cd)) Q E s := by
  have hv : vs.length ≤ 63 := by have := hi.length; omega
  have key := law_body (fa := fa) (cd := cd) (outer := []) (Q := Q) X T Bl C0 F N hl hi hv hm hb fun h' gens' tk m' ps hg F' N' => hQ _ _ ⟨h', gens', tk, m', ps, rfl, rfl, hg, F', N'⟩
  have low : wpAny (model PySem.Challenge.rw_ew0014_01.row.prog w) (callerA.deeper (envL w.params L fa cd)) (execs (lawB w.params).1 (envL w.params L fa cd)) Q (fun _ _ => False) s :=
    wpLess (A := AD [envL w.params L fa cd]) (A' := callerA.deeper (envL w.params L fa cd)) rfl (Nat.le_of_ble_eq_true rfl) (.inr rfl) (.inl rfl) (Nat.le_of_ble_eq_true rfl) key
  exact wpAny_mono low (fun _ _ h => h) fun _ _ h => False.elim h
/-- the end of a law whose generators are spent and whose code tables have grown -/
def EndB (cw : ClaimW) (args : List WData) (s₁ : Shared) (tabs : List (Addr × Addr)) (r : Result) (s' : Shared) : Prop :=
  r = .ok (.ret (.bool true)) ∧ cw.post args (.bool true) args = true ∧ (∀ b o, (ghostOf s₁.heap tabs).get? b = some o → s'.heap.get? b = some o) ∧ s'.os = s₁.os ∧ AllBare s'.gens ∧ GrownAll tabs s'.heap
theorem EndB.good {cw : ClaimW} {cl : Str → Option Addr} {mean : ExcName → Option Value} {args : List WData} {s₁ s' : Shared} {tabs : List (Addr × Addr)} {r : Result} (hT : TabsAt tabs s₁.heap) (hr : ∀ a x, cw.raises a x = false) (e : EndB cw args s₁ tabs r s') : GoodWG cw cl mean args s₁ r s' := by
  obtain ⟨rfl, hp, keep, hos, hg, gr⟩ := e
  have tabAt : ∀ q ∈ tabs, s₁.heap.get? q.2 = some (tabObj #[]) ∧ isCodeTable s₁.heap q.2 ∧ ∃ ps, s'.heap.get? q.2 = some (tabObj ps) := fun q hq =>
    ⟨(hT q hq).2, ((hT q hq).1.tab (hT q hq).2).isCodeTable, gr.get q hq⟩
  have old : ∀ b o, s₁.heap.get? b = some o → s'.heap.get? b = some o ∨ (isCodeTable s₁.heap b ∧ o = tabObj #[] ∧ ∃ ps, s'.heap.get? b = some (tabObj ps)) := fun b o ho => by
    by_cases hm : b ∈ tabs.map (·.2)
    · obtain ⟨q, hq, rfl⟩ := List.mem_map.mp hm
      obtain ⟨h1, h2, h3⟩ := tabAt q hq
      rw [ho] at h1
      exact .inr ⟨h2, Option.some.inj h1, h3⟩
    · exact .inl (keep b o (ghost_ne ho hm))
  refine ⟨.inl ⟨_, _, [], rfl, hr args, .bool true, hp, fun _ => ⟨List.nodup_nil, fun _ h => nomatch h⟩⟩, ⟨fun b o ho => ?_, fun b o ho => ?_⟩, hos, hg⟩
  · rcases old b o ho with h | ⟨h1, rfl, ps, h2⟩
    · exact .inl h
    · exact .inr (.inl ⟨h1, rfl, #[], ps, rfl, by rw [Array.empty_append]; exact h2⟩)
  · rcases old b o ho with h | ⟨_, _, ps, h2⟩
    · exact ⟨o, h⟩
    · exact ⟨_, h2⟩
theorem postB {M : Model} {A : Around} {cd : Code} {s s₁ : Shared} {cw : ClaimW} {cl : Str → Option Addr} {mean : ExcName → Option Value} {args : List WData} {tabs : List (Addr × Addr)} (hT : TabsAt tabs s₁.heap) (hr : ∀ a x, cw.raises a x = false)
    (h : codeAny M A cd (EndB cw args s₁ tabs) s) : codeAny M A cd (GoodWG cw cl mean args s₁) s := codeAny_mono h fun _ _ e => e.good hT hr
end Mine
local macro_rules | `(tactic| kn_posts) => `(tactic| refine Mine.postB (by assumption) (fun _ _ => rfl) ?_)
theorem PySem.Challenge.cw_ew0014_01_holds : PySem.Challenge.rw_ew0014_01.Holds :=
  Mine.hd (by
    k_go0
    refine Mine.law_end (by assumption) (by assumption) (by assumption) (by assumption) (by assumption) (by assumption) (by assumption) (by assumption) (by assumption) rfl ?hb ?hQ
    case hb => exact AllBare.of_eq (by assumption)
    case hQ =>
      rintro f s' ⟨h', gens', tk, m', ps, rfl, rfl, hg, F', N'⟩
      dsimp only
      refine ⟨rfl, ?_, F'.keep, rfl, hg, ⟨#[], (N' (143, tabObj #[]) (by simp)).1⟩, ⟨ps, (N' (205, tabObj ps) (by simp)).1⟩, trivial⟩
      first
        | exact rfl
        | (with_unfolding_all exact rfl)
        | kernel_rfl
        | (simp; done))
end
