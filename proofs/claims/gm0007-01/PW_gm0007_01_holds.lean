import PyProof.Rows.All
import Wide.All
import OpenK.AllK
import Wide.FinOn
import PySem.Challenge.RW_gm0007_01
open PySem PySem.W PyProof.Rows PySem.Calls
set_option Elab.async false
set_option maxRecDepth 100000
set_option maxHeartbeats 16000000
set_option linter.unusedVariables false
set_option linter.unusedSimpArgs false
namespace Mine
open_top hd for PySem.Challenge.rw_gm0007_01
end Mine
/- Base -/
namespace Mine
noncomputable abbrev loose0 : List Str := (looseW hd.view_39 [Str.ofString "bisect_right", Str.ofString "bisect_left"] ++ List.map (fun x => x.name) (recsOf hd.view_39) ++ List.map (fun x => x.fst) (litsOf hd.view_39) ++ List.map (fun x => x.name) (clssOf hd.view_39 (looseW hd.view_39 [Str.ofString "bisect_right", Str.ofString "bisect_left"])))
abbrev tup2 (x : Int) (t : Tok) (y : Int) (t' : Tok) : Obj := { cls := .type "tuple", data := .seq #[.int x t, .int y t'] 0 }
/-- a code table: not yet filled, or filled by the one nested def, whose code object is (c, oc) -/
def TabSt (ps : Array Value) (c : Addr) (oc : Obj) (qual : Str) (line col : Nat) : Prop :=
  ps = #[] ∨ (ps = #[rawInt line, rawInt col, .ref c] ∧ ∃ vs t, oc.data = .fields vs ∧ vs[1]? = some (.str qual t))
structure TOk (news : List (Addr × Obj)) (p55 : Array Value) (c55 : Addr) (o55 : Obj) (p48 : Array Value) (c48 : Addr) (o48 : Obj) (p76 : Array Value) (c76 : Addr) (o76 : Obj) : Prop where
  s55 : TabSt p55 c55 o55 (Str.ofString "_digits2int.<locals>.inner") 88 4
  s48 : TabSt p48 c48 o48 (Str.ofString "_int2digits.<locals>.inner") 73 4
  s76 : TabSt p76 c76 o76 (Str.ofString "_law_looked.<locals>.<lambda>") 120 47
  a55 : ∀ q ∈ news, q.1 ≠ 55
  a48 : ∀ q ∈ news, q.1 ≠ 48
  a76 : ∀ q ∈ news, q.1 ≠ 76
  b55 : ∀ q ∈ news, q.1 ≠ c55
  b48 : ∀ q ∈ news, q.1 ≠ c48
  b76 : ∀ q ∈ news, q.1 ≠ c76
  n1 : @Ne Nat c55 55
  n2 : @Ne Nat c55 48
  n3 : @Ne Nat c55 76
  n4 : @Ne Nat c48 55
  n5 : @Ne Nat c48 48
  n6 : @Ne Nat c48 76
  n7 : @Ne Nat c76 55
  n8 : @Ne Nat c76 48
  n9 : @Ne Nat c76 76
  m1 : @Ne Nat c55 c48
  m2 : @Ne Nat c55 c76
  m3 : @Ne Nat c48 c76
/-- what int_divmod (., 2) does, for the arguments within P -/
def Cdm (w : World) (P : Int → Prop) : Prop := ∀ (mean : ExcName → Option Value) (mg mb : Str → Option Value) (dp un : Nat) (gd : Option (List Code)) (cn : Str) (cs : Scope) (a : Addr) (ccd : Value) (cl : List (Str × Addr)) (outer : List Env) (A₀ : Around) (base h₀ : Heap) (L : Addr) (m : Str → Option Value) (news : List (Addr × Obj)) (s : Shared) (x : Int) (t1 t2 : Tok)
    (p55 : Array Value) (c55 : Addr) (o55 : Obj) (p48 : Array Value) (c48 : Addr) (o48 : Obj) (p76 : Array Value) (c76 : Addr) (o76 : Obj) (Q E : Value → Shared → Prop),
    Below A₀ base outer h₀ → Fr h₀ L s.heap m → (hd.heap_39 w.params).In h₀ →
    News h₀ L s.heap ((55, tabObj p55) :: (c55, o55) :: (48, tabObj p48) :: (c48, o48) :: (76, tabObj p76) :: (c76, o76) :: news) → TOk news p55 c55 o55 p48 c48 o48 p76 c76 o76 →
    CodeHd base 59 55 → CodeHd base 52 48 → CodeHd base 80 76 → Top topProg loose0 mean mg mb h₀ → cs.kind = .function → P x → dp + 40 < recursionLimit → un + 400 < cLine →
    (∀ (r : Addr) h' tk' q t rr t' p55' c55' o55' p48' c48' o48', q = x / 2 → rr = x % 2 → Fr h₀ L h' m →
      News h₀ L h' ((r, tup2 q t rr t') :: (55, tabObj p55') :: (c55', o55') :: (48, tabObj p48') :: (c48', o48') :: (76, tabObj p76) :: (c76, o76) :: news) → TOk news p55' c55' o55' p48' c48' o48' p76 c76 o76 →
      AllLt r ((55, tabObj p55') :: (c55', o55') :: (48, tabObj p48') :: (c48', o48') :: (76, tabObj p76) :: (c76, o76) :: news) → Q (.ref r) { s with heap := h', toks := tk' }) →
    wpAny (model Challenge.rw_gm0007_01.row.prog w) (ktrTop dp un gd cn cs L a ccd cl outer) (call (.ref 74) [.int x t1, .int 2 t2]) Q E s
abbrev tupIR (x : Int) (t : Tok) (a : Addr) : Obj := { cls := .type "tuple", data := .seq #[.int x t, .ref a] 0 }
/-- bisect's walk: the place, and what is looked at; g says that the place lies behind -/
def srch (g : Int → Bool) (row : List Int) : Nat → Int → Int → Int × List Int
  | 0, lo, _ => (lo, [])
  | k + 1, lo, hi => if lo < hi then
      (if g (row.getD ((lo + hi) / 2).toNat 0) = true then ((srch g row k ((lo + hi) / 2 + 1) hi).1, row.getD ((lo + hi) / 2).toNat 0 :: (srch g row k ((lo + hi) / 2 + 1) hi).2)
      else ((srch g row k lo ((lo + hi) / 2)).1, row.getD ((lo + hi) / 2).toNat 0 :: (srch g row k lo ((lo + hi) / 2)).2))
    else (lo, [])
/-- what _law_looked does with the search at f -/
def Clk (w : World) (f : Addr) (gf : Int → Int → Bool) : Prop := ∀ (mean : ExcName → Option Value) (mg mb : Str → Option Value) (dp un : Nat) (gd : Option (List Code)) (cn : Str) (cs : Scope) (a : Addr) (ccd : Value) (cl : List (Str × Addr)) (outer : List Env) (A₀ : Around) (base h₀ : Heap) (L : Addr) (m : Str → Option Value) (news : List (Addr × Obj)) (s : Shared)
    (p55 : Array Value) (c55 : Addr) (o55 : Obj) (p48 : Array Value) (c48 : Addr) (o48 : Obj) (p76 : Array Value) (c76 : Addr) (o76 : Obj) (rl : Addr) (vs : List Value) (n : Nat) (row : List Int) (x lo hi : Int) (t1 t2 t3 : Tok) (Q E : Value → Shared → Prop),
    Below A₀ base outer h₀ → Fr h₀ L s.heap m → (hd.heap_39 w.params).In h₀ →
    News h₀ L s.heap ((55, tabObj p55) :: (c55, o55) :: (48, tabObj p48) :: (c48, o48) :: (76, tabObj p76) :: (c76, o76) :: (rl, listOf vs.toArray n) :: news) → TOk news p55 c55 o55 p48 c48 o48 p76 c76 o76 →
    (∀ q ∈ news, q.1 ≠ rl) → @Ne Nat rl 55 → @Ne Nat rl 48 → @Ne Nat rl 76 → @Ne Nat rl c55 → @Ne Nat rl c48 → @Ne Nat rl c76 → IntsAre vs row →
    CodeHd base 59 55 → CodeHd base 52 48 → CodeHd base 80 76 → Top topProg loose0 mean mg mb h₀ → cs.kind = .function → 0 ≤ lo → lo ≤ hi → hi ≤ (row.length : Int) → row.length ≤ 16 → dp + 10 < recursionLimit → un + 80 < cLine →
    (∀ (r lk : Addr) h' tk' its n' pl t ns p76' c76' o76', srch (gf x) row 16 lo hi = (pl, ns) → IntsAre its ns → its.length ≤ 16 → Fr h₀ L h' m →
      News h₀ L h' ((r, tupIR pl t lk) :: (lk, listOf its.toArray n') :: (55, tabObj p55) :: (c55, o55) :: (48, tabObj p48) :: (c48, o48) :: (76, tabObj p76') :: (c76', o76') :: (rl, listOf vs.toArray n) :: news) → TOk news p55 c55 o55 p48 c48 o48 p76' c76' o76' →
      @Ne Nat rl c76' → @Ne Nat lk c76' → @LT.lt Nat _ lk r → @LT.lt Nat _ c76' r → AllLt lk ((55, tabObj p55) :: (c55, o55) :: (48, tabObj p48) :: (c48, o48) :: (76, tabObj p76') :: (rl, listOf vs.toArray n) :: news) → Q (.ref r) { s with heap := h', toks := tk' }) →
    wpAny (model Challenge.rw_gm0007_01.row.prog w) (ktrTop dp un gd cn cs L a ccd cl outer) (call (.ref 81) [.ref f, .ref rl, .int x t1, .int lo t2, .int hi t3]) Q E s
end Mine
/- Loc -/
namespace Mine
section
variable {prog : Program} {w : World} {A : Around} {E : Value → Shared → Prop} {s : Shared} {Q : Value → Shared → Prop} {l : Addr} {u : Tok}
theorem bl_known {a k : Int} {t : Tok} (e : ((Builtin.Int.intBits a : Nat) : Int) = k) (h : Q (.int k s.toks) { s with toks := s.toks + 1 }) : wpAny (model prog w) A (call (.builtin "int.bit_length") [.int a t]) Q E s := by
  subst e
  exact call_int_bit_length h
theorem bl_bound {a : Int} {t : Tok} (h1 : -(2 ^ 64 : Int) < a) (h2 : a < 2 ^ 64) (h : ∀ k : Int, 0 ≤ k → k ≤ 64 → Q (.int k s.toks) { s with toks := s.toks + 1 }) : wpAny (model prog w) A (call (.builtin "int.bit_length") [.int a t]) Q E s :=
  call_int_bit_length (h _ (Int.natCast_nonneg _) (by have := intBits_le_64 h1 h2; omega))
theorem shl_lit {a n k : Int} {t u : Tok} (e : (2 : Int) ^ n.toNat = k) (hn : 0 ≤ n) (hn2 : n ≤ 1000000) (ha : a.natAbs < 2 ^ 64) (h : Q (.int (a * k) s.toks) { s with toks := s.toks + 1 }) : wpAny (model prog w) A (binaryOp .LShift (.int a t) (.int n u)) Q E s := by
  subst e
  exact lshift_int_small hn hn2 ha h
theorem shr_lit {a n k : Int} {t u : Tok} (e : (2 : Int) ^ n.toNat = k) (hn : 0 ≤ n) (hk : 0 ≤ k) (h : Q (.int (a / k) s.toks) { s with toks := s.toks + 1 }) : wpAny (model prog w) A (binaryOp .RShift (.int a t) (.int n u)) Q E s := by
  subst e
  refine rshift_int hn ?_
  rw [Int.fdiv_eq_ediv_of_nonneg _ hk]
  exact h
theorem fdiv_lit {a n : Int} {t u : Tok} (hk : 0 < n) (hn : n < 1000) (h : Q (.int (a / n) s.toks) { s with toks := s.toks + 1 }) : wpAny (model prog w) A (binaryOp .FloorDiv (.int a t) (.int n u)) Q E s := by
  refine floordiv_int (by omega) ?_ (Or.inl (PyProof.noPylong_small (by omega)))
  rw [Int.fdiv_eq_ediv_of_nonneg _ (by omega)]
  exact h
theorem fmod_lit {a n : Int} {t u : Tok} (hk : 0 < n) (hn : n < 1000) (h : Q (.int (a % n) s.toks) { s with toks := s.toks + 1 }) : wpAny (model prog w) A (binaryOp .Mod (.int a t) (.int n u)) Q E s := by
  refine mod_int' (by omega) ?_
  rw [Int.fmod_eq_emod_of_nonneg _ (by omega)]
  exact h
theorem fmod_known {a n k : Int} {t u : Tok} (e : k = a % n) (hk : 0 < n) (hn : n < 1000) (h : Q (.int k s.toks) { s with toks := s.toks + 1 }) : wpAny (model prog w) A (binaryOp .Mod (.int a t) (.int n u)) Q E s := by
  subst e
  exact fmod_lit hk hn h
theorem divmod_2 {h₀ : Heap} {L : Addr} {m : Str → Option Value} {news : List (Addr × Obj)} {a : Int} {t u : Tok} (F : Fr h₀ L s.heap m) (N : News h₀ L s.heap news) (h1 : 0 ≤ a) (h2 : a < 2 ^ 62)
    (h : ∀ (r : Addr) h' t t' tk, Fr h₀ L h' m → News h₀ L h' ((r, tup2 (a / 2) t (a % 2) t') :: news) → (∀ p ∈ news, p.1 < r) → Q (.ref r) { s with heap := h', toks := tk }) :
    wpAny (model prog w) A (call (.builtin "divmod") [.int a t, .int 2 u]) Q E s := by
  refine divmod_N F N (by decide) (fun h' F' N' => ?_) (Or.inl (PyProof.noPylong_small (by omega)))
  rw [Int.fdiv_eq_ediv_of_nonneg _ (by decide), Int.fmod_eq_emod_of_nonneg _ (by decide)] at N'
  exact h _ h' _ _ _ F' N' fun p hp => Heap.lt_size (N p hp).1
theorem store_norm {env : Env} {y : Str} {a b : Int} {t : Tok} {Q : Unit → Shared → Prop} (e : a = b) (h : wpAny (model prog w) A (storeName env y (.int b t)) Q E s) : wpAny (model prog w) A (storeName env y (.int a t)) Q E s := by
  subst e
  exact h
theorem mul_norm {x y : Int} (e : x = y) (h : wpAny (model prog w) A (binaryOp .Mult (.ref l) (.int y u)) Q E s) : wpAny (model prog w) A (binaryOp .Mult (.ref l) (.int x u)) Q E s := by
  subst e
  exact h
end

section
variable {x y : Int} {P Q : Prop} {c : Prop} [Decidable c]
theorem ite_ine_t (h : x ≠ y) (p : P) : if (x != y) = true then P else Q := by rw [if_pos (by simp [h])]; exact p
theorem ite_ine_f (h : x = y) (q : Q) : if (x != y) = true then P else Q := by rw [if_neg (by simp [h])]; exact q
theorem ite_ieq_t (h : x = y) (p : P) : if (x == y) = true then P else Q := by rw [if_pos (by simp [h])]; exact p
theorem ite_ieq_f (h : x ≠ y) (q : Q) : if (x == y) = true then P else Q := by rw [if_neg (by simp [h])]; exact q
theorem ite_dec_t (h : c) (p : P) : if decide c = true then P else Q := by rw [if_pos (by simp [h])]; exact p
theorem ite_dec_f (h : ¬ c) (q : Q) : if decide c = true then P else Q := by rw [if_neg (by simp [h])]; exact q
end

theorem offI_of {I : Addr} {it : Obj} : ∀ {l : List (Addr × Obj)}, (∀ p ∈ l, p.1 ≠ I) → OffI I it l
  | [], _ => trivial
  | _ :: _, h => ⟨.inl (h _ (.head _)), offI_of fun p hp => h p (.tail _ hp)⟩
section
variable {prog : Program} {w : World} {A : Around} {E : Value → Shared → Prop} {s : Shared} {env : Env} {h₀ : Heap} {x : Str} {body : List Stmt} {Q : Flow → Shared → Prop}
theorem iter_revLit {ax I : Addr} {lo : Obj} {vs ws : List Value} {n : Nat} {m₀ : Str → Option Value} {news : List (Addr × Obj)}
    (hh : A.handled = none) (F : Fr h₀ env.locals s.heap m₀) (N : News h₀ env.locals s.heap ((I, revObj ax ((vs.length : Int) - 1)) :: news)) (hof : ∀ p ∈ news, p.1 ≠ I) (hm : (ax, lo) ∈ news) (hc : lo.cls = .type "list") (hd : lo.data = .seq vs.toArray n)
    (e : vs.reverse = ws) (rest : RevRest prog w A E h₀ env x body Q s I (ax, lo) ws m₀ news) :
    wpAny (model prog w) A (pyIter (.ref I)) (fun it s₂ => LoopAtV prog w A h₀ env x body Q E it s₂) E s := by
  subst e
  exact iter_revUnr hh F N (offI_of hof) hm hc hd rest
end
/-- the ledger without the iterator -/
inductive CutI (I : Addr) (it : Obj) : List (Addr × Obj) → List (Addr × Obj) → Prop where
  | head {r : List (Addr × Obj)} : (∀ p ∈ r, p.1 ≠ I) → CutI I it ((I, it) :: r) r
  | tail {p : Addr × Obj} {l l' : List (Addr × Obj)} : p.1 ≠ I → CutI I it l l' → CutI I it (p :: l) (p :: l')
theorem CutI.spec {I : Addr} {it : Obj} {l l' : List (Addr × Obj)} (c : CutI I it l l') : (I, it) ∈ l ∧ (∀ p ∈ l', p ∈ l) ∧ (∀ p ∈ l', p.1 ≠ I) := by
  induction c with
  | head h => exact ⟨.head _, fun p hp => .tail _ hp, h⟩
  | tail hp _ ih =>
    refine ⟨.tail _ ih.1, fun p hp => ?_, fun p hp' => ?_⟩
    · rcases List.mem_cons.mp hp with rfl | hp
      · exact .head _
      · exact .tail _ (ih.2.1 p hp)
    · rcases List.mem_cons.mp hp' with rfl | hp'
      · exact hp
      · exact ih.2.2 p hp'
theorem unrEnd_cut {h₀ : Heap} {L I : Addr} {it : Obj} {rest : (Str → Option Value) → List (Addr × Obj) → Prop} {s₁ : Shared} {h' : Heap} {tk : Nat} {m' : Str → Option Value} {all news' : List (Addr × Obj)} (F : Fr h₀ L h' m') (N : News h₀ L h' all)
    (c : CutI I it all news') (r : rest m' news') : UnrEnd h₀ L s₁ I it rest { s₁ with heap := h', toks := tk } :=
  ⟨h', tk, m', news', rfl, F, fun p hp => N p (by
    rcases List.mem_cons.mp hp with rfl | hp
    · exact c.spec.1
    · exact c.spec.2.1 p hp), c.spec.2.2, r⟩

section
variable {M : Model} {A : Around} {E : Value → Shared → Prop} {s : Shared} {h₀ : Heap} {L a c P : Addr} {m mg mb : Str → Option Value} {cn : Str} {cs : Scope} {ccd : Value} {cl : List (Str × Addr)} {news : List (Addr × Obj)} {g : Obj → List (Addr × Obj)}
  {p : Program} {loose : List Str} {mean : ExcName → Option Value} {name qual : Str} {params : Arguments} {body : List Stmt} {scope : Scope} {ps : Array Value} {pos : Pos} {firstLine : Nat} {clos : List (Str × Addr)}
theorem updF_mem {P : Addr} {o : Obj} {news : List (Addr × Obj)} {g : Obj → List (Addr × Obj)} (U : UpdF P o news g) : (P, o) ∈ news := by
  obtain ⟨own, rest, rfl, _⟩ := U.split
  exact List.mem_append_right _ (.head _)
theorem nest_any {Q : Value → Shared → Prop} {c1 : Addr} {oc1 : Obj} {ln cl' : Nat} (F : Fr h₀ L s.heap m) (N : News h₀ L s.heap news) (T : Top p loose mean mg mb h₀) (C : CodeHd h₀ c P) (hcd : ccd = .ref c) (U : UpdF P (tabObj ps) news g)
    {rest : List (Addr × Obj)} (hm : (c1, oc1) ∈ news) (k : ∀ q ∈ rest, q.1 ≠ c1) (hs : ∀ q ∈ rest, q ∈ news) (St : TabSt ps c1 oc1 qual ln cl') (hp1 : pos.line = ln) (hp2 : pos.col = cl')
    (hcl : closureFor scope (envX cn cs L a ccd cl) = pure clos)
    (h : ∀ f c' oc ctv doc h' tk, Fr h₀ L h' m →
      News h₀ L h' ((f, fnMade name qual params body scope clos doc ((mg "__name__").getD .none) c' ctv) :: (c', oc) :: g (tabObj #[rawInt ln, rawInt cl', .ref c'])) →
      (∃ vs t, oc.data = .fields vs ∧ vs[1]? = some (.str qual t)) → (@Eq Nat c' c1 ∨ ∀ q ∈ news, q.1 < c') → (∀ q ∈ rest, q.1 ≠ c') → (∀ q ∈ (c', oc) :: news, q.1 < f) → Q (.ref f) { s with heap := h', toks := tk }) :
    wpAny M A (makeFunction name qual params (.stmts body) scope (envX cn cs L a ccd cl) [] [] [] pos firstLine) Q E s := by
  rcases St with rfl | ⟨rfl, vs, t, hd, hv⟩
  · refine nest_K F N T C hcd U (by exact True.intro) rfl hcl fun f c' oc vs t ctv doc h' tk F' N' d1 d2 l1 l2 => ?_
    rw [hp1, hp2] at N'
    exact h f c' oc ctv doc h' tk F' N' ⟨vs, t, d1, d2⟩ (.inr l1) (fun q hq => Nat.ne_of_lt (l1 q (hs q hq))) fun q hq => by
      rcases List.mem_cons.mp hq with rfl | hq
      · exact l2
      · exact Nat.lt_trans (l1 q hq) l2
  · have hmem := updF_mem U
    obtain ⟨own, rest, e0, hgr, _, _⟩ := U.split
    refine nestHit_K (c' := c1) F N T C hcd hmem ?_ ?_ hcl fun f ctv doc h' tk F' N' l1 => ?_
    · simp [TriplesOk, rawInt]
    · have e1 : pos.line = ln := hp1
      simp [codeAmong, rawInt, hp1, hp2]
    · refine h f c1 oc1 ctv doc h' tk F' (fun q hq => ?_) ⟨vs, t, hd, hv⟩ (.inl rfl) k fun q hq => ?_
      · rcases List.mem_cons.mp hq with rfl | hq
        · exact N' _ (.head _)
        · rcases List.mem_cons.mp hq with rfl | hq
          · exact N' _ (.tail _ hm)
          · rw [hgr] at hq
            refine N' q (.tail _ ?_)
            rw [e0]
            exact hq
      · rcases List.mem_cons.mp hq with rfl | hq
        · exact l1 _ hm
        · exact l1 q hq
end
section
variable {M : Model} {A : Around} {E : Value → Shared → Prop} {s : Shared} {h₀ : Heap} {L a c P : Addr} {m mg mb : Str → Option Value} {cn : Str} {cs : Scope} {ccd : Value} {cl : List (Str × Addr)} {news : List (Addr × Obj)} {g : Obj → List (Addr × Obj)}
  {p : Program} {loose : List Str} {mean : ExcName → Option Value} {name qual : Str} {params : Arguments} {body : List Stmt} {scope : Scope} {pos : Pos} {firstLine : Nat} {clos : List (Str × Addr)}
theorem nest_first {Q : Value → Shared → Prop} {ln cl' : Nat} (F : Fr h₀ L s.heap m) (N : News h₀ L s.heap news) (T : Top p loose mean mg mb h₀) (C : CodeHd h₀ c P) (hcd : ccd = .ref c) (U : UpdF P (tabObj #[]) news g)
    (hp1 : pos.line = ln) (hp2 : pos.col = cl') (hcl : closureFor scope (envX cn cs L a ccd cl) = pure clos)
    (h : ∀ f c' oc ctv doc h' tk, Fr h₀ L h' m →
      News h₀ L h' ((f, fnMade name qual params body scope clos doc ((mg "__name__").getD .none) c' ctv) :: (c', oc) :: g (tabObj #[rawInt ln, rawInt cl', .ref c'])) →
      (∃ vs t, oc.data = .fields vs ∧ vs[1]? = some (.str qual t)) → (∀ q ∈ news, q.1 < c') → (∀ q ∈ (c', oc) :: news, q.1 < f) → Q (.ref f) { s with heap := h', toks := tk }) :
    wpAny M A (makeFunction name qual params (.stmts body) scope (envX cn cs L a ccd cl) [] [] [] pos firstLine) Q E s := by
  refine nest_K F N T C hcd U (by exact True.intro) rfl hcl fun f c' oc vs t ctv doc h' tk F' N' d1 d2 l1 l2 => ?_
  rw [hp1, hp2] at N'
  exact h f c' oc ctv doc h' tk F' N' ⟨vs, t, d1, d2⟩ l1 fun q hq => by
    rcases List.mem_cons.mp hq with rfl | hq
    · exact l2
    · exact Nat.lt_trans (l1 q hq) l2
end
section
variable {M : Model} {A : Around} {E : Value → Shared → Prop} {s : Shared} {h₀ : Heap} {L a c P : Addr} {m mg mb : Str → Option Value} {cn : Str} {cs : Scope} {ccd : Value} {cl : List (Str × Addr)} {news : List (Addr × Obj)} {g : Obj → List (Addr × Obj)}
  {p : Program} {loose : List Str} {mean : ExcName → Option Value} {name qual : Str} {params : Arguments} {body : PySem.Expr} {scope : Scope} {ps : Array Value} {pos : Pos} {firstLine : Nat} {clos : List (Str × Addr)}
theorem lam_any {Q : Value → Shared → Prop} {c1 : Addr} {oc1 : Obj} {ln cl' : Nat} (F : Fr h₀ L s.heap m) (N : News h₀ L s.heap news) (T : Top p loose mean mg mb h₀) (C : CodeHd h₀ c P) (hcd : ccd = .ref c) (U : UpdF P (tabObj ps) news g)
    {rest : List (Addr × Obj)} (hm : (c1, oc1) ∈ news) (k : ∀ q ∈ rest, q.1 ≠ c1) (hs : ∀ q ∈ rest, q ∈ news) (St : TabSt ps c1 oc1 qual ln cl') (hp1 : pos.line = ln) (hp2 : pos.col = cl')
    (hcl : closureFor scope (envX cn cs L a ccd cl) = pure clos)
    (h : ∀ f c' oc ctv h' tk, Fr h₀ L h' m →
      News h₀ L h' ((f, kla_obj name qual params body scope clos ((mg "__name__").getD .none) c' ctv) :: (c', oc) :: g (tabObj #[rawInt ln, rawInt cl', .ref c'])) →
      (∃ vs t, oc.data = .fields vs ∧ vs[1]? = some (.str qual t)) → (@Eq Nat c' c1 ∨ ∀ q ∈ news, q.1 < c') → (∀ q ∈ rest, q.1 ≠ c') → (∀ q ∈ (c', oc) :: news, q.1 < f) → Q (.ref f) { s with heap := h', toks := tk }) :
    wpAny M A (makeFunction name qual params (.expr body) scope (envX cn cs L a ccd cl) [] [] [] pos firstLine) Q E s := by
  rcases St with rfl | ⟨rfl, vs, t, hd, hv⟩
  · refine kla_nest F N T C hcd U (by exact True.intro) rfl hcl fun f c' oc vs t ctv h' tk F' N' d1 d2 l1 l2 => ?_
    rw [hp1, hp2] at N'
    exact h f c' oc ctv h' tk F' N' ⟨vs, t, d1, d2⟩ (.inr l1) (fun q hq => Nat.ne_of_lt (l1 q (hs q hq))) fun q hq => by
      rcases List.mem_cons.mp hq with rfl | hq
      · exact l2
      · exact Nat.lt_trans (l1 q hq) l2
  · have hmem := updF_mem U
    obtain ⟨own, rest', e0, hgr, _, _⟩ := U.split
    refine kla_hit (c' := c1) F N T C hcd hmem ?_ ?_ hcl fun f ctv h' tk F' N' l1 => ?_
    · simp [TriplesOk, rawInt]
    · simp [codeAmong, rawInt, hp1, hp2]
    · refine h f c1 oc1 ctv h' tk F' (fun q hq => ?_) ⟨vs, t, hd, hv⟩ (.inl rfl) k fun q hq => ?_
      · rcases List.mem_cons.mp hq with rfl | hq
        · exact N' _ (.head _)
        · rcases List.mem_cons.mp hq with rfl | hq
          · exact N' _ (.tail _ hm)
          · rw [hgr] at hq
            refine N' q (.tail _ ?_)
            rw [e0]
            exact hq
      · rcases List.mem_cons.mp hq with rfl | hq
        · exact l1 _ hm
        · exact l1 q hq
end
end Mine
/- Srch -/
namespace Mine
theorem srch_stop {g : Int → Bool} {row : List Int} {k : Nat} {lo hi : Int} (h : ¬ lo < hi) : srch g row k lo hi = (lo, []) := by
  cases k with
  | zero => rfl
  | succ k => unfold srch; rw [if_neg h]
/-- says which g the walk is to take -/
def GMark (_ : Int → Bool) : Prop := True
structure SS where
  lo : Int
  hi : Int
  tl : Tok
  th : Tok
  its : Array Value
  n : Nat
  ns : List Int
  k : Nat
structure SrOk (g : Int → Bool) (row : List Int) (R : Int × List Int) (c : SS) : Prop where
  isI : IntsAre c.its.toList c.ns
  size : c.its.size + c.k ≤ 16
  lo0 : 0 ≤ c.lo
  le : c.lo ≤ c.hi
  hi1 : c.hi ≤ (row.length : Int)
  fuel : c.hi - c.lo ≤ (c.k : Int)
  val : R = ((srch g row c.k c.lo c.hi).1, c.ns ++ (srch g row c.k c.lo c.hi).2)
theorem srOk0 {g : Int → Bool} {row : List Int} {lo hi : Int} {tl th : Tok} (k : Nat) (hk : k ≤ 16) (b0 : 0 ≤ lo) (b1 : lo ≤ hi) (b2 : hi ≤ (row.length : Int)) (f : hi - lo ≤ (k : Int)) : SrOk g row (srch g row k lo hi) ⟨lo, hi, tl, th, #[], 0, [], k⟩ :=
  ⟨.nil, by simpa using hk, b0, b1, b2, f, rfl⟩
abbrev srMap (m₀ u : Str → Option Value) (c : SS) : Str → Option Value := fun z => if z = Str.ofString "lo" then some (.int c.lo c.tl) else if z = Str.ofString "hi" then some (.int c.hi c.th) else if z = Str.ofString "mid" then u z else m₀ z
def SrEnd (h₀ : Heap) (L : Addr) (s : Shared) (m₀ : Str → Option Value) (led : Obj → List (Addr × Obj)) (g : Int → Bool) (row : List Int) (R : Int × List Int) (c : SS) (s₂ : Shared) : Prop :=
  ∃ (c' : SS) (h' : Heap) (tk : Nat) (m' : Str → Option Value), s₂ = { s with heap := h', toks := tk } ∧ Fr h₀ L h' m' ∧ News h₀ L h' (led (listOf c'.its c'.n)) ∧ m' (Str.ofString "lo") = some (.int c'.lo c'.tl) ∧ m' (Str.ofString "hi") = some (.int c'.hi c'.th) ∧
    (∀ z, z ≠ Str.ofString "lo" → z ≠ Str.ofString "hi" → z ≠ Str.ofString "mid" → m' z = m₀ z) ∧ SrOk g row R c' ∧ c'.k < c.k
def SrPost (h₀ : Heap) (L : Addr) (s : Shared) (m₀ : Str → Option Value) (led : Obj → List (Addr × Obj)) (g : Int → Bool) (row : List Int) (R : Int × List Int) (c : SS) (Q : Flow → Shared → Prop) (f : Flow) (s₂ : Shared) : Prop :=
  match f with
  | .ret v => Q (.ret v) s₂
  | .brk => Q .next s₂
  | _ => SrEnd h₀ L s m₀ led g row R c s₂
section
variable {prog : Program} {w : World} {A : Around} {E : Value → Shared → Prop} {Q : Flow → Shared → Prop} {s : Shared} {env : Env} {h₀ : Heap} {L : Addr}
theorem while_srch {test : PySem.Expr} {body : List Stmt} {pos : Pos} {m₀ : Str → Option Value} {news : List (Addr × Obj)} {led : Obj → List (Addr × Obj)} {lk : Addr} {row : List Int} {lo hi : Int} {tl th : Tok} (g : Int → Bool) (_hG : GMark g)
    (F : Fr h₀ L s.heap m₀) (N : News h₀ L s.heap news) (_hm : (lk, listOf #[] 0) ∈ news) (U : UpdF lk (listOf #[] 0) news led) (hlo : m₀ (Str.ofString "lo") = some (.int lo tl)) (hhi : m₀ (Str.ofString "hi") = some (.int hi th))
    (b0 : 0 ≤ lo) (b1 : lo ≤ hi) (b2 : hi ≤ (row.length : Int)) (b3 : row.length ≤ 16)
    (turn : ∀ (c : SS) (u : Str → Option Value) h tk, SrOk g row (srch g row 16 lo hi) c → Fr h₀ L h (srMap m₀ u c) → News h₀ L h (led (listOf c.its c.n)) →
      wpAny (model prog w) A (isTrue test env (eval test env)) (fun b s₂ =>
        if b = true then wpAny (model prog w) A (execs body env) (SrPost h₀ L s m₀ led g row (srch g row 16 lo hi) c Q) E s₂ else Q .next s₂) E { s with heap := h, toks := tk })
    (hE : PassesOwn (model prog w) A env E := by passes_own) :
    wpAny (model prog w) A (exec (.While test body [] pos) env) Q E s := by
  obtain ⟨own, rest, e0, hg, _, _⟩ := U.split
  have N' : News h₀ L s.heap (led (listOf #[] 0)) := by rw [hg, ← e0]; exact N
  refine While_inv2 (fun n m nx => ∃ c : SS, c.k = n ∧ nx = led (listOf c.its c.n) ∧ m (Str.ofString "lo") = some (.int c.lo c.tl) ∧ m (Str.ofString "hi") = some (.int c.hi c.th) ∧
    (∀ z, z ≠ Str.ofString "lo" → z ≠ Str.ofString "hi" → z ≠ Str.ofString "mid" → m z = m₀ z) ∧ SrOk g row (srch g row 16 lo hi) c) F N'
    ⟨⟨lo, hi, tl, th, #[], 0, [], 16⟩, rfl, rfl, hlo, hhi, fun _ _ _ _ => rfl, srOk0 16 (Nat.le_refl _) b0 b1 b2 (by omega)⟩ ?_ hE
  rintro n m₁ nx h tk F₁ N₁ ⟨c, hk, hnx, e1, e2, e3, ok⟩
  subst hnx
  have em : m₁ = srMap m₀ m₁ c := by
    funext z
    show m₁ z = if z = Str.ofString "lo" then some (.int c.lo c.tl) else if z = Str.ofString "hi" then some (.int c.hi c.th) else if z = Str.ofString "mid" then m₁ z else m₀ z
    by_cases h1 : z = Str.ofString "lo"
    · rw [if_pos h1, h1]; exact e1
    · rw [if_neg h1]
      by_cases h2 : z = Str.ofString "hi"
      · rw [if_pos h2, h2]; exact e2
      · rw [if_neg h2]
        by_cases h3 : z = Str.ofString "mid"
        · rw [if_pos h3]
        · rw [if_neg h3]; exact e3 z h1 h2 h3
  rw [em] at F₁
  refine wpAny_mono (turn c m₁ h tk ok F₁ N₁) (fun b s₂ p => ?_) fun _ _ x => x
  cases b with
  | false => simpa using p
  | true =>
    simp only [if_true] at p ⊢
    refine wpAny_mono p (fun f s₃ q => ?_) fun _ _ x => x
    cases f with
    | ret v => exact q
    | brk => exact q
    | next =>
      obtain ⟨c', h', tk', m', rfl, F', N', a1, a2, a3, ok', hlt⟩ := q
      exact ⟨h', tk', m', _, c'.k, rfl, F', N', hk ▸ hlt, c', rfl, rfl, a1, a2, a3, ok'⟩
    | cont =>
      obtain ⟨c', h', tk', m', rfl, F', N', a1, a2, a3, ok', hlt⟩ := q
      exact ⟨h', tk', m', _, c'.k, rfl, F', N', hk ▸ hlt, c', rfl, rfl, a1, a2, a3, ok'⟩
theorem sr_next_right {g : Int → Bool} {row : List Int} {R : Int × List Int} {c : SS} {v : Int} {t tn : Tok} (ok : SrOk g row R c) (hlt : c.lo < c.hi) (hv : v = row.getD ((c.lo + c.hi) / 2).toNat 0) (hg : g v = true) :
    ∃ c' : SS, c'.k < c.k ∧ SrOk g row R c' ∧ c'.lo = (c.lo + c.hi) / 2 + 1 ∧ c'.hi = c.hi ∧ c'.tl = tn ∧ c'.th = c.th ∧ c'.its = c.its.push (.int v t) ∧ c'.n = c.n + 1 := by
  subst hv
  have hk : c.k ≠ 0 := by have := ok.fuel; omega
  obtain ⟨k, ek⟩ : ∃ k, c.k = k + 1 := ⟨c.k - 1, by omega⟩
  refine ⟨⟨(c.lo + c.hi) / 2 + 1, c.hi, tn, c.th, c.its.push (.int (row.getD ((c.lo + c.hi) / 2).toNat 0) t), c.n + 1, c.ns ++ [row.getD ((c.lo + c.hi) / 2).toNat 0], k⟩, by rw [ek]; exact Nat.lt_succ_self k, ⟨?_, ?_, ?_, ?_, ok.hi1, ?_, ?_⟩, rfl, rfl, rfl, rfl, rfl, rfl⟩
  · show IntsAre (c.its.push _).toList _; rw [Array.toList_push]; exact IntsAre.append ok.isI (.cons _ _ .nil)
  · have := ok.size; show (c.its.push _).size + k ≤ 16; rw [Array.size_push]; omega
  · have := ok.lo0; simp only []; omega
  · simp only []; omega
  · have := ok.fuel; simp only []; omega
  · have := ok.val
    rw [ek] at this
    unfold srch at this
    rw [if_pos hlt, if_pos hg] at this
    rw [this, List.append_assoc]
    rfl
theorem sr_next_left {g : Int → Bool} {row : List Int} {R : Int × List Int} {c : SS} {v : Int} {t tn tn' : Tok} (ok : SrOk g row R c) (hlt : c.lo < c.hi) (hv : v = row.getD ((c.lo + c.hi) / 2).toNat 0) (hg : g v = false) :
    ∃ c' : SS, c'.k < c.k ∧ SrOk g row R c' ∧ c'.lo = c.lo ∧ c'.hi = (c.lo + c.hi) / 2 ∧ c'.tl = tn ∧ c'.th = tn' ∧ c'.its = c.its.push (.int v t) ∧ c'.n = c.n + 1 := by
  subst hv
  have hk : c.k ≠ 0 := by have := ok.fuel; omega
  obtain ⟨k, ek⟩ : ∃ k, c.k = k + 1 := ⟨c.k - 1, by omega⟩
  refine ⟨⟨c.lo, (c.lo + c.hi) / 2, tn, tn', c.its.push (.int (row.getD ((c.lo + c.hi) / 2).toNat 0) t), c.n + 1, c.ns ++ [row.getD ((c.lo + c.hi) / 2).toNat 0], k⟩, by rw [ek]; exact Nat.lt_succ_self k, ⟨?_, ?_, ok.lo0, ?_, ?_, ?_, ?_⟩, rfl, rfl, rfl, rfl, rfl, rfl⟩
  · show IntsAre (c.its.push _).toList _; rw [Array.toList_push]; exact IntsAre.append ok.isI (.cons _ _ .nil)
  · have := ok.size; show (c.its.push _).size + k ≤ 16; rw [Array.size_push]; omega
  · have := ok.lo0; simp only []; omega
  · have := ok.hi1; simp only []; omega
  · have := ok.fuel; simp only []; omega
  · have := ok.val
    rw [ek] at this
    unfold srch at this
    rw [if_pos hlt, if_neg (by rw [hg]; decide)] at this
    rw [this, List.append_assoc]
    rfl
theorem sr_right {m₀ m' : Str → Option Value} {led : Obj → List (Addr × Obj)} {g : Int → Bool} {row : List Int} {R : Int × List Int} {c : SS} {h' : Heap} {tk : Nat} {v : Int} {t tn : Tok} {nl : Int}
    (ok : SrOk g row R c) (hlt : c.lo < c.hi) (hv : v = row.getD ((c.lo + c.hi) / 2).toNat 0) (hg : g v = true) (hnl : nl = (c.lo + c.hi) / 2 + 1)
    (F : Fr h₀ L h' m') (N : News h₀ L h' (led (listOf (c.its.push (.int v t)) (c.n + 1)))) (a1 : m' (Str.ofString "lo") = some (.int nl tn)) (a2 : m' (Str.ofString "hi") = some (.int c.hi c.th))
    (a3 : ∀ z, z ≠ Str.ofString "lo" → z ≠ Str.ofString "hi" → z ≠ Str.ofString "mid" → m' z = m₀ z) : SrEnd h₀ L s m₀ led g row R c { s with heap := h', toks := tk } := by
  obtain ⟨c', hlt', ok', e1, e2, e3, e4, e5, e6⟩ := sr_next_right ok hlt hv hg (t := t) (tn := tn)
  refine ⟨c', h', tk, m', rfl, F, ?_, ?_, ?_, a3, ok', hlt'⟩
  · rw [e5, e6]; exact N
  · rw [e1, e3, ← hnl]; exact a1
  · rw [e2, e4]; exact a2
theorem sr_left {m₀ m' : Str → Option Value} {led : Obj → List (Addr × Obj)} {g : Int → Bool} {row : List Int} {R : Int × List Int} {c : SS} {h' : Heap} {tk : Nat} {v : Int} {t tn : Tok} {nh : Int}
    (ok : SrOk g row R c) (hlt : c.lo < c.hi) (hv : v = row.getD ((c.lo + c.hi) / 2).toNat 0) (hg : g v = false) (hnh : nh = (c.lo + c.hi) / 2)
    (F : Fr h₀ L h' m') (N : News h₀ L h' (led (listOf (c.its.push (.int v t)) (c.n + 1)))) (a1 : m' (Str.ofString "lo") = some (.int c.lo c.tl)) (a2 : m' (Str.ofString "hi") = some (.int nh tn))
    (a3 : ∀ z, z ≠ Str.ofString "lo" → z ≠ Str.ofString "hi" → z ≠ Str.ofString "mid" → m' z = m₀ z) : SrEnd h₀ L s m₀ led g row R c { s with heap := h', toks := tk } := by
  obtain ⟨c', hlt', ok', e1, e2, e3, e4, e5, e6⟩ := sr_next_left ok hlt hv hg (t := t) (tn := c.tl) (tn' := tn)
  refine ⟨c', h', tk, m', rfl, F, ?_, ?_, ?_, a3, ok', hlt'⟩
  · rw [e5, e6]; exact N
  · rw [e1, e3]; exact a1
  · rw [e2, e4, ← hnh]; exact a2
end
theorem fin_lk {h₀ h : Heap} {L : Addr} {l news : List (Addr × Obj)} {p55 : Array Value} {c55 : Addr} {o55 : Obj} {p48 : Array Value} {c48 : Addr} {o48 : Obj} {p76 : Array Value} {c76 : Addr} {o76 : Obj} {row : List Int}
    {c76' r lk rl : Addr} {o76' : Obj} {v76 : Array Value} {t76 : Tok} {g : Int → Bool} {R : Int × List Int} {c : SS} {t : Tok} {vs : List Value} {n : Nat}
    (T : TOk news p55 c55 o55 p48 c48 o48 p76 c76 o76) (N : News h₀ L h l) (ok : SrOk g row R c) (hlt : ¬ c.lo < c.hi)
    (mr : (r, tupIR c.lo t lk) ∈ l) (ml : (lk, listOf c.its n) ∈ l) (m55 : (55, tabObj p55) ∈ l) (mc55 : (c55, o55) ∈ l) (m48 : (48, tabObj p48) ∈ l) (mc48 : (c48, o48) ∈ l)
    (m76 : (76, tabObj #[rawInt (120 : Nat), rawInt (47 : Nat), .ref c76']) ∈ l) (mc76 : (c76', o76') ∈ l) {rn : Nat} (mrl : (rl, listOf vs.toArray rn) ∈ l) (ms : ∀ q ∈ news, q ∈ l)
    (d76 : o76'.data = .fields v76) (e76 : v76[1]? = some (.str (Str.ofString "_law_looked.<locals>.<lambda>") t76)) (b76 : ∀ q ∈ news, q.1 ≠ c76')
    (n1 : @Ne Nat c76' 55) (n2 : @Ne Nat c76' 48) (n3 : @Ne Nat c76' 76) (m2 : @Ne Nat c55 c76') (m3 : @Ne Nat c48 c76') :
    R = (c.lo, c.ns) ∧ IntsAre c.its.toList c.ns ∧ c.its.toList.length ≤ 16 ∧
    News h₀ L h ((r, tupIR c.lo t lk) :: (lk, listOf c.its.toList.toArray n) :: (55, tabObj p55) :: (c55, o55) :: (48, tabObj p48) :: (c48, o48) :: (76, tabObj #[rawInt (120 : Nat), rawInt (47 : Nat), .ref c76']) :: (c76', o76') :: (rl, listOf vs.toArray rn) :: news) ∧
    TOk news p55 c55 o55 p48 c48 o48 #[rawInt (120 : Nat), rawInt (47 : Nat), .ref c76'] c76' o76' := by
  refine ⟨?_, ok.isI, ?_, ?_, ?_⟩
  · rw [ok.val, srch_stop hlt, List.append_nil]
  · have := ok.size; have e : c.its.toList.length = c.its.size := Array.length_toList; omega
  · rw [Array.toArray_toList]
    refine List.forall_mem_cons.mpr ⟨N _ mr, ?_⟩
    refine List.forall_mem_cons.mpr ⟨N _ ml, ?_⟩
    refine List.forall_mem_cons.mpr ⟨N _ m55, ?_⟩
    refine List.forall_mem_cons.mpr ⟨N _ mc55, ?_⟩
    refine List.forall_mem_cons.mpr ⟨N _ m48, ?_⟩
    refine List.forall_mem_cons.mpr ⟨N _ mc48, ?_⟩
    refine List.forall_mem_cons.mpr ⟨N _ m76, ?_⟩
    refine List.forall_mem_cons.mpr ⟨N _ mc76, ?_⟩
    refine List.forall_mem_cons.mpr ⟨N _ mrl, ?_⟩
    exact fun q hq => N q (ms q hq)
  · exact ⟨T.s55, T.s48, .inr ⟨rfl, _, _, d76, e76⟩, T.a55, T.a48, T.a76, T.b55, T.b48, b76, T.n1, T.n2, T.n3, T.n4, T.n5, T.n6, n1, n2, n3, T.m1, m2, m3⟩
end Mine
/- Use -/
namespace Mine
def AllNe (d : Nat) : List (Addr × Obj) → Prop
  | [] => True
  | p :: r => @Ne Nat p.1 d ∧ AllNe d r
theorem allNe_of {d : Addr} : ∀ {l : List (Addr × Obj)}, (∀ p ∈ l, p.1 ≠ d) → AllNe d l
  | [], _ => trivial
  | _ :: _, h => ⟨h _ (.head _), allNe_of fun q hq => h q (.tail _ hq)⟩
theorem TOk.tail {p : Addr × Obj} {news : List (Addr × Obj)} {p55 : Array Value} {c55 : Addr} {o55 : Obj} {p48 : Array Value} {c48 : Addr} {o48 : Obj} {p76 : Array Value} {c76 : Addr} {o76 : Obj} (T : TOk (p :: news) p55 c55 o55 p48 c48 o48 p76 c76 o76) : TOk news p55 c55 o55 p48 c48 o48 p76 c76 o76 :=
  ⟨T.s55, T.s48, T.s76, fun q h => T.a55 q (.tail _ h), fun q h => T.a48 q (.tail _ h), fun q h => T.a76 q (.tail _ h), fun q h => T.b55 q (.tail _ h), fun q h => T.b48 q (.tail _ h), fun q h => T.b76 q (.tail _ h), T.n1, T.n2, T.n3, T.n4, T.n5, T.n6, T.n7, T.n8, T.n9, T.m1, T.m2, T.m3⟩
theorem tok_cut {l l1 l2 l3 l4 l5 rest : List (Addr × Obj)} {p55 : Array Value} {c55 : Addr} {o55 : Obj} {p48 : Array Value} {c48 : Addr} {o48 : Obj} {p76 : Array Value} {c76 : Addr} {o76 : Obj}
    (k1 : CutI 55 (tabObj p55) l l1) (S55 : TabSt p55 c55 o55 (Str.ofString "_digits2int.<locals>.inner") 88 4) (k2 : CutI c55 o55 l1 l2) (k3 : CutI 48 (tabObj p48) l2 l3) (S48 : TabSt p48 c48 o48 (Str.ofString "_int2digits.<locals>.inner") 73 4) (k4 : CutI c48 o48 l3 l4)
    (k5 : CutI 76 (tabObj p76) l4 l5) (S76 : TabSt p76 c76 o76 (Str.ofString "_law_looked.<locals>.<lambda>") 120 47) (k6 : CutI c76 o76 l5 rest) :
    TOk rest p55 c55 o55 p48 c48 o48 p76 c76 o76 ∧ ∀ q ∈ (55, tabObj p55) :: (c55, o55) :: (48, tabObj p48) :: (c48, o48) :: (76, tabObj p76) :: (c76, o76) :: rest, q ∈ l := by
  obtain ⟨i1, j1, e1⟩ := k1.spec
  obtain ⟨i2, j2, e2⟩ := k2.spec
  obtain ⟨i3, j3, e3⟩ := k3.spec
  obtain ⟨i4, j4, e4⟩ := k4.spec
  obtain ⟨i5, j5, e5⟩ := k5.spec
  obtain ⟨i6, j6, e6⟩ := k6.spec
  have x1 : ∀ q ∈ l3, q ∈ l1 := fun q h => j2 q (j3 q h)
  have x2 : ∀ q ∈ l5, q ∈ l3 := fun q h => j4 q (j5 q h)
  refine ⟨⟨S55, S48, S76, fun q h => e1 q (x1 q (x2 q (j6 q h))), fun q h => e3 q (x2 q (j6 q h)), fun q h => e5 q (j6 q h), fun q h => e2 q (j3 q (x2 q (j6 q h))), fun q h => e4 q (j5 q (j6 q h)), e6,
    e1 _ i2, Ne.symm (e2 _ i3), Ne.symm (e2 _ (j3 _ (j4 _ i5))), e1 _ (x1 _ i4), e3 _ i4, Ne.symm (e4 _ i5), e1 _ (x1 _ (x2 _ i6)), e3 _ (x2 _ i6), e5 _ i6, Ne.symm (e2 _ (j3 _ i4)), Ne.symm (e2 _ (j3 _ (x2 _ i6))), Ne.symm (e4 _ (j5 _ i6))⟩, ?_⟩
  refine List.forall_mem_cons.mpr ⟨i1, ?_⟩
  refine List.forall_mem_cons.mpr ⟨j1 _ i2, ?_⟩
  refine List.forall_mem_cons.mpr ⟨j1 _ (j2 _ i3), ?_⟩
  refine List.forall_mem_cons.mpr ⟨j1 _ (x1 _ i4), ?_⟩
  refine List.forall_mem_cons.mpr ⟨j1 _ (x1 _ (j4 _ i5)), ?_⟩
  refine List.forall_mem_cons.mpr ⟨j1 _ (x1 _ (x2 _ i6)), ?_⟩
  exact fun q h => j1 _ (x1 _ (x2 _ (j6 _ h)))
theorem cdm_use {w : World} {P : Int → Prop} (hC : Cdm w P) {mean : ExcName → Option Value} {mg mb : Str → Option Value} {dp un : Nat} {gd : Option (List Code)} {cn : Str} {cs : Scope} {a : Addr} {ccd : Value} {cl : List (Str × Addr)} {outer : List Env} {A₀ : Around} {base h₀ : Heap} {L : Addr} {m : Str → Option Value} {s : Shared} {x : Int} {t1 t2 : Tok}
    {l l1 l2 l3 l4 l5 rest : List (Addr × Obj)} {p55 : Array Value} {c55 : Addr} {o55 : Obj} {p48 : Array Value} {c48 : Addr} {o48 : Obj} {p76 : Array Value} {c76 : Addr} {o76 : Obj} {Q E : Value → Shared → Prop}
    (B : Below A₀ base outer h₀) (F : Fr h₀ L s.heap m) (X : (hd.heap_39 w.params).In h₀) (N : News h₀ L s.heap l)
    (k1 : CutI 55 (tabObj p55) l l1) (S55 : TabSt p55 c55 o55 (Str.ofString "_digits2int.<locals>.inner") 88 4) (k2 : CutI c55 o55 l1 l2) (k3 : CutI 48 (tabObj p48) l2 l3) (S48 : TabSt p48 c48 o48 (Str.ofString "_int2digits.<locals>.inner") 73 4) (k4 : CutI c48 o48 l3 l4)
    (k5 : CutI 76 (tabObj p76) l4 l5) (S76 : TabSt p76 c76 o76 (Str.ofString "_law_looked.<locals>.<lambda>") 120 47) (k6 : CutI c76 o76 l5 rest)
    (C55 : CodeHd base 59 55) (C48 : CodeHd base 52 48) (C76 : CodeHd base 80 76) (T : Top topProg loose0 mean mg mb h₀) (hk : cs.kind = .function) (hP : P x) (hd : dp + 40 < recursionLimit) (hu : un + 400 < cLine)
    (hret : ∀ (r : Addr) h' tk' q t rr t' p55' c55' o55' p48' c48' o48', q = x / 2 → rr = x % 2 → Fr h₀ L h' m →
      News h₀ L h' ((r, tup2 q t rr t') :: (55, tabObj p55') :: (c55', o55') :: (48, tabObj p48') :: (c48', o48') :: (76, tabObj p76) :: (c76, o76) :: rest) → TOk rest p55' c55' o55' p48' c48' o48' p76 c76 o76 →
      AllLt r ((55, tabObj p55') :: (c55', o55') :: (48, tabObj p48') :: (c48', o48') :: (76, tabObj p76) :: (c76, o76) :: rest) → Q (.ref r) { s with heap := h', toks := tk' }) :
    wpAny (model Challenge.rw_gm0007_01.row.prog w) (ktrTop dp un gd cn cs L a ccd cl outer) (call (.ref 74) [.int x t1, .int 2 t2]) Q E s := by
  obtain ⟨TK, sub⟩ := tok_cut k1 S55 k2 k3 S48 k4 k5 S76 k6
  exact hC mean mg mb dp un gd cn cs a ccd cl outer A₀ base h₀ L m rest s x t1 t2 p55 c55 o55 p48 c48 o48 p76 c76 o76 Q E B F X (fun q h => N q (sub q h)) TK C55 C48 C76 T hk hP hd hu hret
end Mine
/- Halv -/
namespace Mine
structure HS where
  ss : SS
  p55 : Array Value
  c55 : Addr
  o55 : Obj
  p48 : Array Value
  c48 : Addr
  o48 : Obj
abbrev hvLed (fl : Addr) (p76 : Array Value) (c76 : Addr) (o76 : Obj) (rl : Addr) (ro : Obj) (news : List (Addr × Obj)) (c : HS) : List (Addr × Obj) :=
  (fl, listOf c.ss.its c.ss.n) :: (55, tabObj c.p55) :: (c.c55, c.o55) :: (48, tabObj c.p48) :: (c.c48, c.o48) :: (76, tabObj p76) :: (c76, o76) :: (rl, ro) :: news
structure HvOk (g : Int → Bool) (row : List Int) (R : Int × List Int) (fl : Addr) (p76 : Array Value) (c76 : Addr) (o76 : Obj) (rl : Addr) (news : List (Addr × Obj)) (c : HS) : Prop where
  ok : SrOk g row R c.ss
  tk : TOk news c.p55 c.c55 c.o55 c.p48 c.c48 c.o48 p76 c76 o76
  f55 : @Ne Nat fl c.c55
  f48 : @Ne Nat fl c.c48
  r55 : @Ne Nat rl c.c55
  r48 : @Ne Nat rl c.c48
abbrev hvMap (m₀ u : Str → Option Value) (c : SS) : Str → Option Value := fun z => if z = Str.ofString "low" then some (.int c.lo c.tl) else if z = Str.ofString "high" then some (.int c.hi c.th) else if z = Str.ofString "middle" then u z else m₀ z
def HvEnd (h₀ : Heap) (L : Addr) (s : Shared) (m₀ : Str → Option Value) (g : Int → Bool) (row : List Int) (R : Int × List Int) (fl : Addr) (p76 : Array Value) (c76 : Addr) (o76 : Obj) (rl : Addr) (ro : Obj) (news : List (Addr × Obj)) (c : HS) (s₂ : Shared) : Prop :=
  ∃ (c' : HS) (h' : Heap) (tk : Nat) (m' : Str → Option Value), s₂ = { s with heap := h', toks := tk } ∧ Fr h₀ L h' m' ∧ News h₀ L h' (hvLed fl p76 c76 o76 rl ro news c') ∧ m' (Str.ofString "low") = some (.int c'.ss.lo c'.ss.tl) ∧ m' (Str.ofString "high") = some (.int c'.ss.hi c'.ss.th) ∧
    (∀ z, z ≠ Str.ofString "low" → z ≠ Str.ofString "high" → z ≠ Str.ofString "middle" → m' z = m₀ z) ∧ HvOk g row R fl p76 c76 o76 rl news c' ∧ c'.ss.k < c.ss.k
def HvPost (h₀ : Heap) (L : Addr) (s : Shared) (m₀ : Str → Option Value) (g : Int → Bool) (row : List Int) (R : Int × List Int) (fl : Addr) (p76 : Array Value) (c76 : Addr) (o76 : Obj) (rl : Addr) (ro : Obj) (news : List (Addr × Obj)) (c : HS) (Q : Flow → Shared → Prop) (f : Flow) (s₂ : Shared) : Prop :=
  match f with
  | .ret v => Q (.ret v) s₂
  | .brk => Q .next s₂
  | _ => HvEnd h₀ L s m₀ g row R fl p76 c76 o76 rl ro news c s₂
section
variable {prog : Program} {w : World} {A : Around} {E : Value → Shared → Prop} {Q : Flow → Shared → Prop} {s : Shared} {env : Env} {h₀ : Heap} {L : Addr}
theorem while_halv {test : PySem.Expr} {body : List Stmt} {pos : Pos} {m₀ : Str → Option Value} {news : List (Addr × Obj)} {fl rl : Addr} {ro : Obj} {row : List Int} {lo hi : Int} {tl th : Tok} (g : Int → Bool) (_hG : GMark g)
    {p55 : Array Value} {c55 : Addr} {o55 : Obj} {p48 : Array Value} {c48 : Addr} {o48 : Obj} {p76 : Array Value} {c76 : Addr} {o76 : Obj} 
    (F : Fr h₀ L s.heap m₀) (N : News h₀ L s.heap ((fl, listOf #[] 0) :: (55, tabObj p55) :: (c55, o55) :: (48, tabObj p48) :: (c48, o48) :: (76, tabObj p76) :: (c76, o76) :: (rl, ro) :: news))
    (TK : TOk news p55 c55 o55 p48 c48 o48 p76 c76 o76) (f55 : @Ne Nat fl c55) (f48 : @Ne Nat fl c48) (r55 : @Ne Nat rl c55) (r48 : @Ne Nat rl c48)
    (hlo : m₀ (Str.ofString "low") = some (.int lo tl)) (hhi : m₀ (Str.ofString "high") = some (.int hi th))
    (b0 : 0 ≤ lo) (b1 : lo ≤ hi) (b2 : hi ≤ (row.length : Int)) (b3 : row.length ≤ 16)
    (turn : ∀ (c : HS) (u : Str → Option Value) h tk, HvOk g row (srch g row 16 lo hi) fl p76 c76 o76 rl news c → Fr h₀ L h (hvMap m₀ u c.ss) → News h₀ L h (hvLed fl p76 c76 o76 rl ro news c) →
      wpAny (model prog w) A (isTrue test env (eval test env)) (fun b s₂ =>
        if b = true then wpAny (model prog w) A (execs body env) (HvPost h₀ L s m₀ g row (srch g row 16 lo hi) fl p76 c76 o76 rl ro news c Q) E s₂ else Q .next s₂) E { s with heap := h, toks := tk })
    (hE : PassesOwn (model prog w) A env E := by passes_own) :
    wpAny (model prog w) A (exec (.While test body [] pos) env) Q E s := by
  refine While_inv2 (fun n m nx => ∃ c : HS, c.ss.k = n ∧ nx = hvLed fl p76 c76 o76 rl ro news c ∧ m (Str.ofString "low") = some (.int c.ss.lo c.ss.tl) ∧ m (Str.ofString "high") = some (.int c.ss.hi c.ss.th) ∧
    (∀ z, z ≠ Str.ofString "low" → z ≠ Str.ofString "high" → z ≠ Str.ofString "middle" → m z = m₀ z) ∧ HvOk g row (srch g row 16 lo hi) fl p76 c76 o76 rl news c) F N
    ⟨⟨⟨lo, hi, tl, th, #[], 0, [], 16⟩, p55, c55, o55, p48, c48, o48⟩, rfl, rfl, hlo, hhi, fun _ _ _ _ => rfl, ⟨srOk0 16 (Nat.le_refl _) b0 b1 b2 (by omega), TK, f55, f48, r55, r48⟩⟩ ?_ hE
  rintro n m₁ nx h tk F₁ N₁ ⟨c, hk, hnx, e1, e2, e3, ok⟩
  subst hnx
  have em : m₁ = hvMap m₀ m₁ c.ss := by
    funext z
    show m₁ z = if z = Str.ofString "low" then some (.int c.ss.lo c.ss.tl) else if z = Str.ofString "high" then some (.int c.ss.hi c.ss.th) else if z = Str.ofString "middle" then m₁ z else m₀ z
    by_cases h1 : z = Str.ofString "low"
    · rw [if_pos h1, h1]; exact e1
    · rw [if_neg h1]
      by_cases h2 : z = Str.ofString "high"
      · rw [if_pos h2, h2]; exact e2
      · rw [if_neg h2]
        by_cases h3 : z = Str.ofString "middle"
        · rw [if_pos h3]
        · rw [if_neg h3]; exact e3 z h1 h2 h3
  rw [em] at F₁
  refine wpAny_mono (turn c m₁ h tk ok F₁ N₁) (fun b s₂ p => ?_) fun _ _ x => x
  cases b with
  | false => simpa using p
  | true =>
    simp only [if_true] at p ⊢
    refine wpAny_mono p (fun f s₃ q => ?_) fun _ _ x => x
    cases f with
    | ret v => exact q
    | brk => exact q
    | next =>
      obtain ⟨c', h', tk', m', rfl, F', N', a1, a2, a3, ok', hlt⟩ := q
      exact ⟨h', tk', m', _, c'.ss.k, rfl, F', N', hk ▸ hlt, c', rfl, rfl, a1, a2, a3, ok'⟩
    | cont =>
      obtain ⟨c', h', tk', m', rfl, F', N', a1, a2, a3, ok', hlt⟩ := q
      exact ⟨h', tk', m', _, c'.ss.k, rfl, F', N', hk ▸ hlt, c', rfl, rfl, a1, a2, a3, ok'⟩
variable {m₀ m' : Str → Option Value} {g : Int → Bool} {row : List Int} {R : Int × List Int} {fl : Addr} {p76 : Array Value} {c76 : Addr} {o76 : Obj} {rl : Addr} {ro : Obj} {news : List (Addr × Obj)} {c : HS} {h' : Heap} {tk : Nat} {v : Int} {t tn : Tok}
  {p55' : Array Value} {c55' : Addr} {o55' : Obj} {p48' : Array Value} {c48' : Addr} {o48' : Obj} {fo ro' : Obj} {l : List (Addr × Obj)}
theorem hv_news {fo' : Obj} (N : News h₀ L h' l) (ml : (fl, fo') ∈ l) (m55 : (55, tabObj p55') ∈ l) (mc55 : (c55', o55') ∈ l) (m48 : (48, tabObj p48') ∈ l) (mc48 : (c48', o48') ∈ l) (m76 : (76, tabObj p76) ∈ l) (mc76 : (c76, o76) ∈ l) (mrl : (rl, ro) ∈ l) (ms : ∀ q ∈ news, q ∈ l) :
    News h₀ L h' ((fl, fo') :: (55, tabObj p55') :: (c55', o55') :: (48, tabObj p48') :: (c48', o48') :: (76, tabObj p76) :: (c76, o76) :: (rl, ro) :: news) := by
  refine List.forall_mem_cons.mpr ⟨N _ ml, ?_⟩
  refine List.forall_mem_cons.mpr ⟨N _ m55, ?_⟩
  refine List.forall_mem_cons.mpr ⟨N _ mc55, ?_⟩
  refine List.forall_mem_cons.mpr ⟨N _ m48, ?_⟩
  refine List.forall_mem_cons.mpr ⟨N _ mc48, ?_⟩
  refine List.forall_mem_cons.mpr ⟨N _ m76, ?_⟩
  refine List.forall_mem_cons.mpr ⟨N _ mc76, ?_⟩
  refine List.forall_mem_cons.mpr ⟨N _ mrl, ?_⟩
  exact fun q hq => N q (ms q hq)
theorem hv_right {nl : Int} (hok : HvOk g row R fl p76 c76 o76 rl news c) (hlt : c.ss.lo < c.ss.hi) (hv : v = row.getD ((c.ss.lo + c.ss.hi) / 2).toNat 0) (hg : g v = true) (hnl : nl = (c.ss.lo + c.ss.hi) / 2 + 1)
    (T' : TOk ((fl, fo) :: (rl, ro') :: news) p55' c55' o55' p48' c48' o48' p76 c76 o76)
    (F : Fr h₀ L h' m') (N : News h₀ L h' l) (ml : (fl, listOf (c.ss.its.push (.int v t)) (c.ss.n + 1)) ∈ l) (m55 : (55, tabObj p55') ∈ l) (mc55 : (c55', o55') ∈ l) (m48 : (48, tabObj p48') ∈ l) (mc48 : (c48', o48') ∈ l) (m76 : (76, tabObj p76) ∈ l) (mc76 : (c76, o76) ∈ l) (mrl : (rl, ro) ∈ l) (ms : ∀ q ∈ news, q ∈ l)
    (a1 : m' (Str.ofString "low") = some (.int nl tn)) (a2 : m' (Str.ofString "high") = some (.int c.ss.hi c.ss.th))
    (a3 : ∀ z, z ≠ Str.ofString "low" → z ≠ Str.ofString "high" → z ≠ Str.ofString "middle" → m' z = m₀ z) : HvEnd h₀ L s m₀ g row R fl p76 c76 o76 rl ro news c { s with heap := h', toks := tk } := by
  obtain ⟨c', hlt', ok', e1, e2, e3, e4, e5, e6⟩ := sr_next_right hok.ok hlt hv hg (t := t) (tn := tn)
  refine ⟨⟨c', p55', c55', o55', p48', c48', o48'⟩, h', tk, m', rfl, F, ?_, ?_, ?_, a3, ⟨ok', T'.tail.tail, T'.b55 _ (.head _), T'.b48 _ (.head _), T'.b55 _ (.tail _ (.head _)), T'.b48 _ (.tail _ (.head _))⟩, hlt'⟩
  · have := hv_news N ml m55 mc55 m48 mc48 m76 mc76 mrl ms
    rw [← e5, ← e6] at this
    exact this
  · show m' (Str.ofString "low") = some (.int c'.lo c'.tl); rw [e1, e3, ← hnl]; exact a1
  · show m' (Str.ofString "high") = some (.int c'.hi c'.th); rw [e2, e4]; exact a2
theorem hv_left {nh : Int} {tn2 : Tok} (hok : HvOk g row R fl p76 c76 o76 rl news c) (hlt : c.ss.lo < c.ss.hi) (hv : v = row.getD ((c.ss.lo + c.ss.hi) / 2).toNat 0) (hg : g v = false) (hnh : nh = (c.ss.lo + c.ss.hi) / 2)
    (T' : TOk ((fl, fo) :: (rl, ro') :: news) p55' c55' o55' p48' c48' o48' p76 c76 o76)
    (F : Fr h₀ L h' m') (N : News h₀ L h' l) (ml : (fl, listOf (c.ss.its.push (.int v t)) (c.ss.n + 1)) ∈ l) (m55 : (55, tabObj p55') ∈ l) (mc55 : (c55', o55') ∈ l) (m48 : (48, tabObj p48') ∈ l) (mc48 : (c48', o48') ∈ l) (m76 : (76, tabObj p76) ∈ l) (mc76 : (c76, o76) ∈ l) (mrl : (rl, ro) ∈ l) (ms : ∀ q ∈ news, q ∈ l)
    (a1 : m' (Str.ofString "low") = some (.int c.ss.lo tn2)) (a2 : m' (Str.ofString "high") = some (.int nh tn))
    (a3 : ∀ z, z ≠ Str.ofString "low" → z ≠ Str.ofString "high" → z ≠ Str.ofString "middle" → m' z = m₀ z) : HvEnd h₀ L s m₀ g row R fl p76 c76 o76 rl ro news c { s with heap := h', toks := tk } := by
  obtain ⟨c', hlt', ok', e1, e2, e3, e4, e5, e6⟩ := sr_next_left hok.ok hlt hv hg (t := t) (tn := tn2) (tn' := tn)
  refine ⟨⟨c', p55', c55', o55', p48', c48', o48'⟩, h', tk, m', rfl, F, ?_, ?_, ?_, a3, ⟨ok', T'.tail.tail, T'.b55 _ (.head _), T'.b48 _ (.head _), T'.b55 _ (.tail _ (.head _)), T'.b48 _ (.tail _ (.head _))⟩, hlt'⟩
  · have := hv_news N ml m55 mc55 m48 mc48 m76 mc76 mrl ms
    rw [← e5, ← e6] at this
    exact this
  · show m' (Str.ofString "low") = some (.int c'.lo c'.tl); rw [e1, e3]; exact a1
  · show m' (Str.ofString "high") = some (.int c'.hi c'.th); rw [e2, e4, ← hnh]; exact a2
end
theorem fin_hv {h₀ h' : Heap} {L : Addr} {g : Int → Bool} {row : List Int} {R : Int × List Int} {fl : Addr} {p76 : Array Value} {c76 : Addr} {o76 : Obj} {rl : Addr} {ro : Obj} {news : List (Addr × Obj)} {c : HS}
    (ok : HvOk g row R fl p76 c76 o76 rl news c) (hlt : ¬ c.ss.lo < c.ss.hi) (N : News h₀ L h' (hvLed fl p76 c76 o76 rl ro news c)) :
    IntsAre c.ss.its.toList R.2 ∧ c.ss.its.toList.length ≤ 16 ∧ News h₀ L h' ((fl, listOf c.ss.its.toList.toArray c.ss.n) :: (55, tabObj c.p55) :: (c.c55, c.o55) :: (48, tabObj c.p48) :: (c.c48, c.o48) :: (76, tabObj p76) :: (c76, o76) :: (rl, ro) :: news) := by
  refine ⟨?_, ?_, ?_⟩
  · rw [ok.ok.val, srch_stop hlt, List.append_nil]; exact ok.ok.isI
  · have := ok.ok.size; have e : c.ss.its.toList.length = c.ss.its.size := Array.length_toList; omega
  · rw [Array.toArray_toList]; exact N
/-- what _law_halves does -/
def Chv (w : World) : Prop := ∀ (mean : ExcName → Option Value) (mg mb : Str → Option Value) (dp un : Nat) (gd : Option (List Code)) (cn : Str) (cs : Scope) (a : Addr) (ccd : Value) (cl : List (Str × Addr)) (outer : List Env) (A₀ : Around) (base h₀ : Heap) (L : Addr) (m : Str → Option Value) (news : List (Addr × Obj)) (s : Shared)
    (p55 : Array Value) (c55 : Addr) (o55 : Obj) (p48 : Array Value) (c48 : Addr) (o48 : Obj) (p76 : Array Value) (c76 : Addr) (o76 : Obj) (rl : Addr) (vs : List Value) (n : Nat) (row : List Int) (x lo hi : Int) (t1 t2 t3 : Tok) (Q E : Value → Shared → Prop),
    Below A₀ base outer h₀ → Fr h₀ L s.heap m → (hd.heap_39 w.params).In h₀ →
    News h₀ L s.heap ((55, tabObj p55) :: (c55, o55) :: (48, tabObj p48) :: (c48, o48) :: (76, tabObj p76) :: (c76, o76) :: (rl, listOf vs.toArray n) :: news) → TOk news p55 c55 o55 p48 c48 o48 p76 c76 o76 →
    (∀ q ∈ news, q.1 ≠ rl) → @Ne Nat rl 55 → @Ne Nat rl 48 → @Ne Nat rl 76 → @Ne Nat rl c55 → @Ne Nat rl c48 → @Ne Nat rl c76 → IntsAre vs row →
    CodeHd base 59 55 → CodeHd base 52 48 → CodeHd base 80 76 → Top topProg loose0 mean mg mb h₀ → cs.kind = .function → 0 ≤ lo → lo ≤ hi → hi ≤ (row.length : Int) → row.length ≤ 16 → dp + 50 < recursionLimit → un + 500 < cLine →
    (∀ (r : Addr) h' tk' its n' p55' c55' o55' p48' c48' o48', IntsAre its (srch (fun v => decide (v < x)) row 16 lo hi).2 → its.length ≤ 16 → Fr h₀ L h' m →
      News h₀ L h' ((r, listOf its.toArray n') :: (55, tabObj p55') :: (c55', o55') :: (48, tabObj p48') :: (c48', o48') :: (76, tabObj p76) :: (c76, o76) :: (rl, listOf vs.toArray n) :: news) → TOk news p55' c55' o55' p48' c48' o48' p76 c76 o76 →
      @Ne Nat rl c55' → @Ne Nat rl c48' → @Ne Nat r c55' → @Ne Nat r c48' → AllLt r ((55, tabObj p55') :: (48, tabObj p48') :: (76, tabObj p76) :: (c76, o76) :: (rl, listOf vs.toArray n) :: news) → Q (.ref r) { s with heap := h', toks := tk' }) →
    wpAny (model Challenge.rw_gm0007_01.row.prog w) (ktrTop dp un gd cn cs L a ccd cl outer) (call (.ref 88) [.int lo t2, .int hi t3, .ref rl, .int x t1]) Q E s
end Mine
/- Dep -/
namespace Mine
def depF : Nat → Int → Int
  | 0, _ => 0
  | k + 1, x => if x = 0 then 0 else x + 1 + depF k (x / 2) + depF k (x / 2 + x % 2 - 1)
/-- what _law_depths does, for the arguments up to k -/
def Cdp (w : World) (k : Nat) : Prop := ∀ (mean : ExcName → Option Value) (mg mb : Str → Option Value) (dp un : Nat) (gd : Option (List Code)) (cn : Str) (cs : Scope) (a : Addr) (ccd : Value) (cl : List (Str × Addr)) (outer : List Env) (A₀ : Around) (base h₀ : Heap) (L : Addr) (m : Str → Option Value) (news : List (Addr × Obj)) (s : Shared) (x : Int) (t1 : Tok)
    (p55 : Array Value) (c55 : Addr) (o55 : Obj) (p48 : Array Value) (c48 : Addr) (o48 : Obj) (p76 : Array Value) (c76 : Addr) (o76 : Obj) (Q E : Value → Shared → Prop),
    Below A₀ base outer h₀ → Fr h₀ L s.heap m → (hd.heap_39 w.params).In h₀ →
    News h₀ L s.heap ((55, tabObj p55) :: (c55, o55) :: (48, tabObj p48) :: (c48, o48) :: (76, tabObj p76) :: (c76, o76) :: news) → TOk news p55 c55 o55 p48 c48 o48 p76 c76 o76 →
    CodeHd base 59 55 → CodeHd base 52 48 → CodeHd base 80 76 → Top topProg loose0 mean mg mb h₀ → cs.kind = .function → 0 ≤ x → x ≤ (k : Int) → x < 64 → dp + 50 + k < recursionLimit → un + 500 + 16 * k < cLine →
    (∀ h' tk' t p55' c55' o55' p48' c48' o48', Fr h₀ L h' m →
      News h₀ L h' ((55, tabObj p55') :: (c55', o55') :: (48, tabObj p48') :: (c48', o48') :: (76, tabObj p76) :: (c76, o76) :: news) → TOk news p55' c55' o55' p48' c48' o48' p76 c76 o76 → Q (.int (depF k x) t) { s with heap := h', toks := tk' }) →
    wpAny (model Challenge.rw_gm0007_01.row.prog w) (ktrTop dp un gd cn cs L a ccd cl outer) (call (.ref 95) [.int x t1]) Q E s
theorem cdp_use {w : World} {k : Nat} (hC : Cdp w k) {mean : ExcName → Option Value} {mg mb : Str → Option Value} {dp un : Nat} {gd : Option (List Code)} {cn : Str} {cs : Scope} {a : Addr} {ccd : Value} {cl : List (Str × Addr)} {outer : List Env} {A₀ : Around} {base h₀ : Heap} {L : Addr} {m : Str → Option Value} {s : Shared} {x : Int} {t1 : Tok}
    {l l1 l2 l3 l4 l5 rest : List (Addr × Obj)} {p55 : Array Value} {c55 : Addr} {o55 : Obj} {p48 : Array Value} {c48 : Addr} {o48 : Obj} {p76 : Array Value} {c76 : Addr} {o76 : Obj} {Q E : Value → Shared → Prop}
    (B : Below A₀ base outer h₀) (F : Fr h₀ L s.heap m) (X : (hd.heap_39 w.params).In h₀) (N : News h₀ L s.heap l)
    (k1 : CutI 55 (tabObj p55) l l1) (S55 : TabSt p55 c55 o55 (Str.ofString "_digits2int.<locals>.inner") 88 4) (k2 : CutI c55 o55 l1 l2) (k3 : CutI 48 (tabObj p48) l2 l3) (S48 : TabSt p48 c48 o48 (Str.ofString "_int2digits.<locals>.inner") 73 4) (k4 : CutI c48 o48 l3 l4)
    (k5 : CutI 76 (tabObj p76) l4 l5) (S76 : TabSt p76 c76 o76 (Str.ofString "_law_looked.<locals>.<lambda>") 120 47) (k6 : CutI c76 o76 l5 rest)
    (C55 : CodeHd base 59 55) (C48 : CodeHd base 52 48) (C76 : CodeHd base 80 76) (T : Top topProg loose0 mean mg mb h₀) (hk : cs.kind = .function) (h0 : 0 ≤ x) (h1 : x ≤ (k : Int)) (h2 : x < 64) (hd : dp + 50 + k < recursionLimit) (hu : un + 500 + 16 * k < cLine)
    (hret : ∀ h' tk' t p55' c55' o55' p48' c48' o48', Fr h₀ L h' m →
      News h₀ L h' ((55, tabObj p55') :: (c55', o55') :: (48, tabObj p48') :: (c48', o48') :: (76, tabObj p76) :: (c76, o76) :: rest) → TOk rest p55' c55' o55' p48' c48' o48' p76 c76 o76 → Q (.int (depF k x) t) { s with heap := h', toks := tk' }) :
    wpAny (model Challenge.rw_gm0007_01.row.prog w) (ktrTop dp un gd cn cs L a ccd cl outer) (call (.ref 95) [.int x t1]) Q E s := by
  obtain ⟨TK, sub⟩ := tok_cut k1 S55 k2 k3 S48 k4 k5 S76 k6
  exact hC mean mg mb dp un gd cn cs a ccd cl outer A₀ base h₀ L m rest s x t1 p55 c55 o55 p48 c48 o48 p76 c76 o76 Q E B F X (fun q h => N q (sub q h)) TK C55 C48 C76 T hk h0 h1 h2 hd hu hret
end Mine
/- Rng -/
namespace Mine
section
variable {prog : Program} {w : World} {A : Around} {E : Value → Shared → Prop} {s : Shared} {env : Env} {h₀ : Heap} {x : Str} {xp : Pos} {body : List Stmt} {Q : Flow → Shared → Prop}
/-- a for over a range by an invariant, whatever its target's place -/
theorem range_inv {r : Addr} {a₀ b₀ : Int} {t₀ u₀ v₀ : Tok} {n : Nat} {m₀ : Str → Option Value} {news : List (Addr × Obj)} (J : Nat → (Str → Option Value) → List (Addr × Obj) → Prop)
    (hh : A.handled = none) (hr : IsRange s.heap r a₀ b₀ 1 t₀ u₀ v₀) (hsmall : Builtin.Range.small a₀ b₀ 1 = true) (hn : Builtin.Range.rangeSize a₀ b₀ 1 = (n : Int)) (F : Fr h₀ env.locals s.heap m₀) (N : News h₀ env.locals s.heap news) (hJ : J 0 m₀ news)
    (turn : ∀ (i : Nat) m₁ news₁ h tk t (I : Addr) (it : Obj), i < n → J i m₁ news₁ → (∀ p ∈ news₁, p.1 ≠ I) → Fr h₀ env.locals h m₁ → News h₀ env.locals h ((I, it) :: news₁) →
      wpAny (model prog w) A (assign (.Name x xp) env (.int (a₀ + (i : Int)) t)) (fun _ s₃ => wpAny (model prog w) A (execs body env) (UnrPost h₀ env.locals { s with heap := h, toks := tk } I it (J (i + 1)) Q) E s₃) E { s with heap := h, toks := tk })
    (done : ∀ h tk m' news', Fr h₀ env.locals h m' → News h₀ env.locals h news' → J n m' news' → Q .next { s with heap := h, toks := tk }) :
    wpAny (model prog w) A (pyIter (.ref r)) (fun it s₂ => TurnsAt prog w A h₀ env (.Name x xp) body Q E it s₂) E s := by
  refine wpAny_pyIter_range hr hsmall ?_
  have W : Walks prog w A s.heap.objs.size [s.heap.objs.size] [s.heap.objs.size] n (fun i v => i < n ∧ ∃ t, v = .int (a₀ + i * 1) t)
      (fun i h => IsRangeIter h s.heap.objs.size (a₀ + (i : Nat) * 1) ((n : Int) - (i : Nat)) 1) := (Walks.range hh _ a₀ 1 n).bound
  have hnew := next_is_new F
  have W' := KTurns.ofWalks (target := PySem.Expr.Name x xp) W (fun _ _ _ _ _ _ q => wpAny_pure q)
  refine ⟨_, _, _, n, _, _, _, m₀, news, J, rfl, W', ?_, ?_, ?_, (by show IsRangeIter _ _ _ _ _; rw [hn]; simpa using Heap.get?_push_size _ rfl), F.push _, (fun p hp => ⟨Heap.get?_push_of_some _ (N p hp).1, (N p hp).2⟩), hJ, ?_, ?_⟩
  · intro hm
    exact absurd F.ns.lt ((List.mem_singleton.mp hm) ▸ Nat.lt_irrefl _)
  · intro b hb
    rw [List.mem_singleton.mp hb]
    exact hnew
  · intro p hp hI
    exact absurd (Heap.lt_size (N p hp).1) ((List.mem_singleton.mp hI) ▸ Nat.lt_irrefl _)
  · rintro i v m₁ news₁ h₁ tk₁ own hin ⟨_, t, rfl⟩ hJ₁ hoff hown hget hall hst F₁ N₁
    have hst' : h₁.get? s.heap.objs.size = some (itR (a₀ + ((i + 1 : Nat) : Int)) ((n : Int) - ((i + 1 : Nat) : Int))) := by
      have q : IsRangeIter h₁ s.heap.objs.size (a₀ + ((i + 1 : Nat) : Int) * 1) ((n : Int) - ((i + 1 : Nat) : Int)) 1 := hst
      rw [Int.mul_one] at q
      exact q
    have hmem := hall s.heap.objs.size (List.mem_singleton.mpr rfl) hnew _ hst'
    have e1 : a₀ + (i : Int) * 1 = a₀ + (i : Int) := by rw [Int.mul_one]
    rw [e1]
    have N₂ : News h₀ env.locals h₁ ((s.heap.objs.size, itR (a₀ + ((i + 1 : Nat) : Int)) ((n : Int) - ((i + 1 : Nat) : Int))) :: news₁) := fun p hp => by
      rcases List.mem_cons.mp hp with rfl | hp
      · exact N₁ _ (List.mem_append_left _ hmem)
      · exact N₁ _ (List.mem_append_right _ hp)
    have hoff' : ∀ p ∈ news₁, p.1 ≠ s.heap.objs.size := fun p hp e => hoff p hp (List.mem_singleton.mpr e)
    have fin : ∀ s₂, UnrEnd h₀ env.locals { s with heap := h₁, toks := tk₁ } s.heap.objs.size (itR (a₀ + ((i + 1 : Nat) : Int)) ((n : Int) - ((i + 1 : Nat) : Int))) (J (i + 1)) s₂ →
        LoopStepU h₀ env.locals [s.heap.objs.size] own (J (i + 1)) { s with heap := h₁, toks := tk₁ } .next s₂ := by
      rintro s₂ ⟨h', tk, m', news', e, F', N', ho, r⟩
      refine ⟨rfl, h', tk, m', news', e, F', fun p hp => ?_, fun p hp hI => ho p hp (List.mem_singleton.mp hI), r⟩
      rcases List.mem_append.mp hp with hp | hp
      · have h1 : p.1 = s.heap.objs.size := List.mem_singleton.mp (hown p hp)
        have h2 : h₁.get? p.1 = some p.2 := hget p hp
        have h3 : p = (s.heap.objs.size, itR (a₀ + ((i + 1 : Nat) : Int)) ((n : Int) - ((i + 1 : Nat) : Int))) := by
          rw [h1, hst'] at h2
          exact Prod.ext h1 (Option.some.inj h2).symm
        rw [h3]; exact N' _ (List.mem_cons_self ..)
      · exact N' _ (List.mem_cons_of_mem _ hp)
    refine wpAny_mono (turn i m₁ news₁ h₁ tk₁ t _ _ hin hJ₁ hoff' F₁ N₂) (fun _ s₂ h₂ => wpAny_mono h₂ (fun f s₃ p => ?_) fun _ _ e => e) fun _ _ e => e
    cases f with
    | ret v => exact .ret p
    | brk => exact .brk p
    | next => exact .next (fin _ p)
    | cont => exact .cont (fin _ p)
  · intro h' tk m' news' F' N' _ hJ'
    exact done h' tk m' news' F' N' hJ'
end
end Mine
/- LawU -/
namespace Mine
theorem TOk.sub {news news' : List (Addr × Obj)} {p55 : Array Value} {c55 : Addr} {o55 : Obj} {p48 : Array Value} {c48 : Addr} {o48 : Obj} {p76 : Array Value} {c76 : Addr} {o76 : Obj} (T : TOk news p55 c55 o55 p48 c48 o48 p76 c76 o76) (h : ∀ q ∈ news', q ∈ news) : TOk news' p55 c55 o55 p48 c48 o48 p76 c76 o76 :=
  ⟨T.s55, T.s48, T.s76, fun q k => T.a55 q (h q k), fun q k => T.a48 q (h q k), fun q k => T.a76 q (h q k), fun q k => T.b55 q (h q k), fun q k => T.b48 q (h q k), fun q k => T.b76 q (h q k), T.n1, T.n2, T.n3, T.n4, T.n5, T.n6, T.n7, T.n8, T.n9, T.m1, T.m2, T.m3⟩
theorem clk_use {w : World} {f : Addr} {gf : Int → Int → Bool} (hC : Clk w f gf) {mean : ExcName → Option Value} {mg mb : Str → Option Value} {dp un : Nat} {gd : Option (List Code)} {cn : Str} {cs : Scope} {a : Addr} {ccd : Value} {cl : List (Str × Addr)} {outer : List Env} {A₀ : Around} {base h₀ : Heap} {L : Addr} {m : Str → Option Value} {s : Shared} {rl : Addr} {vs : List Value} {n : Nat} {row : List Int} {x lo hi : Int} {t1 t2 t3 : Tok}
    {l l1 l2 l3 l4 l5 l6 rest : List (Addr × Obj)} {p55 : Array Value} {c55 : Addr} {o55 : Obj} {p48 : Array Value} {c48 : Addr} {o48 : Obj} {p76 : Array Value} {c76 : Addr} {o76 : Obj} {Q E : Value → Shared → Prop}
    (B : Below A₀ base outer h₀) (F : Fr h₀ L s.heap m) (X : (hd.heap_39 w.params).In h₀) (N : News h₀ L s.heap l)
    (k1 : CutI 55 (tabObj p55) l l1) (S55 : TabSt p55 c55 o55 (Str.ofString "_digits2int.<locals>.inner") 88 4) (k2 : CutI c55 o55 l1 l2) (k3 : CutI 48 (tabObj p48) l2 l3) (S48 : TabSt p48 c48 o48 (Str.ofString "_int2digits.<locals>.inner") 73 4) (k4 : CutI c48 o48 l3 l4)
    (k5 : CutI 76 (tabObj p76) l4 l5) (S76 : TabSt p76 c76 o76 (Str.ofString "_law_looked.<locals>.<lambda>") 120 47) (k6 : CutI c76 o76 l5 l6)
    (k7 : CutI rl (listOf vs.toArray n) l6 rest) (hI : IntsAre vs row)
    (C55 : CodeHd base 59 55) (C48 : CodeHd base 52 48) (C76 : CodeHd base 80 76) (T : Top topProg loose0 mean mg mb h₀) (hk : cs.kind = .function) (b0 : 0 ≤ lo) (b1 : lo ≤ hi) (b2 : hi ≤ (row.length : Int)) (b3 : row.length ≤ 16) (hd : dp + 10 < recursionLimit) (hu : un + 80 < cLine)
    (hret : ∀ (r lk : Addr) h' tk' its n' pl t ns p76' c76' o76', srch (gf x) row 16 lo hi = (pl, ns) → IntsAre its ns → its.length ≤ 16 → Fr h₀ L h' m →
      News h₀ L h' ((r, tupIR pl t lk) :: (lk, listOf its.toArray n') :: (55, tabObj p55) :: (c55, o55) :: (48, tabObj p48) :: (c48, o48) :: (76, tabObj p76') :: (c76', o76') :: (rl, listOf vs.toArray n) :: rest) → TOk ((rl, listOf vs.toArray n) :: rest) p55 c55 o55 p48 c48 o48 p76' c76' o76' →
      @Ne Nat lk c76' → @LT.lt Nat _ lk r → @LT.lt Nat _ c76' r → AllLt lk ((55, tabObj p55) :: (c55, o55) :: (48, tabObj p48) :: (c48, o48) :: (76, tabObj p76') :: (rl, listOf vs.toArray n) :: rest) → Q (.ref r) { s with heap := h', toks := tk' }) :
    wpAny (model Challenge.rw_gm0007_01.row.prog w) (ktrTop dp un gd cn cs L a ccd cl outer) (call (.ref 81) [.ref f, .ref rl, .int x t1, .int lo t2, .int hi t3]) Q E s := by
  obtain ⟨TK, sub⟩ := tok_cut k1 S55 k2 k3 S48 k4 k5 S76 k6
  obtain ⟨i7, j7, e7⟩ := k7.spec
  refine hC mean mg mb dp un gd cn cs a ccd cl outer A₀ base h₀ L m rest s p55 c55 o55 p48 c48 o48 p76 c76 o76 rl vs n row x lo hi t1 t2 t3 Q E B F X (fun q h => N q (sub q ?_)) (TK.sub j7) e7 (TK.a55 _ i7) (TK.a48 _ i7) (TK.a76 _ i7) (TK.b55 _ i7) (TK.b48 _ i7) (TK.b76 _ i7) hI C55 C48 C76 T hk b0 b1 b2 b3 hd hu ?_
  · rcases List.mem_cons.mp h with h | h
    · exact h ▸ .head _
    rcases List.mem_cons.mp h with h | h
    · exact h ▸ .tail _ (.head _)
    rcases List.mem_cons.mp h with h | h
    · exact h ▸ .tail _ (.tail _ (.head _))
    rcases List.mem_cons.mp h with h | h
    · exact h ▸ .tail _ (.tail _ (.tail _ (.head _)))
    rcases List.mem_cons.mp h with h | h
    · exact h ▸ .tail _ (.tail _ (.tail _ (.tail _ (.head _))))
    rcases List.mem_cons.mp h with h | h
    · exact h ▸ .tail _ (.tail _ (.tail _ (.tail _ (.tail _ (.head _)))))
    rcases List.mem_cons.mp h with h | h
    · exact h ▸ .tail _ (.tail _ (.tail _ (.tail _ (.tail _ (.tail _ i7)))))
    · exact .tail _ (.tail _ (.tail _ (.tail _ (.tail _ (.tail _ (j7 _ h))))))
  · intro r lk h' tk' its n' pl t ns p76' c76' o76' R I Z F' N' T' d1 d2 d3 d4 d5
    have T2 : TOk ((rl, listOf vs.toArray n) :: rest) p55 c55 o55 p48 c48 o48 p76' c76' o76' :=
      ⟨T'.s55, T'.s48, T'.s76, fun q k => (List.mem_cons.mp k).elim (fun e => e ▸ TK.a55 _ i7) (T'.a55 q), fun q k => (List.mem_cons.mp k).elim (fun e => e ▸ TK.a48 _ i7) (T'.a48 q), fun q k => (List.mem_cons.mp k).elim (fun e => e ▸ TK.a76 _ i7) (T'.a76 q),
        fun q k => (List.mem_cons.mp k).elim (fun e => e ▸ TK.b55 _ i7) (T'.b55 q), fun q k => (List.mem_cons.mp k).elim (fun e => e ▸ TK.b48 _ i7) (T'.b48 q), fun q k => (List.mem_cons.mp k).elim (fun e => e ▸ d1) (T'.b76 q), T'.n1, T'.n2, T'.n3, T'.n4, T'.n5, T'.n6, T'.n7, T'.n8, T'.n9, T'.m1, T'.m2, T'.m3⟩
    exact hret r lk h' tk' its n' pl t ns p76' c76' o76' R I Z F' N' T2 d2 d3 d4 d5
theorem chv_use {w : World} (hC : Chv w) {mean : ExcName → Option Value} {mg mb : Str → Option Value} {dp un : Nat} {gd : Option (List Code)} {cn : Str} {cs : Scope} {a : Addr} {ccd : Value} {cl : List (Str × Addr)} {outer : List Env} {A₀ : Around} {base h₀ : Heap} {L : Addr} {m : Str → Option Value} {s : Shared} {rl : Addr} {vs : List Value} {n : Nat} {row : List Int} {x lo hi : Int} {t1 t2 t3 : Tok}
    {l l1 l2 l3 l4 l5 l6 rest : List (Addr × Obj)} {p55 : Array Value} {c55 : Addr} {o55 : Obj} {p48 : Array Value} {c48 : Addr} {o48 : Obj} {p76 : Array Value} {c76 : Addr} {o76 : Obj} {Q E : Value → Shared → Prop}
    (B : Below A₀ base outer h₀) (F : Fr h₀ L s.heap m) (X : (hd.heap_39 w.params).In h₀) (N : News h₀ L s.heap l)
    (k1 : CutI 55 (tabObj p55) l l1) (S55 : TabSt p55 c55 o55 (Str.ofString "_digits2int.<locals>.inner") 88 4) (k2 : CutI c55 o55 l1 l2) (k3 : CutI 48 (tabObj p48) l2 l3) (S48 : TabSt p48 c48 o48 (Str.ofString "_int2digits.<locals>.inner") 73 4) (k4 : CutI c48 o48 l3 l4)
    (k5 : CutI 76 (tabObj p76) l4 l5) (S76 : TabSt p76 c76 o76 (Str.ofString "_law_looked.<locals>.<lambda>") 120 47) (k6 : CutI c76 o76 l5 l6)
    (k7 : CutI rl (listOf vs.toArray n) l6 rest) (hI : IntsAre vs row)
    (C55 : CodeHd base 59 55) (C48 : CodeHd base 52 48) (C76 : CodeHd base 80 76) (T : Top topProg loose0 mean mg mb h₀) (hk : cs.kind = .function) (b0 : 0 ≤ lo) (b1 : lo ≤ hi) (b2 : hi ≤ (row.length : Int)) (b3 : row.length ≤ 16) (hd : dp + 50 < recursionLimit) (hu : un + 500 < cLine)
    (hret : ∀ (r : Addr) h' tk' its n' p55' c55' o55' p48' c48' o48', IntsAre its (srch (fun v => decide (v < x)) row 16 lo hi).2 → its.length ≤ 16 → Fr h₀ L h' m →
      News h₀ L h' ((r, listOf its.toArray n') :: (55, tabObj p55') :: (c55', o55') :: (48, tabObj p48') :: (c48', o48') :: (76, tabObj p76) :: (c76, o76) :: (rl, listOf vs.toArray n) :: rest) → TOk ((rl, listOf vs.toArray n) :: rest) p55' c55' o55' p48' c48' o48' p76 c76 o76 →
      @Ne Nat r c55' → @Ne Nat r c48' → AllLt r ((55, tabObj p55') :: (48, tabObj p48') :: (76, tabObj p76) :: (c76, o76) :: (rl, listOf vs.toArray n) :: rest) → Q (.ref r) { s with heap := h', toks := tk' }) :
    wpAny (model Challenge.rw_gm0007_01.row.prog w) (ktrTop dp un gd cn cs L a ccd cl outer) (call (.ref 88) [.int lo t2, .int hi t3, .ref rl, .int x t1]) Q E s := by
  obtain ⟨TK, sub⟩ := tok_cut k1 S55 k2 k3 S48 k4 k5 S76 k6
  obtain ⟨i7, j7, e7⟩ := k7.spec
  refine hC mean mg mb dp un gd cn cs a ccd cl outer A₀ base h₀ L m rest s p55 c55 o55 p48 c48 o48 p76 c76 o76 rl vs n row x lo hi t1 t2 t3 Q E B F X (fun q h => N q (sub q ?_)) (TK.sub j7) e7 (TK.a55 _ i7) (TK.a48 _ i7) (TK.a76 _ i7) (TK.b55 _ i7) (TK.b48 _ i7) (TK.b76 _ i7) hI C55 C48 C76 T hk b0 b1 b2 b3 hd hu ?_
  · rcases List.mem_cons.mp h with h | h
    · exact h ▸ .head _
    rcases List.mem_cons.mp h with h | h
    · exact h ▸ .tail _ (.head _)
    rcases List.mem_cons.mp h with h | h
    · exact h ▸ .tail _ (.tail _ (.head _))
    rcases List.mem_cons.mp h with h | h
    · exact h ▸ .tail _ (.tail _ (.tail _ (.head _)))
    rcases List.mem_cons.mp h with h | h
    · exact h ▸ .tail _ (.tail _ (.tail _ (.tail _ (.head _))))
    rcases List.mem_cons.mp h with h | h
    · exact h ▸ .tail _ (.tail _ (.tail _ (.tail _ (.tail _ (.head _)))))
    rcases List.mem_cons.mp h with h | h
    · exact h ▸ .tail _ (.tail _ (.tail _ (.tail _ (.tail _ (.tail _ i7)))))
    · exact .tail _ (.tail _ (.tail _ (.tail _ (.tail _ (.tail _ (j7 _ h))))))
  · intro r h' tk' its n' p55' c55' o55' p48' c48' o48' I Z F' N' T' d1 d2 d3 d4 d5
    have T2 : TOk ((rl, listOf vs.toArray n) :: rest) p55' c55' o55' p48' c48' o48' p76 c76 o76 :=
      ⟨T'.s55, T'.s48, T'.s76, fun q k => (List.mem_cons.mp k).elim (fun e => e ▸ TK.a55 _ i7) (T'.a55 q), fun q k => (List.mem_cons.mp k).elim (fun e => e ▸ TK.a48 _ i7) (T'.a48 q), fun q k => (List.mem_cons.mp k).elim (fun e => e ▸ TK.a76 _ i7) (T'.a76 q),
        fun q k => (List.mem_cons.mp k).elim (fun e => e ▸ d1) (T'.b55 q), fun q k => (List.mem_cons.mp k).elim (fun e => e ▸ d2) (T'.b48 q), fun q k => (List.mem_cons.mp k).elim (fun e => e ▸ TK.b76 _ i7) (T'.b76 q), T'.n1, T'.n2, T'.n3, T'.n4, T'.n5, T'.n6, T'.n7, T'.n8, T'.n9, T'.m1, T'.m2, T'.m3⟩
    exact hret r h' tk' its n' p55' c55' o55' p48' c48' o48' I Z F' N' T2 d3 d4 d5
theorem tabSt_nil {c : Addr} {oc : Obj} {qual : Str} {line col : Nat} : TabSt #[] c oc qual line col := .inl rfl
theorem tabSt_in {c : Addr} {oc : Obj} {qual : Str} {line col : Nat} {vs : Array Value} {t : Tok} (h1 : oc.data = .fields vs) (h2 : vs[1]? = some (.str qual t)) : TabSt #[rawInt line, rawInt col, .ref c] c oc qual line col := .inr ⟨rfl, vs, t, h1, h2⟩
def nbits (x : Int) : Nat := if x = 0 then 0 else if x = 1 then 1 else if x < 4 then 2 else if x < 8 then 3 else 4
theorem nbits_le (x : Int) : nbits x ≤ 4 := by unfold nbits; split <;> (try split) <;> (try split) <;> (try split) <;> omega
theorem len_sym {prog : Program} {w : World} {A : Around} {E : Value → Shared → Prop} {s : Shared} {h₀ : Heap} {L : Addr} {news : List (Addr × Obj)} {D : Addr} {its : List Value} {c k : Nat} {Q : Value → Shared → Prop} (N : News h₀ L s.heap news) (hm : (D, listOf its.toArray c) ∈ news) (hs : its.length = k) (hf : k ≤ 100)
    (h : Q (.int (k : Nat) (s.toks + 1)) { s with toks := s.toks + 1 + 1 }) : wpAny (model prog w) A (call (.builtin "len") [.ref D]) Q E s := by
  have hl : s.heap.IsList D its.toArray := News.isList N hm
  refine Calls.call_len_list hl (by simp only [List.size_toArray]; omega) ?_
  rw [List.size_toArray, hs]
  exact h
end Mine
/- In -/
namespace Mine
/-- the def at place j of the body of the top's statement k -/
def innerOf (k j : Nat) : Option (Arguments × List Stmt × Scope) := match Challenge.pw_gm0007_01.main.body[k]? with
  | some (.FunctionDef _ _ b _ _ _ _ _ _ _) => match b[j]? with
    | some (.FunctionDef _ a bb _ _ _ sc _ _ _) => some (a, bb, sc)
    | _ => none
  | _ => none
/-- what _int2digits.inner stores -/
def inF (n : Int) : Nat → List Int → Int → Int → Int → List Int
  | 0, ns, _, _, _ => ns
  | k + 1, ns, x, lo, hi => if lo + 1 = hi then ns.set lo.toNat x else
      inF n k (inF n k ns (x % 2 ^ (((lo + hi) / 2 - lo) * n).toNat) lo ((lo + hi) / 2)) (x / 2 ^ (((lo + hi) / 2 - lo) * n).toNat) ((lo + hi) / 2) hi
theorem inF_length (n : Int) : ∀ (k : Nat) (ns : List Int) (x lo hi : Int), (inF n k ns x lo hi).length = ns.length
  | 0, _, _, _, _ => rfl
  | k + 1, ns, x, lo, hi => by
    unfold inF
    split
    · exact List.length_set
    · rw [inF_length n k, inF_length n k]
abbrev inLed (f : Addr) (fo : Obj) (c : Addr) (oc : Obj) (D : Addr) (its : List Value) (cnt : Nat) (cI : Addr) (oI : Obj) (cA : Addr) (oA : Obj) (cN : Addr) (oN : Obj) (news : List (Addr × Obj)) : List (Addr × Obj) :=
  (f, fo) :: (c, oc) :: (D, listOf its.toArray cnt) :: (cI, oI) :: (cA, oA) :: (cN, oN) :: news
/-- what _int2digits.inner does, for at most k places -/
def Cin (w : World) (k : Nat) : Prop := ∀ (mean : ExcName → Option Value) (mg mb : Str → Option Value) (dp un : Nat) (gd : Option (List Code)) (cn : Str) (cs : Scope) (a : Addr) (ccd : Value) (cl : List (Str × Addr)) (outer : List Env) (A₀ : Around) (base h₀ : Heap) (L : Addr) (m : Str → Option Value) (news : List (Addr × Obj)) (s : Shared)
    (params : Arguments) (body : List Stmt) (scope : Scope) (qual : Str) (dc nm ct : Value) (vs9 : Array Value) (t9 : Tok) (oc oI oA oN : Obj) (f c D cI cA cN : Addr) (n : Int) (tn : Tok) (its : List Value) (ns : List Int) (cnt : Nat) (x lo hi : Int) (t1 t2 t3 : Tok) (Q E : Value → Shared → Prop),
    Below A₀ base outer h₀ → Fr h₀ L s.heap m → (hd.heap_39 w.params).In h₀ →
    News h₀ L s.heap (inLed f (fnMade (Str.ofString "inner") qual params body scope [(Str.ofString "n", cN), (Str.ofString "inner", cI), (Str.ofString "a_digits", cA)] dc nm c ct) c oc D its cnt cI oI cA oA cN oN news) →
    innerOf 7 1 = some (params, body, scope) → Top topProg loose0 mean mg mb h₀ → CodeHd base 52 48 → cs.kind = .function →
    oc.data = .fields vs9 → vs9[1]? = some (.str qual t9) → oI.data = .cell (some (.ref f)) → oA.data = .cell (some (.ref D)) → oN.data = .cell (some (.int n tn)) →
    @Ne Addr f D → @Ne Addr c D → @Ne Addr cI D → @Ne Addr cA D → @Ne Addr cN D → (∀ q ∈ news, q.1 ≠ D) →
    IntsAre its ns → (n = 1 ∨ n = 2) → 0 ≤ x → x < 64 → 0 ≤ lo → lo < hi → hi ≤ (ns.length : Int) → ns.length ≤ 6 → hi - lo ≤ (k : Int) → dp + 10 + k < recursionLimit → un + 40 + 16 * k < cLine →
    (∀ h' tk' its', IntsAre its' (inF n k ns x lo hi) → Fr h₀ L h' m →
      News h₀ L h' (inLed f (fnMade (Str.ofString "inner") qual params body scope [(Str.ofString "n", cN), (Str.ofString "inner", cI), (Str.ofString "a_digits", cA)] dc nm c ct) c oc D its' cnt cI oI cA oA cN oN news) → Q .none { s with heap := h', toks := tk' }) →
    wpAny (model Challenge.rw_gm0007_01.row.prog w) (ktrTop dp un gd cn cs L a ccd cl outer) (call (.ref f) [.int x t1, .int lo t2, .int hi t3]) Q E s
theorem xor6 : ∀ n : Fin 64, ∀ j : Fin 8, Builtin.bitXor ((n.val : Nat) : Int) (((n.val / 2 ^ j.val * 2 ^ j.val : Nat)) : Int) = ((n.val % 2 ^ j.val : Nat) : Int) := by decide +kernel
section
variable {prog : Program} {w : World} {A : Around} {E : Value → Shared → Prop} {s : Shared} {Q : Value → Shared → Prop}
theorem shr_sym {a n : Int} {t u : Tok} (hn : 0 ≤ n) (h : Q (.int (a / 2 ^ n.toNat) s.toks) { s with toks := s.toks + 1 }) : wpAny (model prog w) A (binaryOp .RShift (.int a t) (.int n u)) Q E s := by
  refine shr_lit rfl hn ?_ h
  exact Int.le_of_lt (Int.pow_pos (by decide))
theorem shl_sym {a n : Int} {t u : Tok} (hn : 0 ≤ n) (hn2 : n ≤ 100) (ha : a.natAbs < 2 ^ 64) (h : Q (.int (a * 2 ^ n.toNat) s.toks) { s with toks := s.toks + 1 }) : wpAny (model prog w) A (binaryOp .LShift (.int a t) (.int n u)) Q E s :=
  shl_lit rfl hn (by omega) ha h
theorem xor_sym {a n : Int} {t u : Tok} (h0 : 0 ≤ a) (h1 : a < 64) (hn : n < 8) (h : Q (.int (a % 2 ^ n.toNat) s.toks) { s with toks := s.toks + 1 }) : wpAny (model prog w) A (binaryOp .BitXor (.int a t) (.int (a / 2 ^ n.toNat * 2 ^ n.toNat) u)) Q E s := by
  refine xor_int ?_
  have e := xor6 ⟨a.toNat, by omega⟩ ⟨n.toNat, by omega⟩
  have e1 : ((a.toNat : Nat) : Int) = a := by omega
  simp only [Int.natCast_mul, Int.natCast_ediv, Int.natCast_emod, Int.natCast_pow, e1] at e
  have e2 : ((2 : Nat) : Int) = 2 := rfl
  rw [e2] at e
  rw [e]
  exact h
end
theorem half_in {x : Int} {j : Nat} (h0 : 0 ≤ x) (h1 : x < 64) : 0 ≤ x % 2 ^ j ∧ x % 2 ^ j < 64 ∧ 0 ≤ x / 2 ^ j ∧ x / 2 ^ j < 64 := by
  have hp : (0 : Int) < 2 ^ j := Int.pow_pos (by decide)
  have q1 : x / 2 ^ j ≤ x := Int.ediv_le_self _ h0
  have q2 : x % 2 ^ j ≤ x := by
    have := Int.emod_add_mul_ediv x (2 ^ j)
    have q3 : 0 ≤ 2 ^ j * (x / 2 ^ j) := Int.mul_nonneg (Int.le_of_lt hp) (Int.ediv_nonneg h0 (Int.le_of_lt hp))
    omega
  exact ⟨Int.emod_nonneg _ (by omega), by omega, Int.ediv_nonneg h0 (Int.le_of_lt hp), by omega⟩
theorem cin_use {w : World} {k : Nat} (hC : Cin w k) {mean : ExcName → Option Value} {mg mb : Str → Option Value} {dp un : Nat} {gd : Option (List Code)} {cn : Str} {cs : Scope} {a : Addr} {ccd : Value} {cl : List (Str × Addr)} {outer : List Env} {A₀ : Around} {base h₀ : Heap} {L : Addr} {m : Str → Option Value} {news : List (Addr × Obj)} {s : Shared}
    {params : Arguments} {body : List Stmt} {scope : Scope} {qual : Str} {dc nm ct : Value} {vs9 : Array Value} {t9 : Tok} {oc oI oA oN : Obj} {f c D cI cA cN : Addr} {n : Int} {tn : Tok} {its : List Value} {ns : List Int} {cnt : Nat} {x lo hi : Int} {t1 t2 t3 : Tok} {Q E : Value → Shared → Prop}
    (h0 : Below A₀ base outer h₀) (h1 : Fr h₀ L s.heap m) (h2 : (hd.heap_39 w.params).In h₀) (h3 : News h₀ L s.heap (inLed f (fnMade (Str.ofString "inner") qual params body scope [(Str.ofString "n", cN), (Str.ofString "inner", cI), (Str.ofString "a_digits", cA)] dc nm c ct) c oc D its cnt cI oI cA oA cN oN news)) (h4 : innerOf 7 1 = some (params, body, scope)) (h5 : Top topProg loose0 mean mg mb h₀) (h5b : CodeHd base 52 48) (h6 : cs.kind = .function) (h7 : oc.data = .fields vs9) (h8 : vs9[1]? = some (.str qual t9)) (h9 : oI.data = .cell (some (.ref f))) (h10 : oA.data = .cell (some (.ref D))) (h11 : oN.data = .cell (some (.int n tn))) (h12 : @Ne Addr f D) (h13 : @Ne Addr c D) (h14 : @Ne Addr cI D) (h15 : @Ne Addr cA D) (h16 : @Ne Addr cN D) (h17 : (∀ q ∈ news, q.1 ≠ D)) (h18 : IntsAre its ns) (h19 : (n = 1 ∨ n = 2)) (h20 : 0 ≤ x) (h21 : x < 64) (h22 : 0 ≤ lo) (h23 : lo < hi) (h24 : hi ≤ (ns.length : Int)) (h25 : ns.length ≤ 6) (h26 : hi - lo ≤ (k : Int)) (h27 : dp + 10 + k < recursionLimit) (h28 : un + 40 + 16 * k < cLine) (h29 : (∀ h' tk' its', IntsAre its' (inF n k ns x lo hi) → Fr h₀ L h' m →
      News h₀ L h' (inLed f (fnMade (Str.ofString "inner") qual params body scope [(Str.ofString "n", cN), (Str.ofString "inner", cI), (Str.ofString "a_digits", cA)] dc nm c ct) c oc D its' cnt cI oI cA oA cN oN news) → Q .none { s with heap := h', toks := tk' })) :
    wpAny (model Challenge.rw_gm0007_01.row.prog w) (ktrTop dp un gd cn cs L a ccd cl outer) (call (.ref f) [.int x t1, .int lo t2, .int hi t3]) Q E s :=
  hC _ _ _ _ _ _ _ _ _ _ _ _ _ _ _ _ _ _ _ _ _ _ _ _ _ _ _ _ _ _ _ _ _ _ _ _ _ _ _ _ _ _ _ _ _ _ _ _ _ _ _ h0 h1 h2 h3 h4 h5 h5b h6 h7 h8 h9 h10 h11 h12 h13 h14 h15 h16 h17 h18 h19 h20 h21 h22 h23 h24 h25 h26 h27 h28 h29
end Mine
/- Ci -/
namespace Mine
/-- how many digits _int2digits gives -/
def dgN (n x : Int) : Nat := ((((Builtin.Int.intBits x : Nat) : Int) + n - 1).fdiv n).toNat
/-- what _int2digits gives -/
def i2F (n x : Int) : List Int := if x = 0 then [] else inF n 6 (List.replicate (dgN n x) 0) x 0 (dgN n x)
theorem dgN_all : ∀ x : Fin 64, ∀ n : Fin 2, ((((Builtin.Int.intBits (x.val : Int) : Nat) : Int) + ((n.val : Int) + 1) - 1).fdiv ((n.val : Int) + 1)) = (dgN ((n.val : Int) + 1) (x.val : Int) : Int) ∧ dgN ((n.val : Int) + 1) (x.val : Int) ≤ 6 ∧ (x.val = 0 ↔ dgN ((n.val : Int) + 1) (x.val : Int) = 0) := by decide +kernel
theorem dgN_facts {x n : Int} (h0 : 0 ≤ x) (h1 : x < 64) (hn : n = 1 ∨ n = 2) : ∃ (b : Int) (k : Nat), ((Builtin.Int.intBits x : Nat) : Int) = b ∧ (b + n - 1).fdiv n = (k : Int) ∧ k = dgN n x ∧ k ≤ 6 ∧ (x = 0 ↔ k = 0) := by
  have e := dgN_all ⟨x.toNat, by omega⟩ ⟨(n - 1).toNat, by omega⟩
  have e1 : ((x.toNat : Nat) : Int) = x := by omega
  have e2 : ((((n - 1).toNat : Nat)) : Int) + 1 = n := by omega
  simp only [e1, e2] at e
  exact ⟨_, dgN n x, rfl, e.1, rfl, e.2.1, by have := e.2.2; omega⟩
theorem i2F_pos {n x : Int} {k : Nat} (e : k = dgN n x) (h : x ≠ 0) : i2F n x = inF n 6 (List.replicate k 0) x 0 (k : Int) := by
  subst e
  unfold i2F
  rw [if_neg h]
section
variable {prog : Program} {w : World} {A : Around} {E : Value → Shared → Prop} {s : Shared} {Q : Value → Shared → Prop} {l : Addr} {u : Tok}
theorem fdiv_known {a n k : Int} {t u : Tok} (e : a.fdiv n = k) (hk : 0 < n) (hn : n < 1000) (h : Q (.int k s.toks) { s with toks := s.toks + 1 }) : wpAny (model prog w) A (binaryOp .FloorDiv (.int a t) (.int n u)) Q E s := by
  subst e
  exact floordiv_int (by omega) h (Or.inl (PyProof.noPylong_small (by omega)))
theorem mul_reps {h₀ : Heap} {L : Addr} {m : Str → Option Value} {news : List (Addr × Obj)} {t : Tok} {k : Nat} {c : Nat} (Fm : Fr h₀ L s.heap m) (N : News h₀ L s.heap news) (hl : (l, listOf #[.int 0 t] c) ∈ news) (hk : k ≤ 6)
    (h : ∀ D h' its, IntsAre its (List.replicate k 0) → Fr h₀ L h' m → News h₀ L h' ((D, listOf its.toArray 0) :: news) → (∀ p ∈ news, p.1 < D) → Q (.ref D) { s with heap := h' }) : wpAny (model prog w) A (binaryOp .Mult (.ref l) (.int (k : Int) u)) Q E s := by
  refine KM.mul (vs := [.int 0 t]) (ns := [0]) Fm N (News.isList N hl) (.cons _ _ .nil) (by omega) (by omega) (by simp only [List.length_cons, List.length_nil]; omega) fun D h' F' N' l1 hi _ _ _ _ _ => ?_
  have e : (List.replicate ((k : Int).toNat) [(0 : Int)]).flatten = List.replicate k 0 := by rw [Int.toNat_natCast, List.flatten_replicate_singleton]
  rw [e] at hi
  exact h D h' _ hi F' N' l1
end
section
variable {M : Model} {A : Around} {E : Value → Shared → Prop} {s : Shared} {h₀ : Heap} {L a c P : Addr} {m mg mb : Str → Option Value} {cn : Str} {cs : Scope} {ccd : Value} {cl : List (Str × Addr)} {news : List (Addr × Obj)} {g : Obj → List (Addr × Obj)}
  {p : Program} {loose : List Str} {mean : ExcName → Option Value} {name qual : Str} {params : Arguments} {body : List Stmt} {scope : Scope} {ps : Array Value} {pos : Pos} {firstLine : Nat} {clos : List (Str × Addr)}
theorem nest_two {Q : Value → Shared → Prop} {c1 : Addr} {oc1 : Obj} {ln cl' : Nat} (F : Fr h₀ L s.heap m) (N : News h₀ L s.heap news) (T : Top p loose mean mg mb h₀) (C : CodeHd h₀ c P) (hcd : ccd = .ref c) (U : UpdF P (tabObj ps) news g)
    (hm : (c1, oc1) ∈ news) (St : TabSt ps c1 oc1 qual ln cl') (hp1 : pos.line = ln) (hp2 : pos.col = cl')
    (hcl : closureFor scope (envX cn cs L a ccd cl) = pure clos)
    (h : ∀ f c' oc ctv doc h' tk, Fr h₀ L h' m →
      News h₀ L h' ((f, fnMade name qual params body scope clos doc ((mg "__name__").getD .none) c' ctv) :: (c', oc) :: g (tabObj #[rawInt ln, rawInt cl', .ref c'])) →
      (∃ vs t, oc.data = .fields vs ∧ vs[1]? = some (.str qual t)) → ((@Eq Nat c' c1 ∧ ps ≠ #[]) ∨ ∀ q ∈ news, q.1 < c') → (∀ q ∈ (c', oc) :: news, q.1 < f) → Q (.ref f) { s with heap := h', toks := tk }) :
    wpAny M A (makeFunction name qual params (.stmts body) scope (envX cn cs L a ccd cl) [] [] [] pos firstLine) Q E s := by
  rcases St with rfl | ⟨rfl, vs, t, hd, hv⟩
  · refine nest_first F N T C hcd U hp1 hp2 hcl fun f c' oc ctv doc h' tk F' N' d l1 l2 => h f c' oc ctv doc h' tk F' N' d (.inr l1) l2
  · refine nest_any F N T C hcd U (rest := []) hm (fun _ k => absurd k List.not_mem_nil) (fun _ k => absurd k List.not_mem_nil) (.inr ⟨rfl, vs, t, hd, hv⟩) hp1 hp2 hcl fun f c' oc ctv doc h' tk F' N' d l1 _ l2 => h f c' oc ctv doc h' tk F' N' d (l1.imp (fun e => ⟨e, by simp⟩) id) l2
end
/-- what _int2digits does, for n = 1 or 2 -/
def Cid (w : World) : Prop := ∀ (mean : ExcName → Option Value) (mg mb : Str → Option Value) (dp un : Nat) (gd : Option (List Code)) (cn : Str) (cs : Scope) (a : Addr) (ccd : Value) (cl : List (Str × Addr)) (outer : List Env) (A₀ : Around) (base h₀ : Heap) (L : Addr) (m : Str → Option Value) (news : List (Addr × Obj)) (s : Shared) (p48 : Array Value) (c48 : Addr) (o48 : Obj) (x n : Int) (t1 t2 : Tok) (Q E : Value → Shared → Prop),
    Below A₀ base outer h₀ → Fr h₀ L s.heap m → (hd.heap_39 w.params).In h₀ → News h₀ L s.heap ((48, tabObj p48) :: (c48, o48) :: news) → TabSt p48 c48 o48 (Str.ofString "_int2digits.<locals>.inner") 73 4 → @Ne Nat c48 48 → (∀ q ∈ news, q.1 ≠ 48) →
    CodeHd base 52 48 → Top topProg loose0 mean mg mb h₀ → cs.kind = .function → (n = 1 ∨ n = 2) → 0 ≤ x → x < 64 → dp + 20 < recursionLimit → un + 160 < cLine →
    (∀ (r j1 j2 c48' : Addr) h' tk' its cnt oj1 oj2 o48', IntsAre its (i2F n x) → Fr h₀ L h' m →
      News h₀ L h' ((r, listOf its.toArray cnt) :: (j1, oj1) :: (j2, oj2) :: (48, tabObj #[rawInt (73 : Nat), rawInt (4 : Nat), .ref c48']) :: (c48', o48') :: (c48, o48) :: news) → (∃ vs t, o48'.data = .fields vs ∧ vs[1]? = some (.str (Str.ofString "_int2digits.<locals>.inner") t)) →
      @LT.lt Nat _ j1 r → @LT.lt Nat _ r j2 → ((@Eq Nat c48' c48 ∧ p48 ≠ #[]) ∨ (@LT.lt Nat _ r c48' ∧ @LT.lt Nat _ c48' j2)) → AllLt j1 ((48, tabObj #[]) :: (c48, o48) :: news) → Q (.ref r) { s with heap := h', toks := tk' }) →
    wpAny (model Challenge.rw_gm0007_01.row.prog w) (ktrTop dp un gd cn cs L a ccd cl outer) (call (.ref 53) [.int x t1, .int n t2]) Q E s
theorem fin_cid {h₀ h : Heap} {L : Addr} {l news : List (Addr × Obj)} {c48 c48' r j1 j2 : Addr} {o48 o48' or' oj1 oj2 : Obj} (N : News h₀ L h l)
    (mr : (r, or') ∈ l) (mj1 : (j1, oj1) ∈ l) (mj2 : (j2, oj2) ∈ l) (m48 : (48, tabObj #[rawInt (73 : Nat), rawInt (4 : Nat), .ref c48']) ∈ l) (mc48' : (c48', o48') ∈ l) (mc48 : (c48, o48) ∈ l) (ms : ∀ q ∈ news, q ∈ l) :
    News h₀ L h ((r, or') :: (j1, oj1) :: (j2, oj2) :: (48, tabObj #[rawInt (73 : Nat), rawInt (4 : Nat), .ref c48']) :: (c48', o48') :: (c48, o48) :: news) := by
  refine List.forall_mem_cons.mpr ⟨N _ mr, ?_⟩
  refine List.forall_mem_cons.mpr ⟨N _ mj1, ?_⟩
  refine List.forall_mem_cons.mpr ⟨N _ mj2, ?_⟩
  refine List.forall_mem_cons.mpr ⟨N _ m48, ?_⟩
  refine List.forall_mem_cons.mpr ⟨N _ mc48', ?_⟩
  refine List.forall_mem_cons.mpr ⟨N _ mc48, ?_⟩
  exact fun q hq => N q (ms q hq)
theorem cin_one {w : World} {k : Nat} (hC : Cin w k) {mean : ExcName → Option Value} {mg mb : Str → Option Value} {dp un : Nat} {gd : Option (List Code)} {cn : Str} {cs : Scope} {a : Addr} {ccd : Value} {cl : List (Str × Addr)} {outer : List Env} {A₀ : Around} {base h₀ : Heap} {L : Addr} {m : Str → Option Value} {l news : List (Addr × Obj)} {s : Shared}
    {params : Arguments} {body : List Stmt} {scope : Scope} {qual : Str} {dc nm ct : Value} {vs9 : Array Value} {t9 : Tok} {oc oI oA oN : Obj} {f c D cI cA cN : Addr} {n : Int} {tn : Tok} {its : List Value} {ns : List Int} {cnt : Nat} {x lo hi : Int} {t1 t2 t3 : Tok} {Q E : Value → Shared → Prop}
    (h0 : Below A₀ base outer h₀) (h1 : Fr h₀ L s.heap m) (h2 : (hd.heap_39 w.params).In h₀) (h3 : News h₀ L s.heap l) (m1 : (f, fnMade (Str.ofString "inner") qual params body scope [(Str.ofString "n", cN), (Str.ofString "inner", cI), (Str.ofString "a_digits", cA)] dc nm c ct) ∈ l) (m2 : (c, oc) ∈ l) (m3 : (cI, oI) ∈ l) (m4 : (cA, oA) ∈ l) (m5 : (cN, oN) ∈ l) (h4 : innerOf 7 1 = some (params, body, scope)) (h5 : Top topProg loose0 mean mg mb h₀) (h5b : CodeHd base 52 48) (h6 : cs.kind = .function) (h7 : oc.data = .fields vs9) (h8 : vs9[1]? = some (.str qual t9)) (h9 : oI.data = .cell (some (.ref f))) (h10 : oA.data = .cell (some (.ref D))) (h11 : oN.data = .cell (some (.int n tn))) (k1 : CutI D (listOf its.toArray cnt) l news) (e1 : @Ne Addr f D) (e2 : @Ne Addr c D) (e3 : @Ne Addr cI D) (e4 : @Ne Addr cA D) (e5 : @Ne Addr cN D) (h18 : IntsAre its ns) (h19 : (n = 1 ∨ n = 2)) (h20 : 0 ≤ x) (h21 : x < 64) (h22 : 0 ≤ lo) (h23 : lo < hi) (h24 : hi ≤ (ns.length : Int)) (h25 : ns.length ≤ 6) (h26 : hi - lo ≤ (k : Int)) (h27 : dp + 10 + k < recursionLimit) (h28 : un + 40 + 16 * k < cLine) (h29 : (∀ h' tk' its', IntsAre its' (inF n k ns x lo hi) → Fr h₀ L h' m →
      News h₀ L h' ((D, listOf its'.toArray cnt) :: news) → Q .none { s with heap := h', toks := tk' })) :
    wpAny (model Challenge.rw_gm0007_01.row.prog w) (ktrTop dp un gd cn cs L a ccd cl outer) (call (.ref f) [.int x t1, .int lo t2, .int hi t3]) Q E s := by
  obtain ⟨i1, j1, q1⟩ := k1.spec
  refine cin_use (dc := dc) (nm := nm) (ct := ct) (cnt := cnt) (news := news) hC h0 h1 h2 ?_ h4 h5 h5b h6 h7 h8 h9 h10 h11 e1 e2 e3 e4 e5 q1 h18 h19 h20 h21 h22 h23 h24 h25 h26 h27 h28 fun h' tk' its' hI F' N' => h29 h' tk' its' hI F' ?_
  · refine List.forall_mem_cons.mpr ⟨h3 _ m1, List.forall_mem_cons.mpr ⟨h3 _ m2, List.forall_mem_cons.mpr ⟨h3 _ i1, List.forall_mem_cons.mpr ⟨h3 _ m3, List.forall_mem_cons.mpr ⟨h3 _ m4, List.forall_mem_cons.mpr ⟨h3 _ m5, fun q h => h3 q (j1 q h)⟩⟩⟩⟩⟩⟩
  · exact List.forall_mem_cons.mpr ⟨N' _ (.tail _ (.tail _ (.head _))), fun q h => N' q (.tail _ (.tail _ (.tail _ (.tail _ (.tail _ (.tail _ h))))))⟩
theorem intsRep_len {its : List Value} {k : Nat} {v : Int} (h : IntsAre its (List.replicate k v)) : its.length = k := by rw [h.length, List.length_replicate]
theorem ints_none {its : List Value} {k : Nat} {n x : Int} (h : IntsAre its (List.replicate k 0)) (e : x = 0) (z : x = 0 ↔ k = 0) : IntsAre its (i2F n x) := by
  have hk : k = 0 := z.mp e
  subst e hk
  exact h
end Mine
/- I2u -/
namespace Mine
theorem i2F_nbits : ∀ n : Fin 16, (i2F 1 (n.val : Int)).length = nbits (n.val : Int) := by decide +kernel
theorem i2_use {w : World} (hC : Cid w) {mean : ExcName → Option Value} {mg mb : Str → Option Value} {dp un : Nat} {gd : Option (List Code)} {cn : Str} {cs : Scope} {a : Addr} {ccd : Value} {cl : List (Str × Addr)} {outer : List Env} {A₀ : Around} {base h₀ : Heap} {L : Addr} {m : Str → Option Value} {s : Shared} {x : Int} {t1 t2 : Tok} {l news : List (Addr × Obj)} {cx : Addr} {ox : Obj} {Q E : Value → Shared → Prop}
    (B : Below A₀ base outer h₀) (F : Fr h₀ L s.heap m) (X : (hd.heap_39 w.params).In h₀) (N : News h₀ L s.heap l) (k1 : CutI 48 (tabObj #[]) l news) (mx : (cx, ox) ∈ news)
    (C48 : CodeHd base 52 48) (T : Top topProg loose0 mean mg mb h₀) (hk : cs.kind = .function) (b0 : 0 ≤ x) (b1 : x < 16) (hd : dp + 20 < recursionLimit) (hu : un + 160 < cLine)
    (hret : ∀ (r j1 j2 c48 : Addr) h' tk' (its : List Value) n oj1 oj2 o48, its.length = nbits x → Fr h₀ L h' m →
      News h₀ L h' ((r, listOf its.toArray n) :: (j1, oj1) :: (j2, oj2) :: (48, tabObj #[rawInt (73 : Nat), rawInt (4 : Nat), .ref c48]) :: (c48, o48) :: news) → (∃ vs t, o48.data = .fields vs ∧ vs[1]? = some (.str (Str.ofString "_int2digits.<locals>.inner") t)) →
      @LT.lt Nat _ j1 r → @LT.lt Nat _ r c48 → @LT.lt Nat _ c48 j2 → AllLt j1 ((48, tabObj #[]) :: news) → Q (.ref r) { s with heap := h', toks := tk' }) :
    wpAny (model Challenge.rw_gm0007_01.row.prog w) (ktrTop dp un gd cn cs L a ccd cl outer) (call (.ref 53) [.int x t1, .int 1 t2]) Q E s := by
  obtain ⟨i, j, e⟩ := k1.spec
  have N2 : News h₀ L s.heap ((48, tabObj #[]) :: (cx, ox) :: news) := List.forall_mem_cons.mpr ⟨N _ i, List.forall_mem_cons.mpr ⟨N _ (j _ mx), fun q h => N q (j q h)⟩⟩
  refine hC mean mg mb dp un gd cn cs a ccd cl outer A₀ base h₀ L m news s #[] cx ox x 1 t1 t2 Q E B F X N2 tabSt_nil (e _ mx) e C48 T hk (.inl rfl) b0 (by omega) hd hu fun r j1 j2 c' h' tk' its cnt oj1 oj2 o' hI F' N' dq l1 l2 l3 l4 => ?_
  have en := i2F_nbits ⟨x.toNat, by omega⟩
  have ex : ((x.toNat : Nat) : Int) = x := by omega
  simp only [ex] at en
  rcases l3 with ⟨_, h⟩ | ⟨l3, l5⟩
  · exact absurd rfl h
  refine hret r j1 j2 c' h' tk' its cnt oj1 oj2 o' (hI.length.trans en) F' (fun q hq => N' q ?_) dq l1 l3 l5 ⟨l4.1, l4.2.2⟩
  rcases List.mem_cons.mp hq with h | hq
  · exact h ▸ .head _
  rcases List.mem_cons.mp hq with h | hq
  · exact h ▸ .tail _ (.head _)
  rcases List.mem_cons.mp hq with h | hq
  · exact h ▸ .tail _ (.tail _ (.head _))
  rcases List.mem_cons.mp hq with h | hq
  · exact h ▸ .tail _ (.tail _ (.tail _ (.head _)))
  rcases List.mem_cons.mp hq with h | hq
  · exact h ▸ .tail _ (.tail _ (.tail _ (.tail _ (.head _))))
  · exact .tail _ (.tail _ (.tail _ (.tail _ (.tail _ (.tail _ hq)))))
end Mine
/- Di -/
namespace Mine
/-- what _digits2int.inner gives, n = 2 -/
def dnF : Nat → List Int → Int → Int → Int
  | 0, _, _, _ => 0
  | k + 1, ns, lo, hi => if lo + 1 = hi then ns.getD lo.toNat 0 else
      dnF k ns ((lo + hi) / 2) hi * 2 ^ (((lo + hi) / 2 - lo) * 2).toNat + dnF k ns lo ((lo + hi) / 2)
def Dig (ns : List Int) : Prop := ∀ v ∈ ns, 0 ≤ v ∧ v < 4
theorem dig_getD {ns : List Int} (h : Dig ns) (i : Nat) : 0 ≤ ns.getD i 0 ∧ ns.getD i 0 < 4 := by
  rw [List.getD_eq_getElem?_getD]
  by_cases hi : i < ns.length
  · rw [List.getElem?_eq_getElem hi]
    exact h _ (List.getElem_mem hi)
  · rw [List.getElem?_eq_none (by omega)]
    simp
theorem pow5 : ∀ k : Fin 7, (5 : Int) ^ k.val ≤ 5 ^ 6 := by decide
theorem dn_small {ns : List Int} (h : Dig ns) : ∀ (k : Nat) (lo hi : Int), hi - lo ≤ 3 → 0 ≤ dnF k ns lo hi ∧ dnF k ns lo hi < 4 * 5 ^ k
  | 0, _, _, _ => by unfold dnF; omega
  | k + 1, lo, hi, h3 => by
    have a := dn_small h k ((lo + hi) / 2) hi (by omega)
    have b := dn_small h k lo ((lo + hi) / 2) (by omega)
    have p : (5 : Int) ^ (k + 1) = 5 * 5 ^ k := by rw [Int.pow_succ, Int.mul_comm]
    have p0 : (0 : Int) < 5 ^ k := Int.pow_pos (by decide)
    unfold dnF
    split
    · have := dig_getD h lo.toNat
      omega
    · have e : (((lo + hi) / 2 - lo) * 2).toNat = 0 ∨ (((lo + hi) / 2 - lo) * 2).toNat = 2 := by omega
      rcases e with e | e <;> rw [e]
      · have e1 : (2 : Int) ^ 0 = 1 := rfl
        rw [e1]
        omega
      · have e1 : (2 : Int) ^ 2 = 4 := rfl
        rw [e1]
        omega
section
variable {prog : Program} {w : World} {A : Around} {E : Value → Shared → Prop} {s : Shared} {Q : Value → Shared → Prop}
theorem shl_dn {k : Nat} {ns : List Int} {lo hi n : Int} {t u : Tok} (hd : Dig ns) (hk : k ≤ 6) (h3 : hi - lo ≤ 3) (hn : 0 ≤ n) (hn2 : n ≤ 100) (h : Q (.int (dnF k ns lo hi * 2 ^ n.toNat) s.toks) { s with toks := s.toks + 1 }) : wpAny (model prog w) A (binaryOp .LShift (.int (dnF k ns lo hi) t) (.int n u)) Q E s := by
  refine shl_sym hn hn2 ?_ h
  have a := dn_small hd k lo hi h3
  have b : (5 : Int) ^ k ≤ 5 ^ 6 := pow5 ⟨k, by omega⟩
  omega
theorem truthy_two {h₀ : Heap} {L : Addr} {news : List (Addr × Obj)} {l : Addr} {vs : List Value} {ns : List Int} {n : Nat} {Q : Bool → Shared → Prop} (N : News h₀ L s.heap news) (hm : (l, listOf vs.toArray n) ∈ news) (hi : IntsAre vs ns) (hf : ns.length ≤ 100)
    (h1 : ns = [] → Q false { s with toks := s.toks + 1 + 1 }) (h2 : 0 < ns.length → Q true { s with toks := s.toks + 1 + 1 }) : wpAny (model prog w) A (truthy (.ref l)) Q E s := by
  refine truthy_ints_fit (News.isList N hm) hi (by omega) ?_
  by_cases e : 0 < ns.length
  · rw [decide_eq_true e]
    exact h2 e
  · rw [decide_eq_false e]
    exact h1 (List.eq_nil_of_length_eq_zero (by omega))
end
/-- what _digits2int.inner does, for at most k places, n = 2 -/
def Cdi (w : World) (k : Nat) : Prop := ∀ (mean : ExcName → Option Value) (mg mb : Str → Option Value) (dp un : Nat) (gd : Option (List Code)) (cn : Str) (cs : Scope) (a : Addr) (ccd : Value) (cl : List (Str × Addr)) (outer : List Env) (A₀ : Around) (base h₀ : Heap) (L : Addr) (m : Str → Option Value) (news : List (Addr × Obj)) (s : Shared)
    (params : Arguments) (body : List Stmt) (scope : Scope) (qual : Str) (dc nm ct : Value) (vs9 : Array Value) (t9 : Tok) (oc oI oA oN : Obj) (f c D cI cA cN : Addr) (tn : Tok) (its : List Value) (ns : List Int) (cnt : Nat) (lo hi : Int) (t1 t2 : Tok) (Q E : Value → Shared → Prop),
    Below A₀ base outer h₀ → Fr h₀ L s.heap m → (hd.heap_39 w.params).In h₀ →
    News h₀ L s.heap (inLed f (fnMade (Str.ofString "inner") qual params body scope [(Str.ofString "n", cN), (Str.ofString "inner", cI), (Str.ofString "digits", cA)] dc nm c ct) c oc D its cnt cI oI cA oA cN oN news) →
    innerOf 8 0 = some (params, body, scope) → Top topProg loose0 mean mg mb h₀ → CodeHd base 59 55 → cs.kind = .function →
    oc.data = .fields vs9 → vs9[1]? = some (.str qual t9) → oI.data = .cell (some (.ref f)) → oA.data = .cell (some (.ref D)) → oN.data = .cell (some (.int 2 tn)) →
    IntsAre its ns → Dig ns → 0 ≤ lo → lo < hi → hi ≤ (ns.length : Int) → ns.length ≤ 3 → hi - lo ≤ (k : Int) → k ≤ 6 → dp + 10 + k < recursionLimit → un + 40 + 16 * k < cLine →
    (∀ h' tk' t, Fr h₀ L h' m →
      News h₀ L h' (inLed f (fnMade (Str.ofString "inner") qual params body scope [(Str.ofString "n", cN), (Str.ofString "inner", cI), (Str.ofString "digits", cA)] dc nm c ct) c oc D its cnt cI oI cA oA cN oN news) → Q (.int (dnF k ns lo hi) t) { s with heap := h', toks := tk' }) →
    wpAny (model Challenge.rw_gm0007_01.row.prog w) (ktrTop dp un gd cn cs L a ccd cl outer) (call (.ref f) [.int lo t1, .int hi t2]) Q E s
theorem cdi_use {w : World} {k : Nat} (hC : Cdi w k) {mean : ExcName → Option Value} {mg mb : Str → Option Value} {dp un : Nat} {gd : Option (List Code)} {cn : Str} {cs : Scope} {a : Addr} {ccd : Value} {cl : List (Str × Addr)} {outer : List Env} {A₀ : Around} {base h₀ : Heap} {L : Addr} {m : Str → Option Value} {news : List (Addr × Obj)} {s : Shared}
    {params : Arguments} {body : List Stmt} {scope : Scope} {qual : Str} {dc nm ct : Value} {vs9 : Array Value} {t9 : Tok} {oc oI oA oN : Obj} {f c D cI cA cN : Addr} {tn : Tok} {its : List Value} {ns : List Int} {cnt : Nat} {lo hi : Int} {t1 t2 : Tok} {Q E : Value → Shared → Prop}
    (h0 : Below A₀ base outer h₀) (h1 : Fr h₀ L s.heap m) (h2 : (hd.heap_39 w.params).In h₀) (h3 : News h₀ L s.heap (inLed f (fnMade (Str.ofString "inner") qual params body scope [(Str.ofString "n", cN), (Str.ofString "inner", cI), (Str.ofString "digits", cA)] dc nm c ct) c oc D its cnt cI oI cA oA cN oN news)) (h4 : innerOf 8 0 = some (params, body, scope)) (h5 : Top topProg loose0 mean mg mb h₀) (h5b : CodeHd base 59 55) (h6 : cs.kind = .function) (h7 : oc.data = .fields vs9) (h8 : vs9[1]? = some (.str qual t9)) (h9 : oI.data = .cell (some (.ref f))) (h10 : oA.data = .cell (some (.ref D))) (h11 : oN.data = .cell (some (.int 2 tn))) (h18 : IntsAre its ns) (h19 : Dig ns) (h22 : 0 ≤ lo) (h23 : lo < hi) (h24 : hi ≤ (ns.length : Int)) (h25 : ns.length ≤ 3) (h26 : hi - lo ≤ (k : Int)) (h26b : k ≤ 6) (h27 : dp + 10 + k < recursionLimit) (h28 : un + 40 + 16 * k < cLine) (h29 : (∀ h' tk' t, Fr h₀ L h' m →
      News h₀ L h' (inLed f (fnMade (Str.ofString "inner") qual params body scope [(Str.ofString "n", cN), (Str.ofString "inner", cI), (Str.ofString "digits", cA)] dc nm c ct) c oc D its cnt cI oI cA oA cN oN news) → Q (.int (dnF k ns lo hi) t) { s with heap := h', toks := tk' })) :
    wpAny (model Challenge.rw_gm0007_01.row.prog w) (ktrTop dp un gd cn cs L a ccd cl outer) (call (.ref f) [.int lo t1, .int hi t2]) Q E s :=
  hC _ _ _ _ _ _ _ _ _ _ _ _ _ _ _ _ _ _ _ _ _ _ _ _ _ _ _ _ _ _ _ _ _ _ _ _ _ _ _ _ _ _ _ _ _ _ _ _ h0 h1 h2 h3 h4 h5 h5b h6 h7 h8 h9 h10 h11 h18 h19 h22 h23 h24 h25 h26 h26b h27 h28 h29
theorem cdi_one {w : World} {k : Nat} (hC : Cdi w k) {mean : ExcName → Option Value} {mg mb : Str → Option Value} {dp un : Nat} {gd : Option (List Code)} {cn : Str} {cs : Scope} {a : Addr} {ccd : Value} {cl : List (Str × Addr)} {outer : List Env} {A₀ : Around} {base h₀ : Heap} {L : Addr} {m : Str → Option Value} {l : List (Addr × Obj)} {s : Shared}
    {params : Arguments} {body : List Stmt} {scope : Scope} {qual : Str} {dc nm ct : Value} {vs9 : Array Value} {t9 : Tok} {oc oI oA oN : Obj} {f c D cI cA cN : Addr} {tn : Tok} {its : List Value} {ns : List Int} {cnt : Nat} {lo hi : Int} {t1 t2 : Tok} {Q E : Value → Shared → Prop}
    (h0 : Below A₀ base outer h₀) (h1 : Fr h₀ L s.heap m) (h2 : (hd.heap_39 w.params).In h₀) (h3 : News h₀ L s.heap l) (m1 : (f, fnMade (Str.ofString "inner") qual params body scope [(Str.ofString "n", cN), (Str.ofString "inner", cI), (Str.ofString "digits", cA)] dc nm c ct) ∈ l) (m2 : (c, oc) ∈ l) (m6 : (D, listOf its.toArray cnt) ∈ l) (m3 : (cI, oI) ∈ l) (m4 : (cA, oA) ∈ l) (m5 : (cN, oN) ∈ l) (h4 : innerOf 8 0 = some (params, body, scope)) (h5 : Top topProg loose0 mean mg mb h₀) (h5b : CodeHd base 59 55) (h6 : cs.kind = .function) (h7 : oc.data = .fields vs9) (h8 : vs9[1]? = some (.str qual t9)) (h9 : oI.data = .cell (some (.ref f))) (h10 : oA.data = .cell (some (.ref D))) (h11 : oN.data = .cell (some (.int 2 tn))) (h18 : IntsAre its ns) (h19 : Dig ns) (h22 : 0 ≤ lo) (h23 : lo < hi) (h24 : hi ≤ (ns.length : Int)) (h25 : ns.length ≤ 3) (h26 : hi - lo ≤ (k : Int)) (h26b : k ≤ 6) (h27 : dp + 10 + k < recursionLimit) (h28 : un + 40 + 16 * k < cLine) (h29 : (∀ h' tk' t, Fr h₀ L h' m →
      News h₀ L h' l → Q (.int (dnF k ns lo hi) t) { s with heap := h', toks := tk' })) :
    wpAny (model Challenge.rw_gm0007_01.row.prog w) (ktrTop dp un gd cn cs L a ccd cl outer) (call (.ref f) [.int lo t1, .int hi t2]) Q E s := by
  refine cdi_use (c := c) (cI := cI) (cA := cA) (cN := cN) (dc := dc) (nm := nm) (ct := ct) (cnt := cnt) (news := l) hC h0 h1 h2 ?_ h4 h5 h5b h6 h7 h8 h9 h10 h11 h18 h19 h22 h23 h24 h25 h26 h26b h27 h28 fun h' tk' t F' N' => h29 h' tk' t F' fun q h => N' q (.tail _ (.tail _ (.tail _ (.tail _ (.tail _ (.tail _ h))))))
  exact List.forall_mem_cons.mpr ⟨h3 _ m1, List.forall_mem_cons.mpr ⟨h3 _ m2, List.forall_mem_cons.mpr ⟨h3 _ m6, List.forall_mem_cons.mpr ⟨h3 _ m3, List.forall_mem_cons.mpr ⟨h3 _ m4, List.forall_mem_cons.mpr ⟨h3 _ m5, h3⟩⟩⟩⟩⟩⟩
/-- what _digits2int gives, n = 2 -/
def d2F (ns : List Int) : Int := if ns = [] then 0 else dnF 4 ns 0 (ns.length : Int)
theorem d2F_pos {ns : List Int} (h : 0 < ns.length) : d2F ns = dnF 4 ns 0 (ns.length : Int) := by
  unfold d2F
  rw [if_neg]
  intro e
  subst e
  exact absurd h (by decide)
theorem d2F_nil {ns : List Int} (h : ns = []) : d2F ns = 0 := by subst h; rfl
/-- what _digits2int does, n = 2 -/
def Cdd (w : World) : Prop := ∀ (mean : ExcName → Option Value) (mg mb : Str → Option Value) (dp un : Nat) (gd : Option (List Code)) (cn : Str) (cs : Scope) (a : Addr) (ccd : Value) (cl : List (Str × Addr)) (outer : List Env) (A₀ : Around) (base h₀ : Heap) (L : Addr) (m : Str → Option Value) (news : List (Addr × Obj)) (s : Shared) (p55 : Array Value) (c55 : Addr) (o55 : Obj) (D : Addr) (its : List Value) (cnt : Nat) (ns : List Int) (t2 : Tok) (Q E : Value → Shared → Prop),
    Below A₀ base outer h₀ → Fr h₀ L s.heap m → (hd.heap_39 w.params).In h₀ → News h₀ L s.heap ((55, tabObj p55) :: (c55, o55) :: (D, listOf its.toArray cnt) :: news) → TabSt p55 c55 o55 (Str.ofString "_digits2int.<locals>.inner") 88 4 → @Ne Nat c55 55 → @Ne Nat D 55 → (∀ q ∈ news, q.1 ≠ 55) → IntsAre its ns → Dig ns → ns.length ≤ 3 →
    CodeHd base 59 55 → Top topProg loose0 mean mg mb h₀ → cs.kind = .function → dp + 20 < recursionLimit → un + 160 < cLine →
    (∀ (c55' : Addr) h' tk' t o55', Fr h₀ L h' m →
      News h₀ L h' ((55, tabObj #[rawInt (88 : Nat), rawInt (4 : Nat), .ref c55']) :: (c55', o55') :: (c55, o55) :: (D, listOf its.toArray cnt) :: news) → (∃ vs t, o55'.data = .fields vs ∧ vs[1]? = some (.str (Str.ofString "_digits2int.<locals>.inner") t)) →
      ((@Eq Nat c55' c55 ∧ p55 ≠ #[]) ∨ AllLt c55' ((55, tabObj #[]) :: (c55, o55) :: (D, listOf its.toArray cnt) :: news)) → Q (.int (d2F ns) t) { s with heap := h', toks := tk' }) →
    wpAny (model Challenge.rw_gm0007_01.row.prog w) (ktrTop dp un gd cn cs L a ccd cl outer) (call (.ref 60) [.ref D, .int 2 t2]) Q E s
theorem fin_cdd {h₀ h : Heap} {L : Addr} {l news : List (Addr × Obj)} {a1 a2 a3 a4 : Addr} {o1 o2 o3 o4 : Obj} (N : News h₀ L h l)
    (m1 : (a1, o1) ∈ l) (m2 : (a2, o2) ∈ l) (m3 : (a3, o3) ∈ l) (m4 : (a4, o4) ∈ l) (ms : ∀ q ∈ news, q ∈ l) : News h₀ L h ((a1, o1) :: (a2, o2) :: (a3, o3) :: (a4, o4) :: news) :=
  List.forall_mem_cons.mpr ⟨N _ m1, List.forall_mem_cons.mpr ⟨N _ m2, List.forall_mem_cons.mpr ⟨N _ m3, List.forall_mem_cons.mpr ⟨N _ m4, fun q hq => N q (ms q hq)⟩⟩⟩⟩
end Mine
/- Dv -/
namespace Mine
/-- what _div2n1n (., 2, 2) does -/
def Cdv (w : World) : Prop := ∀ (mean : ExcName → Option Value) (mg mb : Str → Option Value) (dp un : Nat) (gd : Option (List Code)) (cn : Str) (cs : Scope) (a : Addr) (ccd : Value) (cl : List (Str × Addr)) (outer : List Env) (A₀ : Around) (base h₀ : Heap) (L : Addr) (m : Str → Option Value) (news : List (Addr × Obj)) (s : Shared) (x : Int) (t1 t2 t3 : Tok) (Q E : Value → Shared → Prop),
    Below A₀ base outer h₀ → Fr h₀ L s.heap m → (hd.heap_39 w.params).In h₀ → News h₀ L s.heap news → Top topProg loose0 mean mg mb h₀ → cs.kind = .function → 0 ≤ x → x < 64 → dp + 5 < recursionLimit → un + 40 < cLine →
    (∀ (r : Addr) h' t t' tk', Fr h₀ L h' m → News h₀ L h' ((r, tup2 (x / 2) t (x % 2) t') :: news) → (∀ p ∈ news, p.1 < r) → Q (.ref r) { s with heap := h', toks := tk' }) →
    wpAny (model Challenge.rw_gm0007_01.row.prog w) (ktrTop dp un gd cn cs L a ccd cl outer) (call (.ref 39) [.int x t1, .int 2 t2, .int 2 t3]) Q E s
end Mine
/- Dn -/
namespace Mine
theorem cid_dm {w : World} (hC : Cid w) {mean : ExcName → Option Value} {mg mb : Str → Option Value} {dp un : Nat} {gd : Option (List Code)} {cn : Str} {cs : Scope} {a : Addr} {ccd : Value} {cl : List (Str × Addr)} {outer : List Env} {A₀ : Around} {base h₀ : Heap} {L : Addr} {m : Str → Option Value} {s : Shared} {x n : Int} {t1 t2 : Tok} {l l1 news : List (Addr × Obj)} {p55 : Array Value} {c55 : Addr} {o55 : Obj} {p48 : Array Value} {c48 : Addr} {o48 : Obj} {p76 : Array Value} {c76 : Addr} {o76 : Obj} {Q E : Value → Shared → Prop}
    (B : Below A₀ base outer h₀) (F : Fr h₀ L s.heap m) (X : (hd.heap_39 w.params).In h₀) (N : News h₀ L s.heap l) (TK : TOk news p55 c55 o55 p48 c48 o48 p76 c76 o76) (k1 : CutI 48 (tabObj p48) l l1) (m1 : (c48, o48) ∈ l1) (m55 : (55, tabObj p55) ∈ l1) (mc55 : (c55, o55) ∈ l1) (m76 : (76, tabObj p76) ∈ l1) (mc76 : (c76, o76) ∈ l1) (ms : ∀ q ∈ news, q ∈ l1)
    (C48 : CodeHd base 52 48) (T : Top topProg loose0 mean mg mb h₀) (hk : cs.kind = .function) (hn : n = 1 ∨ n = 2) (b0 : 0 ≤ x) (b1 : x < 64) (hd : dp + 20 < recursionLimit) (hu : un + 160 < cLine)
    (hret : ∀ (r c48' : Addr) h' tk' its cnt o48', IntsAre its (i2F n x) → Fr h₀ L h' m →
      News h₀ L h' ((r, listOf its.toArray cnt) :: (48, tabObj #[rawInt (73 : Nat), rawInt (4 : Nat), .ref c48']) :: (c48', o48') :: l1) → (∀ q ∈ l1, q.1 < r) → @Ne Nat c48' 55 →
      TOk news p55 c55 o55 #[rawInt (73 : Nat), rawInt (4 : Nat), .ref c48'] c48' o48' p76 c76 o76 → Q (.ref r) { s with heap := h', toks := tk' }) :
    wpAny (model Challenge.rw_gm0007_01.row.prog w) (ktrTop dp un gd cn cs L a ccd cl outer) (call (.ref 53) [.int x t1, .int n t2]) Q E s := by
  obtain ⟨i, j, e⟩ := k1.spec
  have N2 : News h₀ L s.heap ((48, tabObj p48) :: (c48, o48) :: l1) := List.forall_mem_cons.mpr ⟨N _ i, List.forall_mem_cons.mpr ⟨N _ (j _ m1), fun q h => N q (j q h)⟩⟩
  refine hC mean mg mb dp un gd cn cs a ccd cl outer A₀ base h₀ L m l1 s p48 c48 o48 x n t1 t2 Q E B F X N2 TK.s48 (e _ m1) e C48 T hk hn b0 b1 hd hu fun r j1 j2 c' h' tk' its cnt oj1 oj2 o' hI F' N' dq q1 q2 q3 q4 => ?_
  have lr : ∀ q ∈ l1, q.1 < r := fun q hq => Nat.lt_trans (tb_ltOf q4.2.2 q hq) q1
  have l48 : @LT.lt Nat _ 48 r := Nat.lt_trans q4.1 q1
  have ne : ∀ q ∈ l1, q.1 ≠ c48 → q.1 ≠ c' := fun q hq hne => by
    rcases q3 with ⟨q3, _⟩ | ⟨q3, _⟩
    · exact fun h => hne (h.trans q3)
    · exact Nat.ne_of_lt (Nat.lt_trans (lr q hq) q3)
  have n5 : @Ne Nat c' 48 := by
    rcases q3 with ⟨q3, _⟩ | ⟨q3, _⟩
    · exact fun h => TK.n5 (q3.symm.trans h)
    · exact Nat.ne_of_gt (Nat.lt_trans l48 q3)
  have n4 : @Ne Nat c' 55 := (ne _ m55 (Ne.symm TK.n4)).symm
  obtain ⟨vs, t, dq1, dq2⟩ := dq
  refine hret r c' h' tk' its cnt o' hI F' ?_ lr n4 ⟨TK.s55, tabSt_in dq1 dq2, TK.s76, TK.a55, TK.a48, TK.a76, TK.b55, fun q hq => ne q (ms q hq) (TK.b48 q hq), TK.b76, TK.n1, TK.n2, TK.n3, n4, n5, (ne _ m76 (Ne.symm TK.n6)).symm, TK.n7, TK.n8, TK.n9, ne _ mc55 TK.m1, TK.m2, (ne _ mc76 (Ne.symm TK.m3)).symm⟩
  exact List.forall_mem_cons.mpr ⟨N' _ (.head _), List.forall_mem_cons.mpr ⟨N' _ (.tail _ (.tail _ (.tail _ (.head _)))), List.forall_mem_cons.mpr ⟨N' _ (.tail _ (.tail _ (.tail _ (.tail _ (.head _))))), fun q hq => N' q (.tail _ (.tail _ (.tail _ (.tail _ (.tail _ (.tail _ hq))))))⟩⟩⟩
theorem cdd_dm {w : World} (hC : Cdd w) {mean : ExcName → Option Value} {mg mb : Str → Option Value} {dp un : Nat} {gd : Option (List Code)} {cn : Str} {cs : Scope} {a : Addr} {ccd : Value} {cl : List (Str × Addr)} {outer : List Env} {A₀ : Around} {base h₀ : Heap} {L : Addr} {m : Str → Option Value} {s : Shared} {t2 : Tok} {l l1 news : List (Addr × Obj)} {p55 : Array Value} {c55 : Addr} {o55 : Obj} {p48 : Array Value} {c48 : Addr} {o48 : Obj} {p76 : Array Value} {c76 : Addr} {o76 : Obj} {D : Addr} {its : List Value} {ns : List Int} {v : Int} {cnt : Nat} {Q E : Value → Shared → Prop}
    (B : Below A₀ base outer h₀) (F : Fr h₀ L s.heap m) (X : (hd.heap_39 w.params).In h₀) (N : News h₀ L s.heap l) (TK : TOk news p55 c55 o55 p48 c48 o48 p76 c76 o76) (k1 : CutI 55 (tabObj p55) l l1) (m1 : (c55, o55) ∈ l1) (m48 : (48, tabObj p48) ∈ l1) (mc48 : (c48, o48) ∈ l1) (m76 : (76, tabObj p76) ∈ l1) (mc76 : (c76, o76) ∈ l1) (ms : ∀ q ∈ news, q ∈ l1) (mD : (D, listOf its.toArray cnt) ∈ l1)
    (hI : IntsAre its ns) (hg : Dig ns) (hl : ns.length ≤ 3) (ev : d2F ns = v) (C55 : CodeHd base 59 55) (T : Top topProg loose0 mean mg mb h₀) (hk : cs.kind = .function) (hd : dp + 20 < recursionLimit) (hu : un + 160 < cLine)
    (hret : ∀ (c55' : Addr) h' tk' t o55', Fr h₀ L h' m → News h₀ L h' ((55, tabObj #[rawInt (88 : Nat), rawInt (4 : Nat), .ref c55']) :: (c55', o55') :: l1) →
      TOk news #[rawInt (88 : Nat), rawInt (4 : Nat), .ref c55'] c55' o55' p48 c48 o48 p76 c76 o76 → Q (.int v t) { s with heap := h', toks := tk' }) :
    wpAny (model Challenge.rw_gm0007_01.row.prog w) (ktrTop dp un gd cn cs L a ccd cl outer) (call (.ref 60) [.ref D, .int 2 t2]) Q E s := by
  subst ev
  obtain ⟨i, j, e⟩ := k1.spec
  have N2 : News h₀ L s.heap ((55, tabObj p55) :: (c55, o55) :: (D, listOf its.toArray cnt) :: l1) := List.forall_mem_cons.mpr ⟨N _ i, List.forall_mem_cons.mpr ⟨N _ (j _ m1), List.forall_mem_cons.mpr ⟨N _ (j _ mD), fun q h => N q (j q h)⟩⟩⟩
  refine hC mean mg mb dp un gd cn cs a ccd cl outer A₀ base h₀ L m l1 s p55 c55 o55 D its cnt ns t2 Q E B F X N2 TK.s55 (e _ m1) (e _ mD) e hI hg hl C55 T hk hd hu fun c' h' tk' t o' F' N' dq q3 => ?_
  have ne : ∀ q ∈ l1, q.1 ≠ c55 → q.1 ≠ c' := fun q hq hne => by
    rcases q3 with ⟨q3, _⟩ | q3
    · exact fun h => hne (h.trans q3)
    · exact Nat.ne_of_lt (tb_ltOf q3.2.2.2 q hq)
  have n1 : @Ne Nat c' 55 := by
    rcases q3 with ⟨q3, _⟩ | q3
    · exact fun h => TK.n1 (q3.symm.trans h)
    · exact Nat.ne_of_gt q3.1
  obtain ⟨vs, t9, dq1, dq2⟩ := dq
  refine hret c' h' tk' t o' F' ?_ ⟨tabSt_in dq1 dq2, TK.s48, TK.s76, TK.a55, TK.a48, TK.a76, fun q hq => ne q (ms q hq) (TK.b55 q hq), TK.b48, TK.b76, n1, (ne _ m48 (Ne.symm TK.n2)).symm, (ne _ m76 (Ne.symm TK.n3)).symm, TK.n4, TK.n5, TK.n6, TK.n7, TK.n8, TK.n9, (ne _ mc48 (Ne.symm TK.m1)).symm, (ne _ mc76 (Ne.symm TK.m2)).symm, TK.m3⟩
  exact List.forall_mem_cons.mpr ⟨N' _ (.head _), List.forall_mem_cons.mpr ⟨N' _ (.tail _ (.head _)), fun q hq => N' q (.tail _ (.tail _ (.tail _ (.tail _ hq))))⟩⟩
theorem fin_dm {h₀ h : Heap} {L r : Addr} {or' : Obj} {l news : List (Addr × Obj)} {p55 : Array Value} {c55 : Addr} {o55 : Obj} {p48 : Array Value} {c48 : Addr} {o48 : Obj} {p76 : Array Value} {c76 : Addr} {o76 : Obj} (_ : TOk news p55 c55 o55 p48 c48 o48 p76 c76 o76) (N : News h₀ L h ((r, or') :: l)) (lr : AllLt r l)
    (m1 : (55, tabObj p55) ∈ l) (m2 : (c55, o55) ∈ l) (m3 : (48, tabObj p48) ∈ l) (m4 : (c48, o48) ∈ l) (m5 : (76, tabObj p76) ∈ l) (m6 : (c76, o76) ∈ l) (ms : ∀ q ∈ news, q ∈ l) :
    News h₀ L h ((r, or') :: (55, tabObj p55) :: (c55, o55) :: (48, tabObj p48) :: (c48, o48) :: (76, tabObj p76) :: (c76, o76) :: news) ∧ AllLt r ((55, tabObj p55) :: (c55, o55) :: (48, tabObj p48) :: (c48, o48) :: (76, tabObj p76) :: (c76, o76) :: news) := by
  have key : ∀ q ∈ (55, tabObj p55) :: (c55, o55) :: (48, tabObj p48) :: (c48, o48) :: (76, tabObj p76) :: (c76, o76) :: news, q ∈ l :=
    List.forall_mem_cons.mpr ⟨m1, List.forall_mem_cons.mpr ⟨m2, List.forall_mem_cons.mpr ⟨m3, List.forall_mem_cons.mpr ⟨m4, List.forall_mem_cons.mpr ⟨m5, List.forall_mem_cons.mpr ⟨m6, ms⟩⟩⟩⟩⟩⟩
  exact ⟨List.forall_mem_cons.mpr ⟨N _ (.head _), fun q hq => N q (.tail _ (key q hq))⟩, allLt_of fun q hq => tb_ltOf lr q (key q hq)⟩
theorem d2F_1 {a : Int} : d2F [a] = a := by simp [d2F, dnF]
theorem d2F_2 {a b : Int} : d2F [a, b] = b * 4 + a := by simp [d2F, dnF]
theorem d2F_3 {a b c : Int} : d2F [a, b, c] = (c * 4 + b) * 4 + a := by simp [d2F, dnF]
theorem dig0 : Dig [] := fun _ h => absurd h List.not_mem_nil
theorem digS {a : Int} {ns : List Int} (h : 0 ≤ a) (h2 : a < 4) (d : Dig ns) : Dig (a :: ns) := List.forall_mem_cons.mpr ⟨⟨h, h2⟩, d⟩
def i2S (x : Int) : List Int := if x = 0 then [] else if x < 4 then [x] else if x < 16 then [x % 4, x / 4] else [x % 4, x / 4 % 4, x / 16]
theorem i2S_all : ∀ x : Fin 64, i2F 2 (x.val : Int) = i2S (x.val : Int) := by decide +kernel
theorem i2_shape {x : Int} {its : List Value} (h0 : 0 ≤ x) (h1 : x < 64) (hI : IntsAre its (i2F 2 x)) :
    (its = [] ∧ x = 0) ∨ (∃ d0 t0, its = [.int d0 t0] ∧ 0 ≤ d0 ∧ d0 < 4 ∧ x = d0) ∨ (∃ d0 t0 d1 t1, its = [.int d0 t0, .int d1 t1] ∧ 0 ≤ d0 ∧ d0 < 4 ∧ 0 ≤ d1 ∧ d1 < 4 ∧ x = d0 + 4 * d1) ∨
    (∃ d0 t0 d1 t1 d2 t2, its = [.int d0 t0, .int d1 t1, .int d2 t2] ∧ 0 ≤ d0 ∧ d0 < 4 ∧ 0 ≤ d1 ∧ d1 < 4 ∧ 0 ≤ d2 ∧ d2 < 4 ∧ x = d0 + 4 * d1 + 16 * d2) := by
  have e := i2S_all ⟨x.toNat, by omega⟩
  have e1 : ((x.toNat : Nat) : Int) = x := by omega
  simp only [e1] at e
  rw [e] at hI
  unfold i2S at hI
  split at hI
  · cases hI
    exact .inl ⟨rfl, by assumption⟩
  split at hI
  · cases hI with
    | cons _ t h => cases h; exact .inr (.inl ⟨_, t, rfl, by omega, by omega, rfl⟩)
  split at hI
  · cases hI with
    | cons _ t h =>
      cases h with
      | cons _ t' h => cases h; exact .inr (.inr (.inl ⟨_, t, _, t', rfl, by omega, by omega, by omega, by omega, by omega⟩))
  · cases hI with
    | cons _ t h =>
      cases h with
      | cons _ t' h =>
        cases h with
        | cons _ t'' h => cases h; exact .inr (.inr (.inr ⟨_, t, _, t', _, t'', rfl, by omega, by omega, by omega, by omega, by omega, by omega, by omega⟩))
end Mine
/- Lawl -/
namespace Mine
def WMark (_ : Nat → Int) : Prop := True
structure LS where
  o2 : Obj
  v2 : Option Value
  tw : Tok
  p55 : Array Value
  c55 : Addr
  o55 : Obj
  p48 : Array Value
  c48 : Addr
  o48 : Obj
  p76 : Array Value
  c76 : Addr
  o76 : Obj
abbrev lwOwn (rl : Addr) (ro : Obj) (a1 : Addr) (o1 : Obj) (a2 : Addr) (o2 : Obj) (a3 : Addr) (o3 : Obj) (a4 : Addr) (o4 : Obj) : List (Addr × Obj) := [(rl, ro), (a1, o1), (a2, o2), (a3, o3), (a4, o4)]
abbrev lwLed (rl : Addr) (ro : Obj) (a1 : Addr) (o1 : Obj) (a2 a3 : Addr) (o3 : Obj) (a4 : Addr) (o4 : Obj) (c : LS) : List (Addr × Obj) :=
  [(55, tabObj c.p55), (c.c55, c.o55), (48, tabObj c.p48), (c.c48, c.o48), (76, tabObj c.p76), (c.c76, c.o76), (rl, ro), (a1, o1), (a2, c.o2), (a3, o3), (a4, o4)]
abbrev lwMap (m₀ u : Str → Option Value) (W : Int) (t : Tok) : Str → Option Value := fun z => if z = Str.ofString "whole" then some (.int W t) else if z = Str.ofString "place" then u z else if z = Str.ofString "looked" then u z else if z = Str.ofString "right" then u z else if z = Str.ofString "seen" then u z else m₀ z
structure LwOk (rl : Addr) (ro : Obj) (a1 : Addr) (o1 : Obj) (a2 a3 : Addr) (o3 : Obj) (a4 : Addr) (o4 : Obj) (c : LS) : Prop where
  tk : TOk (lwOwn rl ro a1 o1 a2 c.o2 a3 o3 a4 o4) c.p55 c.c55 c.o55 c.p48 c.c48 c.o48 c.p76 c.c76 c.o76
  d2 : c.o2.data = .cell c.v2
def lwJ (m₀ : Str → Option Value) (W : Nat → Int) (rl : Addr) (ro : Obj) (a1 : Addr) (o1 : Obj) (a2 a3 : Addr) (o3 : Obj) (a4 : Addr) (o4 : Obj) (i : Nat) (m : Str → Option Value) (nx : List (Addr × Obj)) : Prop :=
  ∃ c : LS, LwOk rl ro a1 o1 a2 a3 o3 a4 o4 c ∧ (∀ q ∈ lwLed rl ro a1 o1 a2 a3 o3 a4 o4 c, q ∈ nx) ∧ m (Str.ofString "whole") = some (.int (W i) c.tw) ∧
    (∀ z, z ≠ Str.ofString "whole" → z ≠ Str.ofString "place" → z ≠ Str.ofString "looked" → z ≠ Str.ofString "right" → z ≠ Str.ofString "seen" → m z = m₀ z)
theorem lw_map {m₀ m : Str → Option Value} {W : Int} {t : Tok} (h1 : m (Str.ofString "whole") = some (.int W t))
    (h2 : ∀ z, z ≠ Str.ofString "whole" → z ≠ Str.ofString "place" → z ≠ Str.ofString "looked" → z ≠ Str.ofString "right" → z ≠ Str.ofString "seen" → m z = m₀ z) : m = lwMap m₀ m W t := by
  funext z
  show m z = if z = Str.ofString "whole" then some (.int W t) else if z = Str.ofString "place" then m z else if z = Str.ofString "looked" then m z else if z = Str.ofString "right" then m z else if z = Str.ofString "seen" then m z else m₀ z
  by_cases e1 : z = Str.ofString "whole"
  · rw [if_pos e1, e1]; exact h1
  rw [if_neg e1]
  by_cases e2 : z = Str.ofString "place"
  · rw [if_pos e2]
  rw [if_neg e2]
  by_cases e3 : z = Str.ofString "looked"
  · rw [if_pos e3]
  rw [if_neg e3]
  by_cases e4 : z = Str.ofString "right"
  · rw [if_pos e4]
  rw [if_neg e4]
  by_cases e5 : z = Str.ofString "seen"
  · rw [if_pos e5]
  rw [if_neg e5]
  exact h2 z e1 e2 e3 e4 e5
section
variable {l l1 l2 l3 l4 l5 rest : List (Addr × Obj)} {p55 : Array Value} {c55 : Addr} {o55 : Obj} {p48 : Array Value} {c48 : Addr} {o48 : Obj} {p76 : Array Value} {c76 : Addr} {o76 : Obj} {m₀ m' : Str → Option Value} {W : Nat → Int} {rl : Addr} {ro : Obj} {a1 : Addr} {o1 : Obj} {a2 a3 : Addr} {o2 o3 : Obj} {a4 : Addr} {o4 : Obj} {i : Nat} {v2 : Option Value} {t : Tok}
theorem lw_intro
    (k1 : CutI 55 (tabObj p55) l l1) (S55 : TabSt p55 c55 o55 (Str.ofString "_digits2int.<locals>.inner") 88 4) (k2 : CutI c55 o55 l1 l2) (k3 : CutI 48 (tabObj p48) l2 l3) (S48 : TabSt p48 c48 o48 (Str.ofString "_int2digits.<locals>.inner") 73 4) (k4 : CutI c48 o48 l3 l4)
    (k5 : CutI 76 (tabObj p76) l4 l5) (S76 : TabSt p76 c76 o76 (Str.ofString "_law_looked.<locals>.<lambda>") 120 47) (k6 : CutI c76 o76 l5 rest)
    (m0 : (rl, ro) ∈ rest) (m1 : (a1, o1) ∈ rest) (m2 : (a2, o2) ∈ rest) (m3 : (a3, o3) ∈ rest) (m4 : (a4, o4) ∈ rest) (d2 : o2.data = .cell v2)
    {V : Int} (hV : V = W i) (hw : m' (Str.ofString "whole") = some (.int V t))
    (hm : ∀ z, z ≠ Str.ofString "whole" → z ≠ Str.ofString "place" → z ≠ Str.ofString "looked" → z ≠ Str.ofString "right" → z ≠ Str.ofString "seen" → m' z = m₀ z) :
    lwJ m₀ W rl ro a1 o1 a2 a3 o3 a4 o4 i m' l := by
  obtain ⟨TK, sub⟩ := tok_cut k1 S55 k2 k3 S48 k4 k5 S76 k6
  have h5 : ∀ q ∈ lwOwn rl ro a1 o1 a2 o2 a3 o3 a4 o4, q ∈ rest := by
    refine List.forall_mem_cons.mpr ⟨m0, List.forall_mem_cons.mpr ⟨m1, List.forall_mem_cons.mpr ⟨m2, List.forall_mem_cons.mpr ⟨m3, List.forall_mem_cons.mpr ⟨m4, List.forall_mem_nil _⟩⟩⟩⟩⟩
  refine ⟨⟨o2, v2, t, p55, c55, o55, p48, c48, o48, p76, c76, o76⟩, ⟨TK.sub h5, d2⟩, ?_, hV ▸ hw, hm⟩
  intro q hq
  have : q ∈ (55, tabObj p55) :: (c55, o55) :: (48, tabObj p48) :: (c48, o48) :: (76, tabObj p76) :: (c76, o76) :: rest := by
    rcases List.mem_cons.mp hq with e | hq
    · exact e ▸ .head _
    rcases List.mem_cons.mp hq with e | hq
    · exact e ▸ .tail _ (.head _)
    rcases List.mem_cons.mp hq with e | hq
    · exact e ▸ .tail _ (.tail _ (.head _))
    rcases List.mem_cons.mp hq with e | hq
    · exact e ▸ .tail _ (.tail _ (.tail _ (.head _)))
    rcases List.mem_cons.mp hq with e | hq
    · exact e ▸ .tail _ (.tail _ (.tail _ (.tail _ (.head _))))
    rcases List.mem_cons.mp hq with e | hq
    · exact e ▸ .tail _ (.tail _ (.tail _ (.tail _ (.tail _ (.head _)))))
    · exact .tail _ (.tail _ (.tail _ (.tail _ (.tail _ (.tail _ (h5 q hq))))))
  exact sub q this
variable {prog : Program} {w : World} {A : Around} {E : Value → Shared → Prop} {s : Shared} {env : Env} {h₀ : Heap} {x : Str} {xp : Pos} {body : List Stmt} {Q : Flow → Shared → Prop}
theorem law_loop {r : Addr} {a₀ b₀ : Int} {t₀ u₀ v₀ : Tok} {n : Nat} (hW9 : WMark W) (hh : A.handled = none) (hr : IsRange s.heap r a₀ b₀ 1 t₀ u₀ v₀) (hsmall : Builtin.Range.small a₀ b₀ 1 = true) (hn : Builtin.Range.rangeSize a₀ b₀ 1 = (n : Int))
    (F : Fr h₀ env.locals s.heap m₀) (N : News h₀ env.locals s.heap l) (hJ : lwJ m₀ W rl ro a1 o1 a2 a3 o3 a4 o4 0 m₀ l)
    (turn : ∀ (i : Nat) (x' : Int) (c : LS) (u : Str → Option Value) h tk t (I : Addr) (it : Obj), i < n → x' = a₀ + (i : Int) → LwOk rl ro a1 o1 a2 a3 o3 a4 o4 c → (∀ p ∈ lwLed rl ro a1 o1 a2 a3 o3 a4 o4 c, p.1 ≠ I) → Fr h₀ env.locals h (lwMap m₀ u (W i) c.tw) → News h₀ env.locals h ((I, it) :: lwLed rl ro a1 o1 a2 a3 o3 a4 o4 c) →
      wpAny (model prog w) A (assign (.Name x xp) env (.int x' t)) (fun _ s₃ => wpAny (model prog w) A (execs body env) (UnrPost h₀ env.locals { s with heap := h, toks := tk } I it (lwJ m₀ W rl ro a1 o1 a2 a3 o3 a4 o4 (i + 1)) Q) E s₃) E { s with heap := h, toks := tk })
    (done : ∀ (c : LS) (u : Str → Option Value) h tk, LwOk rl ro a1 o1 a2 a3 o3 a4 o4 c → Fr h₀ env.locals h (lwMap m₀ u (W n) c.tw) → News h₀ env.locals h (lwLed rl ro a1 o1 a2 a3 o3 a4 o4 c) → Q .next { s with heap := h, toks := tk }) :
    wpAny (model prog w) A (pyIter (.ref r)) (fun it s₂ => TurnsAt prog w A h₀ env (.Name x xp) body Q E it s₂) E s := by
  refine range_inv (lwJ m₀ W rl ro a1 o1 a2 a3 o3 a4 o4) hh hr hsmall hn F N hJ ?_ ?_
  · rintro i m₁ news₁ h tk t I it hi ⟨c, ok, sub, e1, e2⟩ hoff F₁ N₁
    rw [lw_map e1 e2] at F₁
    exact turn i _ c m₁ h tk t I it hi rfl ok (fun p hp => hoff p (sub p hp)) F₁ (fun p hp => by
      rcases List.mem_cons.mp hp with rfl | hp
      · exact N₁ _ (.head _)
      · exact N₁ _ (.tail _ (sub p hp)))
  · rintro h tk m₁ news₁ F₁ N₁ ⟨c, ok, sub, e1, e2⟩
    rw [lw_map e1 e2] at F₁
    exact done c m₁ h tk ok F₁ (fun p hp => N₁ p (sub p hp))
end
end Mine
/- Facts -/
namespace Mine
def rowOf (m : Int) : List Int := List.map (fun k' => 2 * k') (rangeKs 0 (m - 0).toNat)
def lkL' (m x : Int) : Int × List Int := srch (fun v => decide (v < x)) (rowOf m) 16 0 m
def lkR' (m x : Int) : Int × List Int := srch (fun v => decide (v ≤ x)) (rowOf m) 16 0 m
def wsum (m : Int) : Nat → Int
  | 0 => 0
  | i + 1 => wsum m i + (if ((0 - 1) + (i : Int)) % 2 = 1 then ((lkL' m ((0 - 1) + (i : Int))).2.length : Int) else 0)
def chk (m x : Int) : Bool :=
  decide ((lkL' m x).1 = (((rowOf m).filter (fun k => decide (k < x))).length : Int)) && decide ((nbits m : Int) - 1 ≤ ((lkL' m x).2.length : Int)) && decide (((lkL' m x).2.length : Int) ≤ (nbits m : Int)) &&
  decide ((lkR' m x).1 = (((rowOf m).filter (fun k => decide (k ≤ x))).length : Int)) && decide ((nbits m : Int) - 1 ≤ ((lkR' m x).2.length : Int)) && decide (((lkR' m x).2.length : Int) ≤ (nbits m : Int)) &&
  (!(decide (x ∈ rowOf m)) || decide (x ∈ (lkL' m x).2 ++ (lkR' m x).2))
theorem chk_all : ∀ m : Fin 13, ∀ i : Fin 26, i.val < 2 * m.val + 2 → chk ((m.val : Nat) : Int) ((0 - 1) + ((i.val : Nat) : Int)) = true := by decide +kernel
theorem dep_all : ∀ m : Fin 13, wsum ((m.val : Nat) : Int) (2 * m.val + 2) = depF 12 ((m.val : Nat) : Int) := by decide +kernel
structure LFacts (m x : Int) : Prop where
  f1 : (lkL' m x).1 = (((rowOf m).filter (fun k => decide (k < x))).length : Int)
  f2 : (nbits m : Int) - 1 ≤ ((lkL' m x).2.length : Int)
  f3 : ((lkL' m x).2.length : Int) ≤ (nbits m : Int)
  f4 : (lkR' m x).1 = (((rowOf m).filter (fun k => decide (k ≤ x))).length : Int)
  f5 : (nbits m : Int) - 1 ≤ ((lkR' m x).2.length : Int)
  f6 : ((lkR' m x).2.length : Int) ≤ (nbits m : Int)
  f7 : x ∈ rowOf m → x ∈ (lkL' m x).2 ++ (lkR' m x).2
theorem lfacts {m : Int} {i : Nat} (h0 : 0 ≤ m) (h1 : m ≤ 12) (h : i < (2 * m + 2).toNat) {x : Int} (hx : x = (0 - 1) + (i : Int)) : LFacts m x := by
  subst hx
  have e := chk_all ⟨m.toNat, by omega⟩ ⟨i, by omega⟩ (by show i < 2 * m.toNat + 2; omega)
  have em : ((m.toNat : Nat) : Int) = m := by omega
  simp only [em] at e
  unfold chk at e
  simp only [Bool.and_eq_true, decide_eq_true_eq, Bool.or_eq_true, Bool.not_eq_true', decide_eq_false_iff_not] at e
  obtain ⟨⟨⟨⟨⟨⟨e1, e2⟩, e3⟩, e4⟩, e5⟩, e6⟩, e7⟩ := e
  exact ⟨e1, e2, e3, e4, e5, e6, fun hx => e7.resolve_left (fun h => h hx)⟩
theorem depfact {m : Int} (h0 : 0 ≤ m) (h1 : m ≤ 12) : wsum m (2 * m + 2).toNat = depF 12 m := by
  have e := dep_all ⟨m.toNat, by omega⟩
  have em : ((m.toNat : Nat) : Int) = m := by omega
  simp only [em] at e
  have en : (2 * m + 2).toNat = 2 * m.toNat + 2 := by omega
  rw [en]
  exact e
theorem row_len {m : Int} (h0 : 0 ≤ m) : ((rowOf m).length : Int) = m := by
  unfold rowOf
  rw [List.length_map, rangeKs_length]
  omega
theorem range_n {m : Int} (h0 : 0 ≤ m) : Builtin.Range.rangeSize (0 - 1) (2 * m + 1) 1 = (((2 * m + 2).toNat : Nat) : Int) := by
  unfold Builtin.Range.rangeSize
  rw [if_pos (by decide), if_pos (by omega)]
  omega
theorem small_all : ∀ m : Fin 13, Builtin.Range.small (0 - 1) (2 * ((m.val : Nat) : Int) + 1) 1 = true := by decide +kernel
theorem range_small {m : Int} (h0 : 0 ≤ m) (h1 : m ≤ 12) : Builtin.Range.small (0 - 1) (2 * m + 1) 1 = true := by
  have e := small_all ⟨m.toNat, by omega⟩
  have em : ((m.toNat : Nat) : Int) = m := by omega
  simp only [em] at e
  exact e
theorem wsum_odd {m x : Int} {i : Nat} (hx : x = (0 - 1) + (i : Int)) (h : x % 2 = 1) : wsum m i + ((lkL' m x).2.length : Int) = wsum m (i + 1) := by
  subst hx
  unfold wsum
  rw [if_pos h]
  cases i <;> rfl
theorem wsum_even {m x : Int} {i : Nat} (hx : x = (0 - 1) + (i : Int)) (h : ¬ x % 2 = 1) : wsum m i + 0 = wsum m (i + 1) := by
  subst hx
  show wsum m i + 0 = wsum m i + _
  rw [if_neg h]
end Mine
/- Lawc -/
namespace Mine
theorem row_is {ys : List Value} {m : Int} (h : IntsAre ys (List.map (fun k' => 2 * k') (rangeKs 0 (m - 0).toNat))) : IntsAre ys (rowOf m) := h
theorem row_lens {m : Int} (h0 : 0 ≤ m) (h1 : m ≤ 12) : ((rowOf m).length : Int) = m ∧ (rowOf m).length ≤ 12 := by
  have := row_len h0
  exact ⟨this, by omega⟩
def AllNeA (d : Addr) : List (Addr × Obj) → Prop
  | [] => True
  | p :: r => @Ne Addr p.1 d ∧ AllNeA d r
theorem allNeA_of {d : Addr} : ∀ {l : List (Addr × Obj)}, (∀ p ∈ l, p.1 ≠ d) → AllNeA d l
  | [], _ => trivial
  | _ :: _, h => ⟨h _ (.head _), allNeA_of fun q hq => h q (.tail _ hq)⟩
theorem allNeA_lt {d : Addr} : ∀ {l : List (Addr × Obj)}, AllLt d l → AllNeA d l
  | [], _ => trivial
  | _ :: _, h => ⟨Nat.ne_of_lt h.1, allNeA_lt h.2⟩
theorem allNeA_lts {d e : Addr} (h : @LT.lt Nat _ e d) : ∀ {l : List (Addr × Obj)}, AllLt e l → AllNeA d l
  | [], _ => trivial
  | _ :: _, k => ⟨Nat.ne_of_lt (Nat.lt_trans k.1 h), allNeA_lts h k.2⟩
theorem neA_of_lt {d e : Addr} (h : @LT.lt Nat _ e d) : @Ne Addr e d := Nat.ne_of_lt h
theorem neA {d e : Addr} (h : @Ne Nat e d) : @Ne Addr e d := h
theorem cells_ne (n : Nat) : (@Ne Addr (n + 1) (n + 1 + 1)) ∧ (@Ne Addr (n + 1) (n + 1 + 1 + 1)) ∧ (@Ne Addr (n + 1) (n + 1 + 1 + 1 + 1)) ∧ (@Ne Addr (n + 1 + 1) (n + 1 + 1 + 1)) ∧ (@Ne Addr (n + 1 + 1) (n + 1 + 1 + 1 + 1)) ∧ (@Ne Addr (n + 1 + 1 + 1) (n + 1 + 1 + 1 + 1)) := by
  refine ⟨?_, ?_, ?_, ?_, ?_, ?_⟩ <;> (refine neN ?_; omega)
theorem LwOk.cells {n : Nat} {rl : Addr} {ro o1 o3 o4 : Obj} {c : LS} (ok9 : LwOk rl ro (n + 1) o1 (n + 1 + 1) (n + 1 + 1 + 1) o3 (n + 1 + 1 + 1 + 1) o4 c) : (@Ne Addr (n + 1) (n + 1 + 1)) ∧ (@Ne Addr (n + 1) (n + 1 + 1 + 1)) ∧ (@Ne Addr (n + 1) (n + 1 + 1 + 1 + 1)) ∧ (@Ne Addr (n + 1 + 1) (n + 1 + 1 + 1)) ∧ (@Ne Addr (n + 1 + 1) (n + 1 + 1 + 1 + 1)) ∧ (@Ne Addr (n + 1 + 1 + 1) (n + 1 + 1 + 1 + 1)) := cells_ne n
theorem tabs_ne : (@Ne Addr 55 48) ∧ (@Ne Addr 55 76) ∧ (@Ne Addr 48 76) := by decide
theorem TOk.nesA {news : List (Addr × Obj)} {p55 : Array Value} {c55 : Addr} {o55 : Obj} {p48 : Array Value} {c48 : Addr} {o48 : Obj} {p76 : Array Value} {c76 : Addr} {o76 : Obj} (T : TOk news p55 c55 o55 p48 c48 o48 p76 c76 o76) :
    (@Ne Addr c55 55) ∧ (@Ne Addr c55 48) ∧ (@Ne Addr c55 76) ∧ (@Ne Addr c48 55) ∧ (@Ne Addr c48 48) ∧ (@Ne Addr c48 76) ∧ (@Ne Addr c76 55) ∧ (@Ne Addr c76 48) ∧ (@Ne Addr c76 76) ∧ (@Ne Addr c55 c48) ∧ (@Ne Addr c55 c76) ∧ (@Ne Addr c48 c76) :=
  ⟨T.n1, T.n2, T.n3, T.n4, T.n5, T.n6, T.n7, T.n8, T.n9, T.m1, T.m2, T.m3⟩
theorem own_neA {a b c d D : Addr} {P : Prop} (h : @Ne Addr a D ∧ @Ne Addr b D ∧ @Ne Addr c D ∧ @Ne Addr d D ∧ P) : @Ne Addr a D ∧ @Ne Addr b D ∧ @Ne Addr c D ∧ @Ne Addr d D := ⟨h.1, h.2.1, h.2.2.1, h.2.2.2.1⟩
/-- what one turn's first search gives -/
theorem lkL_turn {m x pl : Int} {ns : List Int} {its : List Value} (lf : LFacts m x) (R : srch (fun v => decide (v < x)) (rowOf m) 16 0 m = (pl, ns)) (I : IntsAre its ns) :
    ns = (lkL' m x).2 ∧ its.length = ns.length ∧ pl = (((rowOf m).filter (fun k => decide (k < x))).length : Int) ∧ (nbits m : Int) - 1 ≤ (ns.length : Int) ∧ (ns.length : Int) ≤ (nbits m : Int) := by
  have e : lkL' m x = (pl, ns) := R
  have f1 := lf.f1
  have f2 := lf.f2
  have f3 := lf.f3
  rw [e] at f1 f2 f3 ⊢
  exact ⟨rfl, I.length, f1, f2, f3⟩
theorem lkR_turn {m x pl : Int} {ns : List Int} {its : List Value} (lf : LFacts m x) (R : srch (fun v => decide (v ≤ x)) (rowOf m) 16 0 m = (pl, ns)) (I : IntsAre its ns) :
    ns = (lkR' m x).2 ∧ its.length = ns.length ∧ pl = (((rowOf m).filter (fun k => decide (k ≤ x))).length : Int) ∧ (nbits m : Int) - 1 ≤ (ns.length : Int) ∧ (ns.length : Int) ≤ (nbits m : Int) := by
  have e : lkR' m x = (pl, ns) := R
  have f1 := lf.f4
  have f2 := lf.f5
  have f3 := lf.f6
  rw [e] at f1 f2 f3 ⊢
  exact ⟨rfl, I.length, f1, f2, f3⟩
theorem lf_mem {m x : Int} {ns ms : List Int} (lf : LFacts m x) (h : x ∈ rowOf m) (e1 : ns = (lkL' m x).2) (e2 : ms = (lkR' m x).2) : x ∈ ns ++ ms := by
  subst e1 e2
  exact lf.f7 h
theorem wsum_odd' {m x : Int} {i : Nat} {ns : List Int} (hx : x = (0 - 1) + (i : Int)) (e : ns = (lkL' m x).2) (h : x % 2 = 1) : wsum m i + (ns.length : Int) = wsum m (i + 1) := by
  subst e
  exact wsum_odd hx h
theorem unrEnd_law {h₀ : Heap} {L I : Addr} {it : Obj} {s₁ : Shared} {h' : Heap} {tk : Nat} {m₀ m' : Str → Option Value} {all big : List (Addr × Obj)} {p55 : Array Value} {c55 : Addr} {o55 : Obj} {p48 : Array Value} {c48 : Addr} {o48 : Obj} {p76 : Array Value} {c76 : Addr} {o76 : Obj}
    {W : Nat → Int} {rl : Addr} {ro : Obj} {a1 : Addr} {o1 : Obj} {a2 a3 : Addr} {o2 o3 : Obj} {a4 : Addr} {o4 : Obj} {i : Nat} {v2 : Option Value} {t : Tok} {V : Int}
    (F : Fr h₀ L h' m') (N : News h₀ L h' all) (T : TOk big p55 c55 o55 p48 c48 o48 p76 c76 o76)
    (mI : (I, it) ∈ all) (m55 : (55, tabObj p55) ∈ all) (mc55 : (c55, o55) ∈ all) (m48 : (48, tabObj p48) ∈ all) (mc48 : (c48, o48) ∈ all) (m76 : (76, tabObj p76) ∈ all) (mc76 : (c76, o76) ∈ all)
    (m0 : (rl, ro) ∈ all ∧ (rl, ro) ∈ big) (m1 : (a1, o1) ∈ all ∧ (a1, o1) ∈ big) (m2 : (a2, o2) ∈ all ∧ (a2, o2) ∈ big) (m3 : (a3, o3) ∈ all ∧ (a3, o3) ∈ big) (m4 : (a4, o4) ∈ all ∧ (a4, o4) ∈ big)
    (n55 : @Ne Addr 55 I) (nc55 : @Ne Addr c55 I) (n48 : @Ne Addr 48 I) (nc48 : @Ne Addr c48 I) (n76 : @Ne Addr 76 I) (nc76 : @Ne Addr c76 I) (nr : @Ne Addr rl I) (n1 : @Ne Addr a1 I) (n2 : @Ne Addr a2 I) (n3 : @Ne Addr a3 I) (n4 : @Ne Addr a4 I)
    (d2 : o2.data = .cell v2) (hw : m' (Str.ofString "whole") = some (.int V t)) (hV : V = W i)
    (hm : ∀ z, z ≠ Str.ofString "whole" → z ≠ Str.ofString "place" → z ≠ Str.ofString "looked" → z ≠ Str.ofString "right" → z ≠ Str.ofString "seen" → m' z = m₀ z) :
    UnrEnd h₀ L s₁ I it (lwJ m₀ W rl ro a1 o1 a2 a3 o3 a4 o4 i) { s₁ with heap := h', toks := tk } := by
  have own : ∀ q ∈ lwOwn rl ro a1 o1 a2 o2 a3 o3 a4 o4, q ∈ all ∧ q ∈ big := List.forall_mem_cons.mpr ⟨m0, List.forall_mem_cons.mpr ⟨m1, List.forall_mem_cons.mpr ⟨m2, List.forall_mem_cons.mpr ⟨m3, List.forall_mem_cons.mpr ⟨m4, List.forall_mem_nil _⟩⟩⟩⟩⟩
  refine ⟨h', tk, m', lwLed rl ro a1 o1 a2 a3 o3 a4 o4 ⟨o2, v2, t, p55, c55, o55, p48, c48, o48, p76, c76, o76⟩, rfl, F, ?_, ?_, ⟨o2, v2, t, p55, c55, o55, p48, c48, o48, p76, c76, o76⟩, ⟨T.sub fun q hq => (own q hq).2, d2⟩, fun q hq => hq, hV ▸ hw, hm⟩
  · refine List.forall_mem_cons.mpr ⟨N _ mI, List.forall_mem_cons.mpr ⟨N _ m55, List.forall_mem_cons.mpr ⟨N _ mc55, List.forall_mem_cons.mpr ⟨N _ m48, List.forall_mem_cons.mpr ⟨N _ mc48, List.forall_mem_cons.mpr ⟨N _ m76, List.forall_mem_cons.mpr ⟨N _ mc76, ?_⟩⟩⟩⟩⟩⟩⟩
    exact fun q hq => N q (own q hq).1
  · exact List.forall_mem_cons.mpr ⟨n55, List.forall_mem_cons.mpr ⟨nc55, List.forall_mem_cons.mpr ⟨n48, List.forall_mem_cons.mpr ⟨nc48, List.forall_mem_cons.mpr ⟨n76, List.forall_mem_cons.mpr ⟨nc76, List.forall_mem_cons.mpr ⟨nr, List.forall_mem_cons.mpr ⟨n1, List.forall_mem_cons.mpr ⟨n2, List.forall_mem_cons.mpr ⟨n3, List.forall_mem_cons.mpr ⟨n4, List.forall_mem_nil _⟩⟩⟩⟩⟩⟩⟩⟩⟩⟩⟩
end Mine
/- Filt -/
namespace Mine
theorem ne_intsE {prog : Program} {w : World} {A : Around} {E : Value → Shared → Prop} {s : Shared} {a b : Addr} {vs us : List Value} {ns ms : List Int} {n n' : Nat} {h₀ : Heap} {L : Addr} {news : List (Addr × Obj)} {Q : Value → Shared → Prop} (N : News h₀ L s.heap news) (hl : (a, listOf vs.toArray n) ∈ news) (hl' : (b, listOf us.toArray n') ∈ news) (hi : IntsAre vs ns) (hi' : IntsAre us ms) (e : ns = ms) (hu : A.units + 64 < cLine)
    (h : Q (.bool false) s) : wpAny (model prog w) A (compareOp .NotEq (.ref a) (.ref b)) Q E s :=
  ne_intsK (News.isList N hl) hi (News.isList N hl') hi' hu (by subst e; simpa using h)
theorem fmod_any {prog : Program} {w : World} {A : Around} {E : Value → Shared → Prop} {s : Shared} {Q : Value → Shared → Prop} {a n : Int} {t u : Tok} (hk : 0 < n) (h : ∀ k : Int, 0 ≤ k → k < n → Q (.int k s.toks) { s with toks := s.toks + 1 }) : wpAny (model prog w) A (binaryOp .Mod (.int a t) (.int n u)) Q E s := by
  refine mod_int' (by omega) ?_
  rw [Int.fmod_eq_emod_of_nonneg _ (by omega)]
  exact h _ (Int.emod_nonneg _ (by omega)) (Int.emod_lt_of_pos _ hk)
theorem any_mem {k : Int} : ∀ {ns : List Int}, ns.any (· == k) = true ↔ k ∈ ns := by
  intro ns
  rw [List.any_eq_true]
  constructor
  · rintro ⟨x, hx, e⟩
    have := eq_of_beq e
    exact this ▸ hx
  · exact fun h => ⟨k, h, by simp⟩
theorem in_split {prog : Program} {w : World} {A : Around} {E : Value → Shared → Prop} {s : Shared} {h₀ : Heap} {L : Addr} {news : List (Addr × Obj)} {Q : Value → Shared → Prop} {l : Addr} {vs : List Value} {ns : List Int} {n : Nat} {k : Int} {t : Tok} (N : News h₀ L s.heap news) (hm : (l, listOf vs.toArray n) ∈ news) (hi : IntsAre vs ns)
    (h1 : k ∈ ns → Q (.bool true) s) (h2 : ¬ k ∈ ns → Q (.bool false) s) : wpAny (model prog w) A (compareOp .In (.int k t) (.ref l)) Q E s := by
  refine in_list_ints (News.isList N hm) hi ?_
  by_cases h : k ∈ ns
  · rw [any_mem.mpr h]; exact h1 h
  · rw [Bool.eq_false_iff.mpr (fun e => h (any_mem.mp e))]; exact h2 h
theorem notin_yes {prog : Program} {w : World} {A : Around} {E : Value → Shared → Prop} {s : Shared} {h₀ : Heap} {L : Addr} {news : List (Addr × Obj)} {Q : Value → Shared → Prop} {l : Addr} {vs : List Value} {ns : List Int} {n : Nat} {k : Int} {t : Tok} (N : News h₀ L s.heap news) (hm : (l, listOf vs.toArray n) ∈ news) (hi : IntsAre vs ns)
    (e : k ∈ ns) (h : Q (.bool false) s) : wpAny (model prog w) A (compareOp .NotIn (.int k t) (.ref l)) Q E s := by
  refine notin_list_ints (News.isList N hm) hi ?_
  rw [any_mem.mpr e]
  exact h
theorem notin_any {prog : Program} {w : World} {A : Around} {E : Value → Shared → Prop} {s : Shared} {h₀ : Heap} {L : Addr} {news : List (Addr × Obj)} {Q : Value → Shared → Prop} {l : Addr} {vs : List Value} {ns : List Int} {n : Nat} {k : Int} {t : Tok} (N : News h₀ L s.heap news) (hm : (l, listOf vs.toArray n) ∈ news) (hi : IntsAre vs ns)
    (h : Q (.bool (!(ns.any (· == k)))) s) : wpAny (model prog w) A (compareOp .NotIn (.int k t) (.ref l)) Q E s := notin_list_ints (News.isList N hm) hi h
theorem truthy_nil {prog : Program} {w : World} {A : Around} {E : Value → Shared → Prop} {s : Shared} {h₀ : Heap} {L : Addr} {news : List (Addr × Obj)} {Q : Bool → Shared → Prop} {l : Addr} {vs : List Value} {ns : List Int} {n : Nat} (N : News h₀ L s.heap news) (hm : (l, listOf vs.toArray n) ∈ news) (hi : IntsAre vs ns) (e : ns = [])
    (h : Q false { s with toks := s.toks + 1 + 1 }) : wpAny (model prog w) A (truthy (.ref l)) Q E s := by
  subst e
  have hv : vs = [] := List.eq_nil_of_length_eq_zero hi.length
  subst hv
  exact wpAny_truthy_list (News.isList N hm) (by decide) (by simpa using h)
/-- a test of a filter is done: its truth, and nothing changed -/
def FTest (h₀ : Heap) (L : Addr) (m : Str → Option Value) (s₁ : Shared) (led : List (Addr × Obj)) (r b : Bool) (s₂ : Shared) : Prop :=
  b = r ∧ ∃ h' tk, s₂ = { s₁ with heap := h', toks := tk } ∧ Fr h₀ L h' m ∧ News h₀ L h' led
theorem ftest_intro {h₀ : Heap} {L : Addr} {m : Str → Option Value} {s₁ : Shared} {led all : List (Addr × Obj)} {r b : Bool} {h' : Heap} {tk : Nat} (F : Fr h₀ L h' m) (N : News h₀ L h' all) (e : b = r) (sub : ∀ q ∈ led, q ∈ all) :
    FTest h₀ L m s₁ led r b { s₁ with heap := h', toks := tk } := ⟨e, h', tk, rfl, F, fun q hq => N q (sub q hq)⟩
section
variable {prog : Program} {w : World} {A : Around} {h₀ : Heap} {L : Addr} {m : Str → Option Value} {env : Env} {ct : PySem.Expr} {x : Str} {xp : Pos} {scope : Scope} {cl : List (Str × Addr)} {s : Shared} {Fin : List Value → List (Addr × Obj) → Prop} {news : List (Addr × Obj)}
theorem filt_rest {ax : Addr} {vs : List Value} {ns : List Int} {kk : Nat} (p : Int → Bool) (hi : IntsAre vs ns) (hm : (ax, ({ cls := .type "list", data := .seq vs.toArray kk } : Obj)) ∈ news)
    (turn : ∀ k t I oI C oC D m₂ ys h tk (E' : Value → Shared → Prop), k ∈ ns → LCg.NsObj oC m₂ → m₂ x = some (.int k t) → Fr h₀ L h m → News h₀ L h ((I, oI) :: (C, oC) :: (D, LCg.lst ys) :: news) → LCg.Off3 I C D news → ((@Ne Nat I C) ∧ (@Ne Nat I D) ∧ (@Ne Nat C D)) →
      wpAny (model prog w) A (isTrue ct (compEnvC scope cl C env) (eval ct (compEnvC scope cl C env))) (fun b s' => FTest h₀ L m { s with heap := h, toks := tk } ((I, oI) :: (C, oC) :: (D, LCg.lst ys) :: news) (p k) b s') E' { s with heap := h, toks := tk })
    (fin : ∀ ys, IntsAre ys (ns.filter p) → ys.length ≤ vs.length → Fin ys news)
    (hk : ∀ C, (compEnvC scope cl C env).scope.kind = .function := by intro _; rfl) (hl : ∀ C, (compEnvC scope cl C env).kindOf x = some .local := by intro _; rfl) (hd : (x == ("__debug__" : Str)) = false := by decide) :
    LCt.CompRestT prog w A h₀ L m env ct (.Name x xp) x scope cl s (LCg.SrcAt h₀ ax vs.toArray) (fun i v => vs.toArray[i]? = some v) Fin vs.toArray.size 0 [] news := by
  have hlen := hi.length
  have key : ∀ (j i : Nat) (ys : List Value), i + j = vs.toArray.size → IntsAre ys ((ns.take i).filter p) → ys.length ≤ i → LCt.CompRestT prog w A h₀ L m env ct (.Name x xp) x scope cl s (LCg.SrcAt h₀ ax vs.toArray) (fun i v => vs.toArray[i]? = some v) Fin j i ys news := by
    intro j
    induction j with
    | zero =>
      intro i ys hi' hy hyl
      have e : i = ns.length := by rw [← hlen, ← List.size_toArray]; omega
      subst e
      rw [List.take_length] at hy
      exact LCt.CompRestT.zero (fin ys hy (by omega))
    | succ j ih =>
      intro i ys hi' hy hyl
      refine LCt.CompRestT.succ ?_
      intro v I oI C oC D m₂ h tk E' hv hC hx F N off ne
      obtain ⟨k, t, rfl, hk'⟩ := IntsAre.at hi i v (by simpa using hv)
      refine wpAny_mono (turn k t I oI C oC D m₂ ys h tk E' (List.mem_of_getElem? hk') hC hx F N off ne) (fun b s₂ hq => ?_) fun _ _ e => e
      obtain ⟨rfl, h', tk', rfl, F', N'⟩ := hq
      have hS : LCg.SrcAt h₀ ax vs.toArray news := .inr ⟨_, hm, rfl, _, rfl⟩
      cases hb : p k with
      | true =>
        simp only [if_true]
        refine LCgL.ld_own N' (.tail _ (.head _)) hC hx ?_ (hk C) (hl C) hd
        refine ⟨h', tk', news, rfl, F', N', off, hS, ?_⟩
        refine ih (i + 1) _ (by omega) ?_ (by simp; omega)
        rw [List.take_add_one, hk', Option.toList_some, List.filter_append]
        refine IntsAre.append hy ?_
        rw [List.filter_cons_of_pos hb, List.filter_nil]
        exact .cons k t .nil
      | false =>
        simp only [Bool.false_eq_true, if_false]
        refine ⟨h', tk', news, rfl, F', N', off, hS, ?_⟩
        refine ih (i + 1) _ (by omega) ?_ (by omega)
        rw [List.take_add_one, hk', Option.toList_some, List.filter_append, List.filter_cons_of_neg (by simp [hb]), List.filter_nil, List.append_nil]
        exact hy
  exact key _ 0 [] (by omega) (by simp only [List.take_zero, List.filter_nil]; exact .nil) (Nat.le_refl _)
theorem filt_src {ax : Addr} {vs : List Value} {ns : List Int} {kk : Nat} {FinS : Shared → List Value → List (Addr × Obj) → Prop} (p : Int → Bool) (hh : A.handled = none) (F : Fr h₀ L s.heap m) (N : News h₀ L s.heap news) (hi : IntsAre vs ns) (hm : (ax, ({ cls := .type "list", data := .seq vs.toArray kk } : Obj)) ∈ news) (hsz : ns.length ≤ 50)
    (turn : ∀ g k t I oI C oC D m₂ ys h tk (E' : Value → Shared → Prop), k ∈ ns → LCg.NsObj oC m₂ → m₂ x = some (.int k t) → Fr h₀ L h m → News h₀ L h ((I, oI) :: (C, oC) :: (D, LCg.lst ys) :: news) → LCg.Off3 I C D news → ((@Ne Nat I C) ∧ (@Ne Nat I D) ∧ (@Ne Nat C D)) →
      wpAny (model prog w) A (isTrue ct (compEnvC scope cl C env) (eval ct (compEnvC scope cl C env))) (fun b s' => FTest h₀ L m { { s with heap := g } with heap := h, toks := tk } ((I, oI) :: (C, oC) :: (D, LCg.lst ys) :: news) (p k) b s') E' { { s with heap := g } with heap := h, toks := tk })
    (fin : ∀ g ys, IntsAre ys (ns.filter p) → ys.length = (ns.filter p).length → (ns.filter p).length ≤ 50 → FinS { s with heap := g } ys news)
    (hk : ∀ C, (compEnvC scope cl C env).scope.kind = .function := by intro _; rfl) (hl : ∀ C, (compEnvC scope cl C env).kindOf x = some .local := by intro _; rfl) (hd : (x == ("__debug__" : Str)) = false := by decide) :
    LCt.CompSrcT prog w A h₀ L m env ct (.Name x xp) x scope cl FinS (.ref ax) s :=
  LCt.CompSrcT.ledger hh F N hm (by rw [List.size_toArray, PySem.sizeLine_eq, hi.length]; omega) fun g => filt_rest p hi hm (turn g) (fun ys h1 _ => fin g ys h1 h1.length (Nat.le_trans (List.length_filter_le ..) hsz)) hk hl hd
theorem filt_lt {ca cb : PySem.Expr} {cp : Pos} {y : Int} {ax : Addr} {vs : List Value} {ns : List Int} {kk : Nat} {FinS : Shared → List Value → List (Addr × Obj) → Prop} (hct9 : ct = .Compare ca [.Lt] [cb] cp) (hh : A.handled = none) (F : Fr h₀ L s.heap m) (N : News h₀ L s.heap news) (hi : IntsAre vs ns) (hm : (ax, ({ cls := .type "list", data := .seq vs.toArray kk } : Obj)) ∈ news) (hsz : ns.length ≤ 50)
    (turn : ∀ g k t I oI C oC D m₂ ys h tk (E' : Value → Shared → Prop), k ∈ ns → LCg.NsObj oC m₂ → m₂ x = some (.int k t) → Fr h₀ L h m → News h₀ L h ((I, oI) :: (C, oC) :: (D, LCg.lst ys) :: news) → LCg.Off3 I C D news → ((@Ne Nat I C) ∧ (@Ne Nat I D) ∧ (@Ne Nat C D)) →
      wpAny (model prog w) A (isTrue ct (compEnvC scope cl C env) (eval ct (compEnvC scope cl C env))) (fun b s' => FTest h₀ L m { { s with heap := g } with heap := h, toks := tk } ((I, oI) :: (C, oC) :: (D, LCg.lst ys) :: news) (decide (k < y)) b s') E' { { s with heap := g } with heap := h, toks := tk })
    (fin : ∀ g ys, IntsAre ys (ns.filter (fun k => decide (k < y))) → ys.length = (ns.filter (fun k => decide (k < y))).length → (ns.filter (fun k => decide (k < y))).length ≤ 50 → FinS { s with heap := g } ys news)
    (hk : ∀ C, (compEnvC scope cl C env).scope.kind = .function := by intro _; rfl) (hl : ∀ C, (compEnvC scope cl C env).kindOf x = some .local := by intro _; rfl) (hd : (x == ("__debug__" : Str)) = false := by decide) :
    LCt.CompSrcT prog w A h₀ L m env ct (.Name x xp) x scope cl FinS (.ref ax) s :=
  filt_src (fun k => decide (k < y)) hh F N hi hm hsz turn fin hk hl hd
theorem filt_le {ca cb : PySem.Expr} {cp : Pos} {y : Int} {ax : Addr} {vs : List Value} {ns : List Int} {kk : Nat} {FinS : Shared → List Value → List (Addr × Obj) → Prop} (hct9 : ct = .Compare ca [.LtE] [cb] cp) (hh : A.handled = none) (F : Fr h₀ L s.heap m) (N : News h₀ L s.heap news) (hi : IntsAre vs ns) (hm : (ax, ({ cls := .type "list", data := .seq vs.toArray kk } : Obj)) ∈ news) (hsz : ns.length ≤ 50)
    (turn : ∀ g k t I oI C oC D m₂ ys h tk (E' : Value → Shared → Prop), k ∈ ns → LCg.NsObj oC m₂ → m₂ x = some (.int k t) → Fr h₀ L h m → News h₀ L h ((I, oI) :: (C, oC) :: (D, LCg.lst ys) :: news) → LCg.Off3 I C D news → ((@Ne Nat I C) ∧ (@Ne Nat I D) ∧ (@Ne Nat C D)) →
      wpAny (model prog w) A (isTrue ct (compEnvC scope cl C env) (eval ct (compEnvC scope cl C env))) (fun b s' => FTest h₀ L m { { s with heap := g } with heap := h, toks := tk } ((I, oI) :: (C, oC) :: (D, LCg.lst ys) :: news) (decide (k ≤ y)) b s') E' { { s with heap := g } with heap := h, toks := tk })
    (fin : ∀ g ys, IntsAre ys (ns.filter (fun k => decide (k ≤ y))) → ys.length = (ns.filter (fun k => decide (k ≤ y))).length → (ns.filter (fun k => decide (k ≤ y))).length ≤ 50 → FinS { s with heap := g } ys news)
    (hk : ∀ C, (compEnvC scope cl C env).scope.kind = .function := by intro _; rfl) (hl : ∀ C, (compEnvC scope cl C env).kindOf x = some .local := by intro _; rfl) (hd : (x == ("__debug__" : Str)) = false := by decide) :
    LCt.CompSrcT prog w A h₀ L m env ct (.Name x xp) x scope cl FinS (.ref ax) s :=
  filt_src (fun k => decide (k ≤ y)) hh F N hi hm hsz turn fin hk hl hd
theorem filt_ni {ca cb : PySem.Expr} {cp : Pos} {r : List Int} {ax : Addr} {vs : List Value} {ns : List Int} {kk : Nat} {FinS : Shared → List Value → List (Addr × Obj) → Prop} (hct9 : ct = .Compare ca [.NotIn] [cb] cp) (hh : A.handled = none) (F : Fr h₀ L s.heap m) (N : News h₀ L s.heap news) (hi : IntsAre vs ns) (hm : (ax, ({ cls := .type "list", data := .seq vs.toArray kk } : Obj)) ∈ news) (hsz : ns.length ≤ 50)
    (turn : ∀ g k t I oI C oC D m₂ ys h tk (E' : Value → Shared → Prop), k ∈ ns → LCg.NsObj oC m₂ → m₂ x = some (.int k t) → Fr h₀ L h m → News h₀ L h ((I, oI) :: (C, oC) :: (D, LCg.lst ys) :: news) → LCg.Off3 I C D news → ((@Ne Nat I C) ∧ (@Ne Nat I D) ∧ (@Ne Nat C D)) →
      wpAny (model prog w) A (isTrue ct (compEnvC scope cl C env) (eval ct (compEnvC scope cl C env))) (fun b s' => FTest h₀ L m { { s with heap := g } with heap := h, toks := tk } ((I, oI) :: (C, oC) :: (D, LCg.lst ys) :: news) (!(r.any (· == k))) b s') E' { { s with heap := g } with heap := h, toks := tk })
    (fin : ∀ g ys, IntsAre ys (ns.filter (fun k => !(r.any (· == k)))) → ys.length = (ns.filter (fun k => !(r.any (· == k)))).length → (ns.filter (fun k => !(r.any (· == k)))).length ≤ 50 → FinS { s with heap := g } ys news)
    (hk : ∀ C, (compEnvC scope cl C env).scope.kind = .function := by intro _; rfl) (hl : ∀ C, (compEnvC scope cl C env).kindOf x = some .local := by intro _; rfl) (hd : (x == ("__debug__" : Str)) = false := by decide) :
    LCt.CompSrcT prog w A h₀ L m env ct (.Name x xp) x scope cl FinS (.ref ax) s :=
  filt_src (fun k => !(r.any (· == k))) hh F N hi hm hsz turn fin hk hl hd
end
end Mine
/- Law2 -/
namespace Mine
abbrev ThreeOf (m x : Int) : Prop := x = 0 - 1 ∨ x = m ∨ x = 2 * m
abbrev lwOwn2 (ax : Addr) (lo : Obj) (rl : Addr) (ro : Obj) (a1 : Addr) (o1 : Obj) (a2 : Addr) (o2 : Obj) (a3 : Addr) (o3 : Obj) (a4 : Addr) (o4 : Obj) : List (Addr × Obj) := [(ax, lo), (rl, ro), (a1, o1), (a2, o2), (a3, o3), (a4, o4)]
abbrev lwLed2 (ax : Addr) (lo : Obj) (rl : Addr) (ro : Obj) (a1 : Addr) (o1 : Obj) (a2 a3 : Addr) (o3 : Obj) (a4 : Addr) (o4 : Obj) (c : LS) : List (Addr × Obj) :=
  [(55, tabObj c.p55), (c.c55, c.o55), (48, tabObj c.p48), (c.c48, c.o48), (76, tabObj c.p76), (c.c76, c.o76), (ax, lo), (rl, ro), (a1, o1), (a2, c.o2), (a3, o3), (a4, o4)]
structure LwOk2 (ax : Addr) (lo : Obj) (rl : Addr) (ro : Obj) (a1 : Addr) (o1 : Obj) (a2 a3 : Addr) (o3 : Obj) (a4 : Addr) (o4 : Obj) (c : LS) : Prop where
  tk : TOk (lwOwn2 ax lo rl ro a1 o1 a2 c.o2 a3 o3 a4 o4) c.p55 c.c55 c.o55 c.p48 c.c48 c.o48 c.p76 c.c76 c.o76
  d2 : c.o2.data = .cell c.v2
def lwJ2 (m₀ : Str → Option Value) (W : Int) (ax : Addr) (lo : Obj) (rl : Addr) (ro : Obj) (a1 : Addr) (o1 : Obj) (a2 a3 : Addr) (o3 : Obj) (a4 : Addr) (o4 : Obj) (m : Str → Option Value) (nx : List (Addr × Obj)) : Prop :=
  ∃ c : LS, LwOk2 ax lo rl ro a1 o1 a2 a3 o3 a4 o4 c ∧ (∀ q ∈ lwLed2 ax lo rl ro a1 o1 a2 a3 o3 a4 o4 c, q ∈ nx) ∧ m (Str.ofString "whole") = some (.int W c.tw) ∧
    (∀ z, z ≠ Str.ofString "whole" → z ≠ Str.ofString "place" → z ≠ Str.ofString "looked" → z ≠ Str.ofString "right" → z ≠ Str.ofString "seen" → m z = m₀ z)
section
variable {l l1 l2 l3 l4 l5 rest : List (Addr × Obj)} {p55 : Array Value} {c55 : Addr} {o55 : Obj} {p48 : Array Value} {c48 : Addr} {o48 : Obj} {p76 : Array Value} {c76 : Addr} {o76 : Obj} {m₀ m' : Str → Option Value} {W : Int} {ax : Addr} {lo : Obj} {rl : Addr} {ro : Obj} {a1 : Addr} {o1 : Obj} {a2 a3 : Addr} {o2 o3 : Obj} {a4 : Addr} {o4 : Obj} {v2 : Option Value} {t : Tok}
theorem lw_intro2
    (k1 : CutI 55 (tabObj p55) l l1) (S55 : TabSt p55 c55 o55 (Str.ofString "_digits2int.<locals>.inner") 88 4) (k2 : CutI c55 o55 l1 l2) (k3 : CutI 48 (tabObj p48) l2 l3) (S48 : TabSt p48 c48 o48 (Str.ofString "_int2digits.<locals>.inner") 73 4) (k4 : CutI c48 o48 l3 l4)
    (k5 : CutI 76 (tabObj p76) l4 l5) (S76 : TabSt p76 c76 o76 (Str.ofString "_law_looked.<locals>.<lambda>") 120 47) (k6 : CutI c76 o76 l5 rest)
    (mx : (ax, lo) ∈ rest) (m0 : (rl, ro) ∈ rest) (m1 : (a1, o1) ∈ rest) (m2 : (a2, o2) ∈ rest) (m3 : (a3, o3) ∈ rest) (m4 : (a4, o4) ∈ rest) (d2 : o2.data = .cell v2)
    (hw : m' (Str.ofString "whole") = some (.int W t))
    (hm : ∀ z, z ≠ Str.ofString "whole" → z ≠ Str.ofString "place" → z ≠ Str.ofString "looked" → z ≠ Str.ofString "right" → z ≠ Str.ofString "seen" → m' z = m₀ z) :
    lwJ2 m₀ W ax lo rl ro a1 o1 a2 a3 o3 a4 o4 m' l := by
  obtain ⟨TK, sub⟩ := tok_cut k1 S55 k2 k3 S48 k4 k5 S76 k6
  have h5 : ∀ q ∈ lwOwn2 ax lo rl ro a1 o1 a2 o2 a3 o3 a4 o4, q ∈ rest := by
    refine List.forall_mem_cons.mpr ⟨mx, List.forall_mem_cons.mpr ⟨m0, List.forall_mem_cons.mpr ⟨m1, List.forall_mem_cons.mpr ⟨m2, List.forall_mem_cons.mpr ⟨m3, List.forall_mem_cons.mpr ⟨m4, List.forall_mem_nil _⟩⟩⟩⟩⟩⟩
  refine ⟨⟨o2, v2, t, p55, c55, o55, p48, c48, o48, p76, c76, o76⟩, ⟨TK.sub h5, d2⟩, ?_, hw, hm⟩
  intro q hq
  have : q ∈ (55, tabObj p55) :: (c55, o55) :: (48, tabObj p48) :: (c48, o48) :: (76, tabObj p76) :: (c76, o76) :: rest := by
    rcases List.mem_cons.mp hq with e | hq
    · exact e ▸ .head _
    rcases List.mem_cons.mp hq with e | hq
    · exact e ▸ .tail _ (.head _)
    rcases List.mem_cons.mp hq with e | hq
    · exact e ▸ .tail _ (.tail _ (.head _))
    rcases List.mem_cons.mp hq with e | hq
    · exact e ▸ .tail _ (.tail _ (.tail _ (.head _)))
    rcases List.mem_cons.mp hq with e | hq
    · exact e ▸ .tail _ (.tail _ (.tail _ (.tail _ (.head _))))
    rcases List.mem_cons.mp hq with e | hq
    · exact e ▸ .tail _ (.tail _ (.tail _ (.tail _ (.tail _ (.head _)))))
    · exact .tail _ (.tail _ (.tail _ (.tail _ (.tail _ (.tail _ (h5 q hq))))))
  exact sub q this
variable {prog : Program} {w : World} {A : Around} {E : Value → Shared → Prop} {s : Shared} {env : Env} {h₀ : Heap} {x : Str} {xp : Pos} {body : List Stmt} {Q : Flow → Shared → Prop}
theorem items_inv {I : Addr} {keep : List (Addr × Obj)} {J : (Str → Option Value) → List (Addr × Obj) → Prop} :
    ∀ {vs : List Value},
    (∀ v m₁ news₁ h tk (it : Obj), v ∈ vs → J m₁ news₁ → (∀ p ∈ news₁, p.1 ≠ I) → Fr h₀ env.locals h m₁ → News h₀ env.locals h ((I, it) :: news₁) →
      wpAny (model prog w) A (assign (.Name x xp) env v) (fun _ s₃ => wpAny (model prog w) A (execs body env) (UnrPost h₀ env.locals { s with heap := h, toks := tk } I it (fun m' n' => SubL keep n' ∧ J m' n') Q) E s₃) E { s with heap := h, toks := tk }) →
    (∀ h tk m' news', Fr h₀ env.locals h m' → News h₀ env.locals h news' → J m' news' → Q .next { s with heap := h, toks := tk }) →
    ∀ {m₀ : Str → Option Value} {news : List (Addr × Obj)}, J m₀ news → (∀ p ∈ news, p.1 ≠ I) → ItemsRest prog w A E h₀ env (.Name x xp) body Q s [(I, "list_iterator")] keep (vs.map .val) m₀ news
  | [], _, done, _, _, hJ, _ => ItemsRest.zero fun h tk F N => done h tk _ _ F N hJ
  | v :: r, turn, done, _, _, hJ, off => by
    refine ItemsRest.val fun h tk F => AllObj.cons fun o _ => AllObj.nil fun N => ?_
    refine wpAny_mono (turn v _ _ h tk o (.head _) hJ off F N) (fun _ s₂ h₂ => wpAny_mono h₂ (fun f s₃ p => ?_) fun _ _ e => e) fun _ _ e => e
    have fin : UnrEnd h₀ env.locals { s with heap := h, toks := tk } I o (fun m' n' => SubL keep n' ∧ J m' n') s₃ → UnrEndW h₀ env.locals { s with heap := h, toks := tk } [(I, o)] (fun m' n' => SubL keep n' ∧ ItemsRest prog w A E h₀ env (.Name x xp) body Q s [(I, "list_iterator")] keep (r.map .val) m' n') s₃ := by
      rintro ⟨h', tk', m', news', e, F', N', off', hk, hJ'⟩
      exact ⟨h', tk', m', news', e, F', N', fun p hp q hq => by rw [List.mem_singleton.mp hq]; exact off' p hp, hk, items_inv (fun v m₁ n₁ h tk it hv => turn v m₁ n₁ h tk it (.tail _ hv)) done hJ' off'⟩
    cases f with
    | ret v => exact p
    | brk => exact p
    | next => exact fin p
    | cont => exact fin p
theorem law_loop2 {vs : List Value} {n : Nat} {mm : Int} (hW9 : WMark (wsum mm)) (hh : A.handled = none) (mx : (ax, listOf vs.toArray n) ∈ l) (hv : ∀ v ∈ vs, ∃ y t, v = .int y t ∧ ThreeOf mm y)
    (F : Fr h₀ env.locals s.heap m₀) (N : News h₀ env.locals s.heap l) (hJ : lwJ2 m₀ W ax (listOf vs.toArray n) rl ro a1 o1 a2 a3 o3 a4 o4 m₀ l)
    (turn : ∀ (x' : Int) (c : LS) (u : Str → Option Value) h tk t (I : Addr) (it : Obj), ThreeOf mm x' → LwOk2 ax (listOf vs.toArray n) rl ro a1 o1 a2 a3 o3 a4 o4 c → (∀ p ∈ lwLed2 ax (listOf vs.toArray n) rl ro a1 o1 a2 a3 o3 a4 o4 c, p.1 ≠ I) → Fr h₀ env.locals h (lwMap m₀ u W c.tw) → News h₀ env.locals h ((I, it) :: lwLed2 ax (listOf vs.toArray n) rl ro a1 o1 a2 a3 o3 a4 o4 c) →
      wpAny (model prog w) A (assign (.Name x xp) env (.int x' t)) (fun _ s₃ => wpAny (model prog w) A (execs body env) (UnrPost h₀ env.locals { s with heap := h, toks := tk } I it (lwJ2 m₀ W ax (listOf vs.toArray n) rl ro a1 o1 a2 a3 o3 a4 o4) Q) E s₃) E { s with heap := h, toks := tk })
    (done : ∀ (c : LS) (u : Str → Option Value) h tk, LwOk2 ax (listOf vs.toArray n) rl ro a1 o1 a2 a3 o3 a4 o4 c → Fr h₀ env.locals h (lwMap m₀ u W c.tw) → News h₀ env.locals h (lwLed2 ax (listOf vs.toArray n) rl ro a1 o1 a2 a3 o3 a4 o4 c) → Q .next { s with heap := h, toks := tk }) :
    wpAny (model prog w) A (pyIter (.ref ax)) (fun it s₂ => TurnsAt prog w A h₀ env (.Name x xp) body Q E it s₂) E s := by
  refine iter_listTurns hh F N mx rfl rfl fun I hI => ?_
  refine items_inv (J := lwJ2 m₀ W ax (listOf vs.toArray n) rl ro a1 o1 a2 a3 o3 a4 o4) ?_ ?_ hJ (fun p hp => Nat.ne_of_lt (hI p hp))
  · rintro v m₁ news₁ h tk it hvm ⟨c, ok, sub, e1, e2⟩ hoff F₁ N₁
    obtain ⟨y, t, rfl, hP⟩ := hv v hvm
    rw [lw_map e1 e2] at F₁
    refine wpAny_mono (turn y c m₁ h tk t I it hP ok (fun p hp => hoff p (sub p hp)) F₁ (fun p hp => by
      rcases List.mem_cons.mp hp with rfl | hp
      · exact N₁ _ (.head _)
      · exact N₁ _ (.tail _ (sub p hp)))) (fun _ s₂ h₂ => wpAny_mono h₂ (fun f s₃ p => ?_) fun _ _ e => e) fun _ _ e => e
    have fin : UnrEnd h₀ env.locals { s with heap := h, toks := tk } I it (lwJ2 m₀ W ax (listOf vs.toArray n) rl ro a1 o1 a2 a3 o3 a4 o4) s₃ → UnrEnd h₀ env.locals { s with heap := h, toks := tk } I it (fun m' n' => SubL [(ax, listOf vs.toArray n)] n' ∧ lwJ2 m₀ W ax (listOf vs.toArray n) rl ro a1 o1 a2 a3 o3 a4 o4 m' n') s₃ := by
      rintro ⟨h', tk', m', news', e, F', N', off', c', ok', sub', e1', e2'⟩
      exact ⟨h', tk', m', news', e, F', N', off', ⟨sub' _ (.tail _ (.tail _ (.tail _ (.tail _ (.tail _ (.tail _ (.head _))))))), trivial⟩, c', ok', sub', e1', e2'⟩
    cases f with
    | ret v => exact p
    | brk => exact p
    | next => exact fin p
    | cont => exact fin p
  · rintro h tk m₁ news₁ F₁ N₁ ⟨c, ok, sub, e1, e2⟩
    rw [lw_map e1 e2] at F₁
    exact done c m₁ h tk ok F₁ (fun p hp => N₁ p (sub p hp))
theorem unrEnd_law2 {L I : Addr} {it : Obj} {s₁ : Shared} {h' : Heap} {tk : Nat} {all big : List (Addr × Obj)}
    (F : Fr h₀ L h' m') (N : News h₀ L h' all) (T : TOk big p55 c55 o55 p48 c48 o48 p76 c76 o76)
    (mI : (I, it) ∈ all) (m55 : (55, tabObj p55) ∈ all) (mc55 : (c55, o55) ∈ all) (m48 : (48, tabObj p48) ∈ all) (mc48 : (c48, o48) ∈ all) (m76 : (76, tabObj p76) ∈ all) (mc76 : (c76, o76) ∈ all)
    (mx : (ax, lo) ∈ all ∧ (ax, lo) ∈ big) (m0 : (rl, ro) ∈ all ∧ (rl, ro) ∈ big) (m1 : (a1, o1) ∈ all ∧ (a1, o1) ∈ big) (m2 : (a2, o2) ∈ all ∧ (a2, o2) ∈ big) (m3 : (a3, o3) ∈ all ∧ (a3, o3) ∈ big) (m4 : (a4, o4) ∈ all ∧ (a4, o4) ∈ big)
    (n55 : @Ne Addr 55 I) (nc55 : @Ne Addr c55 I) (n48 : @Ne Addr 48 I) (nc48 : @Ne Addr c48 I) (n76 : @Ne Addr 76 I) (nc76 : @Ne Addr c76 I) (nx : @Ne Addr ax I) (nr : @Ne Addr rl I) (n1 : @Ne Addr a1 I) (n2 : @Ne Addr a2 I) (n3 : @Ne Addr a3 I) (n4 : @Ne Addr a4 I)
    (d2 : o2.data = .cell v2) (hw : m' (Str.ofString "whole") = some (.int W t))
    (hm : ∀ z, z ≠ Str.ofString "whole" → z ≠ Str.ofString "place" → z ≠ Str.ofString "looked" → z ≠ Str.ofString "right" → z ≠ Str.ofString "seen" → m' z = m₀ z) :
    UnrEnd h₀ L s₁ I it (lwJ2 m₀ W ax lo rl ro a1 o1 a2 a3 o3 a4 o4) { s₁ with heap := h', toks := tk } := by
  have own : ∀ q ∈ lwOwn2 ax lo rl ro a1 o1 a2 o2 a3 o3 a4 o4, q ∈ all ∧ q ∈ big := List.forall_mem_cons.mpr ⟨mx, List.forall_mem_cons.mpr ⟨m0, List.forall_mem_cons.mpr ⟨m1, List.forall_mem_cons.mpr ⟨m2, List.forall_mem_cons.mpr ⟨m3, List.forall_mem_cons.mpr ⟨m4, List.forall_mem_nil _⟩⟩⟩⟩⟩⟩
  refine ⟨h', tk, m', lwLed2 ax lo rl ro a1 o1 a2 a3 o3 a4 o4 ⟨o2, v2, t, p55, c55, o55, p48, c48, o48, p76, c76, o76⟩, rfl, F, ?_, ?_, ⟨o2, v2, t, p55, c55, o55, p48, c48, o48, p76, c76, o76⟩, ⟨T.sub fun q hq => (own q hq).2, d2⟩, fun q hq => hq, hw, hm⟩
  · refine List.forall_mem_cons.mpr ⟨N _ mI, List.forall_mem_cons.mpr ⟨N _ m55, List.forall_mem_cons.mpr ⟨N _ mc55, List.forall_mem_cons.mpr ⟨N _ m48, List.forall_mem_cons.mpr ⟨N _ mc48, List.forall_mem_cons.mpr ⟨N _ m76, List.forall_mem_cons.mpr ⟨N _ mc76, ?_⟩⟩⟩⟩⟩⟩⟩
    exact fun q hq => N q (own q hq).1
  · exact List.forall_mem_cons.mpr ⟨n55, List.forall_mem_cons.mpr ⟨nc55, List.forall_mem_cons.mpr ⟨n48, List.forall_mem_cons.mpr ⟨nc48, List.forall_mem_cons.mpr ⟨n76, List.forall_mem_cons.mpr ⟨nc76, List.forall_mem_cons.mpr ⟨nx, List.forall_mem_cons.mpr ⟨nr, List.forall_mem_cons.mpr ⟨n1, List.forall_mem_cons.mpr ⟨n2, List.forall_mem_cons.mpr ⟨n3, List.forall_mem_cons.mpr ⟨n4, List.forall_mem_nil _⟩⟩⟩⟩⟩⟩⟩⟩⟩⟩⟩⟩
end
/-! the second loop's plain facts -/
def slc (m lo hi : Int) : List Int := List.take (min hi.toNat (rowOf m).length - lo.toNat) (List.drop lo.toNat (rowOf m))
def chk2 (m lo hi x : Int) : Bool :=
  decide ((srch (fun v => decide (v < x)) (rowOf m) 16 lo hi).1 = lo + (((slc m lo hi).filter (fun k => decide (k < x))).length : Int)) && decide (((srch (fun v => decide (v < x)) (rowOf m) 16 lo hi).2.filter (fun k => !((slc m lo hi).any (· == k)))) = []) && decide ((srch (fun v => decide (v < x)) (rowOf m) 16 lo hi).2.length ≤ 20)
theorem chk2_all : ∀ m : Fin 13, ∀ hi : Fin 13, hi.val ≤ m.val → ∀ lo : Fin 13, lo.val ≤ hi.val → (chk2 ((m.val : Nat) : Int) ((lo.val : Nat) : Int) ((hi.val : Nat) : Int) (0 - 1) && chk2 ((m.val : Nat) : Int) ((lo.val : Nat) : Int) ((hi.val : Nat) : Int) ((m.val : Nat) : Int) && chk2 ((m.val : Nat) : Int) ((lo.val : Nat) : Int) ((hi.val : Nat) : Int) (2 * ((m.val : Nat) : Int))) = true := by decide +kernel
theorem lk2_turn {m lo hi x pl : Int} {ns : List Int} {its : List Value} (h0 : 0 ≤ lo) (h1 : lo ≤ hi) (h2 : hi ≤ m) (h3 : m ≤ 12) (hx : ThreeOf m x) (R : srch (fun v => decide (v < x)) (rowOf m) 16 lo hi = (pl, ns)) (I : IntsAre its ns) :
    its.length = ns.length ∧ pl = lo + (((List.take (min hi.toNat (rowOf m).length - lo.toNat) (List.drop lo.toNat (rowOf m))).filter (fun k => decide (k < x))).length : Int) ∧ (ns.filter (fun k => !((List.take (min hi.toNat (rowOf m).length - lo.toNat) (List.drop lo.toNat (rowOf m))).any (· == k)))) = [] ∧ ns.length ≤ 20 := by
  have e := chk2_all ⟨m.toNat, by omega⟩ ⟨hi.toNat, by omega⟩ (by show hi.toNat ≤ m.toNat; omega) ⟨lo.toNat, by omega⟩ (by show lo.toNat ≤ hi.toNat; omega)
  have em : ((m.toNat : Nat) : Int) = m := by omega
  have eh : ((hi.toNat : Nat) : Int) = hi := by omega
  have el : ((lo.toNat : Nat) : Int) = lo := by omega
  simp only [em, eh, el, Bool.and_eq_true] at e
  have f : chk2 m lo hi x = true := by
    rcases hx with rfl | rfl | rfl
    · exact e.1.1
    · exact e.1.2
    · exact e.2
  unfold chk2 at f
  rw [R] at f
  simp only [Bool.and_eq_true, decide_eq_true_eq] at f
  exact ⟨I.length, f.1.1, f.1.2, f.2⟩
end Mine
namespace Mine
section
local macro_rules | `(tactic| k_room) => `(tactic| ktr_room)
local macro_rules | `(tactic| k_ne) => `(tactic| ((try dsimp only); first | with_reducible assumption | (refine Ne.symm ?_; with_reducible assumption) | (refine neN ?_; (try dsimp only); omega)))
local macro_rules | `(tactic| k_all) => `(tactic| first | exact List.forall_mem_nil _ | with_reducible assumption | (refine List.forall_mem_cons.mpr ⟨by k_ne, ?_⟩; k_all))
/- the walk _int2digits.inner -/
theorem cin (w : World) : ∀ k : Nat, Cin w k := by
  w_top off
  intro k
  induction k with
  | zero =>
    unfold Cin
    intro mean mg mb dp un gd cn cs a ccd cl outer A₀ base h₀ L m news s params body scope qual dc nm ct vs9 t9 oc oI oA oN f c D cI cA cN n tn its ns cnt x lo hi t1 t2 t3 Q E B F X N he T C48 hk d1 d2 d3 d4 d5 e1 e2 e3 e4 e5 e6 hI hn h0 h1 h2 h3 h4 h5 h6 hd hu hret
    exact absurd h6 (by omega)
  | succ k IH =>
    unfold Cin
    intro mean mg mb dp un gd cn cs a ccd cl outer A₀ base h₀ L m news s params body scope qual dc nm ct vs9 t9 oc oI oA oN f c D cI cA cN n tn its ns cnt x lo hi t1 t2 t3 Q E B F X N he T C48 hk d1 d2 d3 d4 d5 e1 e2 e3 e4 e5 e6 hI hn h0 h1 h2 h3 h4 h5 h6 hd hu hret
    injection he with he
    injection he with he1 he
    injection he with he2 he3
    subst he1 he2 he3
    have hh := half_in (j := (((lo + hi) / 2 - lo) * n).toNat) h0 h1
    obtain ⟨g1, g2, g3, g4⟩ := hh
    have hs0 : 0 ≤ ((lo + hi) / 2 - lo) * n := by rcases hn with rfl | rfl <;> omega
    have hs1 : ((lo + hi) / 2 - lo) * n < 8 := by rcases hn with rfl | rfl <;> omega
    dsimp only [inLed] at N
    revert X; k_fill; intro X
    refine wpAny_call ?_
    k_dflt (refine' code_nest ?k1 ?k2 ?k3 ?k4 ?k5 ?kA ?kF ?kK ?k6 ?k7 ?k8 ?k9 ?kB ?_ ?c2 ?c3 ?c4 ?c5; (case kA => exact rfl); (case kF => exact rfl); (case kK => assumption); (case k1 => k_asm); (case k2 => k_asm); (case k3 => k_asm); (case k4 => k_asm); (case k5 => k_asm); (case k6 => k_mem); (case k7 => exact codeRec_news (by k_asm) (by k_mem) (by assumption) (by assumption)); (case k8 => k_room); (case k9 => exact BindsTo.of_eq rfl); (case c5 => decide); (case kB => exact locs rfl); (case c2 => exact rfl); (case c3 => exact rfl); (case c4 => exact rfl); k_whole; intro g' L' h' FG' F' N' B' X' T'; (try dsimp only); (try k_lift B'); (try k_fold))

    repeat' (first
      | (k_unfold; (try dsimp only))
      | ((with_reducible show wpAny _ _ (call (.ref _) _) _ _ _); (k_here; (rename Cin _ _ => hIn'); k_dflt (refine' cin_use hIn' ?i0 ?i1 ?i2 ?i3 ?i4 ?i5 ?i5b ?i6 ?i7 ?i8 ?i9 ?i10 ?i11 ?i12 ?i13 ?i14 ?i15 ?i16 ?i17 ?i18 ?i19 ?i20 ?i21 ?i22 ?i23 ?i24 ?i25 ?i26 ?i27 ?i28 ?_; (case i0 => k_asm); (case i1 => k_asm); (case i2 => k_asm); (case i3 => k_asm); (case i4 => rfl); (case i5 => k_asm); (case i5b => assumption); (case i6 => first | exact rfl | assumption); (case i7 => assumption); (case i8 => assumption); (case i9 => assumption); (case i10 => assumption); (case i11 => assumption); (case i12 => assumption); (case i13 => assumption); (case i14 => assumption); (case i15 => assumption); (case i16 => assumption); (case i17 => assumption); (case i18 => assumption); (case i19 => assumption); (case i20 => first | with_reducible assumption | omega); (case i21 => first | with_reducible assumption | omega); (case i22 => omega); (case i23 => omega); (case i24 => first | omega | (simp only [inF_length]; omega)); (case i25 => first | omega | (simp only [inF_length]; omega)); (case i26 => omega); (case i27 => ktr_room); (case i28 => ktr_units)); intro h' tk' its' hI' F' N'; (try k_sweep)))
      | ((with_reducible show @ite _ _ _ _ _); (k_here; first | (with_reducible refine ite_dec_t (by omega) ?_) | (with_reducible refine ite_dec_f (by omega) ?_) | (with_reducible refine ite_ine_t (by omega) ?_) | (with_reducible refine ite_ine_f (by omega) ?_) | (with_reducible refine ite_ieq_t (by omega) ?_) | (with_reducible refine ite_ieq_f (by omega) ?_)))
      | ((with_reducible show wpAny _ _ (binaryOp .BitXor (.int _ _) (.int _ _)) _ _ _); (k_here; refine xor_sym (by omega) (by omega) (by omega) ?_))
      | ((with_reducible show wpAny _ _ (binaryOp .LShift (.int _ _) (.int _ _)) _ _ _); (k_here; refine shl_sym (by with_reducible assumption) (by omega) (by omega) ?_))
      | ((with_reducible show wpAny _ _ (binaryOp .RShift (.int _ _) (.int _ _)) _ _ _); (k_here; first | (refine' shr_lit ?se ?s1 ?s2 ?_; (case se => (simp only [Int.reduceToNat, Int.reducePow]; rfl)); (case s1 => decide); (case s2 => decide)) | refine shr_sym (by with_reducible assumption) ?_))
      | ((with_reducible show wpAny _ _ (execs (_ :: _) _) _ _ _); (k_here; k_fold))
      | (k_end; wrow_close) | walk1 | (dsimp only; walk1) | (leave1; try dsimp only) | fail "no step")

    all_goals ((rename Fr _ _ _ _ => lF'); (rename News _ _ _ _ => lN'); (rename IntsAre _ _ => lI'); refine hret _ _ _ ?_ lF' lN'; unfold inF; first | (rw [if_pos (by omega)]; exact lI') | (rw [if_neg (by omega)]; exact lI'))
/- the walk _digits2int.inner -/
theorem cdi (w : World) : ∀ k : Nat, Cdi w k := by
  w_top off
  intro k
  induction k with
  | zero =>
    unfold Cdi
    intro mean mg mb dp un gd cn cs a ccd cl outer A₀ base h₀ L m news s params body scope qual dc nm ct vs9 t9 oc oI oA oN f c D cI cA cN tn its ns cnt lo hi t1 t2 Q E B F X N he T C55 hk d1 d2 d3 d4 d5 hI hn h2 h3 h4 h5 h6 h6b hd hu hret
    exact absurd h6 (by omega)
  | succ k IH =>
    unfold Cdi
    intro mean mg mb dp un gd cn cs a ccd cl outer A₀ base h₀ L m news s params body scope qual dc nm ct vs9 t9 oc oI oA oN f c D cI cA cN tn its ns cnt lo hi t1 t2 Q E B F X N he T C55 hk d1 d2 d3 d4 d5 hI hn h2 h3 h4 h5 h6 h6b hd hu hret
    injection he with he
    injection he with he1 he
    injection he with he2 he3
    subst he1 he2 he3
    dsimp only [inLed] at N
    revert X; k_fill; intro X
    refine wpAny_call ?_
    k_dflt (refine' code_nest ?k1 ?k2 ?k3 ?k4 ?k5 ?kA ?kF ?kK ?k6 ?k7 ?k8 ?k9 ?kB ?_ ?c2 ?c3 ?c4 ?c5; (case kA => exact rfl); (case kF => exact rfl); (case kK => assumption); (case k1 => k_asm); (case k2 => k_asm); (case k3 => k_asm); (case k4 => k_asm); (case k5 => k_asm); (case k6 => k_mem); (case k7 => exact codeRec_news (by k_asm) (by k_mem) (by assumption) (by assumption)); (case k8 => k_room); (case k9 => exact BindsTo.of_eq rfl); (case c5 => decide); (case kB => exact locs rfl); (case c2 => exact rfl); (case c3 => exact rfl); (case c4 => exact rfl); k_whole; intro g' L' h' FG' F' N' B' X' T'; (try dsimp only); (try k_lift B'); (try k_fold))

    repeat' (first
      | (k_unfold; (try dsimp only))
      | ((with_reducible show wpAny _ _ (subscriptTail _ _ (.ref _) _) _ _ _); (k_here; (with_reducible show wpAny _ _ (subscriptTail _ _ (Value.ref _) (Value.int _ _)) _ _ _); (with_unfolding_all refine' item_anyK ?k1 ?k2 ?k3 ?k4 ?k5 ?_ ?k6; (case k1 => is_list); (case k2 => assumption); (case k3 => omega); (case k4 => omega); (case k5 => omega); (case k6 => with_unfolding_all rfl); k_whole); intro _))
      | ((with_reducible show wpAny _ _ (call (.ref _) _) _ _ _); (k_here; (with_reducible show wpAny _ _ (call (Value.ref _) _) _ _ _); (rename Cdi _ _ => hIn'); k_dflt (refine' cdi_use hIn' ?i0 ?i1 ?i2 ?i3 ?i4 ?i5 ?i5b ?i6 ?i7 ?i8 ?i9 ?i10 ?i11 ?i18 ?i19 ?i22 ?i23 ?i24 ?i25 ?i26 ?i26b ?i27 ?i28 ?_; (case i0 => k_asm); (case i1 => k_asm); (case i2 => k_asm); (case i3 => k_asm); (case i4 => rfl); (case i5 => k_asm); (case i5b => assumption); (case i6 => first | exact rfl | assumption); (case i7 => assumption); (case i8 => assumption); (case i9 => assumption); (case i10 => assumption); (case i11 => assumption); (case i18 => assumption); (case i19 => assumption); (case i22 => omega); (case i23 => omega); (case i24 => omega); (case i25 => omega); (case i26 => omega); (case i26b => omega); (case i27 => ktr_room); (case i28 => ktr_units)); intro h' tk' t8' F' N'; (try k_sweep)))
      | ((with_reducible show @ite _ _ _ _ _); (k_here; first | (with_reducible refine ite_dec_t (by omega) ?_) | (with_reducible refine ite_dec_f (by omega) ?_) | (with_reducible refine ite_ine_t (by omega) ?_) | (with_reducible refine ite_ine_f (by omega) ?_) | (with_reducible refine ite_ieq_t (by omega) ?_) | (with_reducible refine ite_ieq_f (by omega) ?_)))
      | ((with_reducible show wpAny _ _ (binaryOp .LShift (.int _ _) (.int _ _)) _ _ _); (k_here; refine shl_dn (by with_reducible assumption) (by omega) (by omega) (by omega) (by omega) ?_))
      | ((with_reducible show wpAny _ _ (binaryOp .RShift (.int _ _) (.int _ _)) _ _ _); (k_here; refine' shr_lit ?se ?s1 ?s2 ?_; (case se => (simp only [Int.reduceToNat, Int.reducePow]; rfl)); (case s1 => decide); (case s2 => decide)))
      | ((with_reducible show wpAny _ _ (execs (_ :: _) _) _ _ _); (k_here; k_fold))
      | (k_end; wrow_close) | walk1 | (dsimp only; walk1) | (leave1; try dsimp only) | fail "no step")

    all_goals ((rename Fr _ _ _ _ => lF'); (rename News _ _ _ _ => lN'); unfold dnF at hret; first | (rw [if_pos (by omega)] at hret; exact hret _ _ _ lF' lN') | (rw [if_neg (by omega)] at hret; exact hret _ _ _ lF' lN'))
end
end Mine
namespace Mine
section
local macro_rules | `(tactic| k_all) => `(tactic| first | exact List.forall_mem_nil _ | (tbn_letter; first | with_reducible assumption | (refine tbn_neAll ?_; tbn_find) | (refine' tbn_neAll (tbn_up ?hlt ?hk); (case hk => tbn_find); (case hlt => omega))) | (refine List.forall_mem_cons.mpr ⟨by k_ne, ?_⟩; k_all))
local macro_rules | `(tactic| k_room) => `(tactic| ktr_room)
local macro_rules | `(tactic| k_upd) => `(tactic| first | (refine' CutI.head ?a; (case a => k_all)) | (refine' CutI.tail ?a ?b; (case a => k_ne); (case b => k_upd)))
local macro_rules | `(tactic| k_ne) => `(tactic| (refine neN ?_; (try dsimp only); first | with_reducible assumption | (refine Ne.symm ?_; with_reducible assumption) | omega))
/- the walk _int2digits -/
theorem cid (w : World) : Cid w := by
  w_top off
  unfold Cid
  intro mean mg mb dp un gd cn cs a ccd cl outer A₀ base h₀ L m news s p48 c48 o48 x n t1 t2 Q E B F X N S48 ne48 hne48 C48 T hk hn h0 h1 hd hu hret
  have hIn := cin w 6
  obtain ⟨b, k, hb, hK, hkd, hk6, hkz⟩ := dgN_facts h0 h1 hn
  have hnp : 0 < n := by omega
  have hnq : n < 1000 := by omega
  revert X; k_fill; intro X
  refine wpAny_call ?_
  k_dflt (refine' code_defC ?k1 ?k2 ?k3 ?k4 ?k5 ?kA ?kF ?kK ?k6 ?k7 ?k8 ?k9 ?kB ?kD ?_ ?c2 ?c3 ?c4; (case kA => exact rfl); (case kF => exact rfl); (case kK => assumption); (case k1 => k_asm); (case k2 => k_asm); (case k3 => k_asm); (case k4 => k_asm); (case k5 => k_asm); (case k6 => k_is); (case k7 => k_is); (case k8 => ktr_room); (case k9 => exact BindsTo.of_eq rfl); (case kB => exact rfl); (case kD => decide +kernel); (case c2 => exact rfl); (case c3 => exact rfl); (case c4 => exact rfl); k_whole; intro g' L' h' tk' cells' FG' F' N' Y' B' X' T' l1; (try k_lt l1); k_cells Y'; (try simp only [List.cons_append, List.nil_append] at N'); (try dsimp only); (try k_fold))
  repeat' (first
    | (k_unfold; (try dsimp only))
    | ((with_reducible show wpAny _ _ (call (.ref _) _) _ _ _); (k_here; (with_reducible show wpAny _ _ (call (Value.ref _) _) _ _ _); (rename Cin _ _ => hIn'); k_dflt (refine' cin_one hIn' ?i0 ?i1 ?i2 ?i3 ?m1 ?m2 ?m3 ?m4 ?m5 ?i4 ?i5 ?i5b ?i6 ?i7 ?i8 ?i9 ?i10 ?i11 ?j1 ?e1 ?e2 ?e3 ?e4 ?e5 ?i18 ?i19 ?i20 ?i21 ?i22 ?i23 ?i24 ?i25 ?i26 ?i27 ?i28 ?_; (case i0 => k_asm); (case i1 => k_asm); (case i2 => k_asm); (case i3 => k_asm); (case m1 => k_mem); (case m2 => k_mem); (case m3 => k_mem); (case m4 => k_mem); (case m5 => k_mem); (case i18 => with_reducible assumption); (case i9 => assumption); (case i10 => assumption); (case i11 => assumption); (case j1 => k_upd); (case e1 => k_ne); (case e2 => k_ne); (case e3 => k_ne); (case e4 => k_ne); (case e5 => k_ne); (case i4 => rfl); (case i5 => k_asm); (case i5b => assumption); (case i6 => first | exact rfl | assumption); (case i7 => assumption); (case i8 => assumption); (case i19 => assumption); (case i20 => assumption); (case i21 => assumption); (case i22 => omega); (case i23 => omega); (case i24 => (simp only [List.length_replicate]; omega)); (case i25 => (simp only [List.length_replicate]; omega)); (case i26 => omega); (case i27 => ktr_room); (case i28 => ktr_units)); intro h' tk' its' hI' F' N'; (try k_sweep)))
    | ((with_reducible show wpAny _ _ (call (.builtin "len") _) _ _ _); (k_here; (with_reducible show wpAny _ _ (call (Value.builtin "len") [Value.ref _]) _ _ _); k_dflt (refine' len_sym ?lenN ?lenm ?lens ?lenf ?_; (case lenN => k_asm); (case lenm => k_mem); (case lens => exact intsRep_len (by with_reducible assumption)); (case lenf => omega))))
    | ((with_reducible show wpAny _ _ (binaryOp .FloorDiv (.int _ _) (.int _ _)) _ _ _); (k_here; refine fdiv_known (by with_reducible assumption) (by with_reducible assumption) (by with_reducible assumption) ?_))
    | ((with_reducible show wpAny _ _ (exec (.FunctionDef _ _ _ _ _ _ _ _ _ _) _) _ _ _); (k_here; kn_here; k_dflt (refine' nestDef_K ?d0 ?k0 ?a0 ?_; (case d0 => exact rfl); (case k0 => exact rfl); (case a0 => exact rfl)); k_dflt (refine' nest_two ?F ?N ?T ?C ?cd ?U ?mem ?St ?p1 ?p2 ?cl ?_; (case F => k_asm); (case N => k_asm); (case T => k_asm); (case cd => exact rfl); (case C => kn_code); (case U => k_updF); (case St => assumption); (case mem => k_mem); (case p1 => rfl); (case p2 => rfl); (case cl => exact rfl); k_whole); intro f' c' oc' ct' dc' h' tk' F' N' d1' l1 l2; (try dsimp only at N'); (have l3 := l2 _ (.head _)); (try dsimp only at l3); (replace l2 := fun q hq => l2 q (.tail _ hq)); obtain ⟨vs9, t9, d2', d3'⟩ := d1'; k_lt l2; replace l1 := Or.imp_right allLt_of l1; simp only [AllLt, and_true] at l1))
    | ((with_reducible show @ite _ _ _ _ _); (k_here; first | (with_reducible refine ite_dec_t (by omega) ?_) | (with_reducible refine ite_dec_f (by omega) ?_) | (with_reducible refine ite_ine_t (by omega) ?_) | (with_reducible refine ite_ine_f (by omega) ?_) | (with_reducible refine ite_ieq_t (by omega) ?_) | (with_reducible refine ite_ieq_f (by omega) ?_)))
    | ((with_reducible show wpAny _ _ (binaryOp .Mult (.ref _) (.int _ _)) _ _ _); (k_here; k_dflt (refine' mul_reps ?F ?N ?l ?z ?_; (case F => k_asm); (case N => k_asm); (case l => k_mem); (case z => with_reducible assumption)); intro D' h' its' hI' F' N' l1; (try k_lt l1); (try k_sweep)))
    | ((with_reducible show wpAny _ _ (storeName _ _ _) _ _ _); (k_here; refine' store_norm ?e ?_; (case e => (simp only [Int.reduceAdd, Int.reduceSub, Int.reduceMul, Int.reduceFDiv, Int.reduceDiv]; rfl))))
    | ((with_reducible show wpAny _ _ (call (.builtin "int.bit_length") _) _ _ _); (k_here; first | (refine bl_known (by with_reducible assumption) ?_) | (refine bl_known (k := 2) (by decide) ?_) | (refine bl_bound (by omega) (by omega) (fun bl hb0 hb1 => ?_))))
    | ((with_reducible show wpAny _ _ (execs (_ :: _) _) _ _ _); (k_here; k_fold))
    | (k_end; wrow_close) | walk1 | (dsimp only; walk1) | (leave1; try dsimp only) | fail "no step")
  all_goals (rename Fr _ _ _ _ => lF'; rename News _ _ _ _ => lN')
  all_goals (refine hret _ _ f' c' _ _ _ _ _ _ _ ?_ lF' (fin_cid lN' (by k_mem) (.tail _ (.tail _ (.tail _ (.head _)))) (by k_mem) (by k_mem) (by k_mem) (by k_mem) (by (intro q hq; repeat' (first | exact hq | refine' List.Mem.tail _ ?_)))) ⟨_, _, d2', d3'⟩ (by omega) (by omega) (l1.imp id (fun h => ⟨h.1, l3⟩)) ?_)
  all_goals first | (rw [i2F_pos hkd (by assumption)]; assumption) | exact ints_none (by assumption) (by omega) hkz | (simp only [AllLt]; refine ⟨by omega, by omega, ?_⟩; tbn_find)
/- the walk _digits2int -/
theorem cdd (w : World) : Cdd w := by
  w_top off
  unfold Cdd
  intro mean mg mb dp un gd cn cs a ccd cl outer A₀ base h₀ L m news s p55 c55 o55 D its cnt ns t2 Q E B F X N S55 ne55 neD hne55 hI hg hl3 C55 T hk hd hu hret
  have hIn := cdi w 4
  revert X; k_fill; intro X
  refine wpAny_call ?_
  k_dflt (refine' code_defC ?k1 ?k2 ?k3 ?k4 ?k5 ?kA ?kF ?kK ?k6 ?k7 ?k8 ?k9 ?kB ?kD ?_ ?c2 ?c3 ?c4; (case kA => exact rfl); (case kF => exact rfl); (case kK => assumption); (case k1 => k_asm); (case k2 => k_asm); (case k3 => k_asm); (case k4 => k_asm); (case k5 => k_asm); (case k6 => k_is); (case k7 => k_is); (case k8 => ktr_room); (case k9 => exact BindsTo.of_eq rfl); (case kB => exact rfl); (case kD => decide +kernel); (case c2 => exact rfl); (case c3 => exact rfl); (case c4 => exact rfl); k_whole; intro g' L' h' tk' cells' FG' F' N' Y' B' X' T' l1; (try k_lt l1); k_cells Y'; (try simp only [List.cons_append, List.nil_append] at N'); (try dsimp only); (try k_fold))
  repeat' (first
    | (k_unfold; (try dsimp only))
    | ((with_reducible show wpAny _ _ (truthy (.ref _)) _ _ _); (k_here; (with_reducible show wpAny _ _ (truthy (Value.ref _)) _ _ _); (rename News _ _ _ _ => lN'); k_dflt (refine' truthy_two lN' ?ym ?yi ?yl ?_ ?_; (case ym => k_mem); (case yi => with_reducible assumption); (case yl => omega)) <;> intro a'))
    | ((with_reducible show wpAny _ _ (call (.ref _) _) _ _ _); (k_here; (with_reducible show wpAny _ _ (call (Value.ref _) _) _ _ _); (rename Cdi _ _ => hIn'); k_dflt (refine' cdi_one hIn' ?i0 ?i1 ?i2 ?i3 ?m1 ?m2 ?m6 ?m3 ?m4 ?m5 ?i4 ?i5 ?i5b ?i6 ?i7 ?i8 ?i9 ?i10 ?i11 ?i18 ?i19 ?i22 ?i23 ?i24 ?i25 ?i26 ?i26b ?i27 ?i28 ?_; (case i0 => k_asm); (case i1 => k_asm); (case i2 => k_asm); (case i3 => k_asm); (case m1 => k_mem); (case m2 => k_mem); (case m3 => k_mem); (case m4 => k_mem); (case m5 => k_mem); (case i9 => assumption); (case i10 => assumption); (case i11 => assumption); (case m6 => k_mem); (case i18 => with_reducible assumption); (case i4 => rfl); (case i5 => k_asm); (case i5b => assumption); (case i6 => first | exact rfl | assumption); (case i7 => assumption); (case i8 => assumption); (case i19 => assumption); (case i22 => omega); (case i23 => omega); (case i24 => omega); (case i25 => omega); (case i26 => omega); (case i26b => omega); (case i27 => ktr_room); (case i28 => ktr_units)); intro h' tk' t8' F' N'; (try k_sweep)))
    | ((with_reducible show wpAny _ _ (call (.builtin "len") _) _ _ _); (k_here; (with_reducible show wpAny _ _ (call (Value.builtin "len") [Value.ref _]) _ _ _); k_dflt (refine' len_sym ?lenN ?lenm ?lens ?lenf ?_; (case lenN => k_asm); (case lenm => k_mem); (case lens => exact IntsAre.length (by with_reducible assumption)); (case lenf => omega))))
    | ((with_reducible show wpAny _ _ (exec (.FunctionDef _ _ _ _ _ _ _ _ _ _) _) _ _ _); (k_here; kn_here; k_dflt (refine' nestDef_K ?d0 ?k0 ?a0 ?_; (case d0 => exact rfl); (case k0 => exact rfl); (case a0 => exact rfl)); k_dflt (refine' nest_two ?F ?N ?T ?C ?cd ?U ?mem ?St ?p1 ?p2 ?cl ?_; (case F => k_asm); (case N => k_asm); (case T => k_asm); (case cd => exact rfl); (case C => kn_code); (case U => k_updF); (case St => assumption); (case mem => k_mem); (case p1 => rfl); (case p2 => rfl); (case cl => exact rfl); k_whole); intro f' c' oc' ct' dc' h' tk' F' N' d1' l1 l2; (try dsimp only at N'); (have l3 := l2 _ (.head _)); (try dsimp only at l3); (replace l2 := fun q hq => l2 q (.tail _ hq)); obtain ⟨vs9, t9, d2', d3'⟩ := d1'; k_lt l2; replace l1 := Or.imp_right allLt_of l1; simp only [AllLt, and_true] at l1))
    | ((with_reducible show @ite _ _ _ _ _); (k_here; first | (with_reducible refine ite_dec_t (by omega) ?_) | (with_reducible refine ite_dec_f (by omega) ?_) | (with_reducible refine ite_ine_t (by omega) ?_) | (with_reducible refine ite_ine_f (by omega) ?_) | (with_reducible refine ite_ieq_t (by omega) ?_) | (with_reducible refine ite_ieq_f (by omega) ?_)))
    | ((with_reducible show wpAny _ _ (storeName _ _ _) _ _ _); (k_here; refine' store_norm ?e ?_; (case e => (simp only [Int.reduceAdd, Int.reduceSub, Int.reduceMul, Int.reduceFDiv, Int.reduceDiv]; rfl))))
    | ((with_reducible show wpAny _ _ (execs (_ :: _) _) _ _ _); (k_here; k_fold))
    | (k_end; wrow_close) | walk1 | (dsimp only; walk1) | (leave1; try dsimp only) | fail "no step")
  all_goals ((rename Fr _ _ _ _ => lF'); (rename News _ _ _ _ => lN'); (first | rw [d2F_nil a'] at hret | rw [d2F_pos a'] at hret); exact hret c' _ _ _ _ lF' (fin_cdd lN' (by k_mem) (by k_mem) (by k_mem) (by k_mem) (by (intro q hq; repeat' (first | exact hq | refine' List.Mem.tail _ ?_)))) ⟨_, _, d2', d3'⟩ (l1.imp id (fun h => h.2.2.2)))
/- the walk _div2n1n -/
theorem dv (w : World) : Cdv w := by
  w_top off
  unfold Cdv
  intro mean mg mb dp un gd cn cs a ccd cl outer A₀ base h₀ L m news s x t1 t2 t3 Q E B F X N T hk h0 h1 hd hu hret
  revert X; k_fill; intro X
  refine wpAny_call ?_
  k_dflt ktr_enter
  repeat' (first
    | (k_unfold; (try dsimp only))
    | ((with_reducible show wpAny _ _ (call (.builtin "divmod") _) _ _ _); (k_here; k_dflt (refine' divmod_2 ?F ?N ?h1 ?h2 ?_; (case F => k_asm); (case N => k_asm); (case h1 => omega); (case h2 => omega)); intro r' h' t8' t9' tk' F' N' l1; (try k_sweep)))
    | ((with_reducible show wpAny _ _ (eval (.Lambda _ _ _ _) _) _ _ _); (k_here; kn_here; k_dflt (refine' kla_eval ?d0 ?_; (case d0 => exact rfl)); k_dflt (refine' lam_any ?F ?N ?T ?C ?cd ?U ?mem ?k ?hs ?St ?p1 ?p2 ?cl ?_; (case F => k_asm); (case N => k_asm); (case T => k_asm); (case cd => exact rfl); (case C => kn_code); (case U => k_updF); (case St => assumption); (case mem => k_mem); (case k => with_reducible assumption); (case hs => (intro q hq; repeat' (first | exact hq | refine' List.Mem.tail _ ?_))); (case p1 => rfl); (case p2 => rfl); (case cl => exact rfl); k_whole); intro f' c' oc' ct' h' tk' F' N' d1' l1 b9 l2; (try dsimp only at N'); (have l3 := l2 _ (.head _)); (try dsimp only at l3); (replace l2 := fun q hq => l2 q (.tail _ hq)); obtain ⟨vs9, t9, d2', d3'⟩ := d1'; k_lt l2; replace l1 := Or.imp_right allLt_of l1; simp only [AllLt, and_true] at l1))
    | ((with_reducible show wpAny _ _ (call (.builtin "divmod") _) _ _ _); (k_here; k_dflt (refine' divmod_2 ?F ?N ?h1 ?h2 ?_; (case F => k_asm); (case N => k_asm); (case h1 => omega); (case h2 => omega)); intro r' h' t8' t9' tk' F' N' l1; k_lt l1; (try k_sweep)))
    | (skip; (with_reducible (first | (refine RevRest.succ (fun it' h' tk' hit' F' N' => ?_)) | (refine RevRest.zero (fun h' tk' F' N' => ?_)))))
    | ((with_reducible show UnrEnd _ _ _ _ _ _ _); ((rename Fr _ _ _ _ => lF'); (rename News _ _ _ _ => lN'); refine' unrEnd_cut lF' lN' ?cut ?_; (case cut => k_upd); (refine ⟨by k_mem, ?_⟩); (try clear lF' lN')))
    | ((with_reducible show wpAny _ _ (pyIter (.ref _)) _ _ _); ((with_reducible show wpAny _ _ (pyIter (Value.ref _)) (fun it s₂ => LoopAtV _ _ _ _ _ _ _ _ _ it s₂) _ _); (rename Fr _ _ _ _ => lF'); (rename News _ _ _ _ => lN'); k_dflt (refine' iter_revLit ?hh lF' lN' ?of ?mem ?c ?d ?e ?_; (case hh => rfl); (case mem => k_mem); (case of => k_all); (case c => rfl); (case d => rfl); (case e => (simp only [List.reverse_cons, List.reverse_nil, List.nil_append, List.cons_append]; rfl))); (try clear lF' lN')))
    | ((with_reducible show @ite _ _ _ _ _); (k_here; first | (with_reducible refine ite_dec_t (by omega) ?_) | (with_reducible refine ite_dec_f (by omega) ?_) | (with_reducible refine ite_ine_t (by omega) ?_) | (with_reducible refine ite_ine_f (by omega) ?_) | (with_reducible refine ite_ieq_t (by omega) ?_) | (with_reducible refine ite_ieq_f (by omega) ?_)))
    | ((with_reducible show wpAny _ _ (storeName _ _ _) _ _ _); (k_here; refine' store_norm ?e ?_; (case e => (simp only [Int.reduceAdd, Int.reduceSub, Int.reduceMul, Int.reduceFDiv, Int.reduceDiv]; rfl))))
    | ((with_reducible show wpAny _ _ (binaryOp .RShift (.int _ _) (.int _ _)) _ _ _); (k_here; refine' shr_lit ?e ?h1 ?h2 ?_; (case e => (simp only [Int.reduceToNat, Int.reducePow]; rfl)); (case h1 => decide); (case h2 => decide)))
    | ((with_reducible show wpAny _ _ (binaryOp .LShift (.int _ _) (.int _ _)) _ _ _); (k_here; refine' shl_lit ?e ?h1 ?h2 ?h3 ?_; (case e => (simp only [Int.reduceToNat, Int.reducePow]; rfl)); (case h1 => decide); (case h2 => decide); (case h3 => omega)))
    | ((with_reducible show wpAny _ _ (call (.builtin "int.bit_length") _) _ _ _); (k_here; first | (refine bl_known (by with_reducible assumption) ?_) | (refine bl_known (k := 2) (by decide) ?_) | (refine bl_bound (by omega) (by omega) (fun bl hb0 hb1 => ?_))))
    | ((with_reducible show wpAny _ _ (execs (_ :: _) _) _ _ _); (k_here; k_fold))
    | (k_end; wrow_close) | walk1 | (dsimp only; walk1) | (leave1; try dsimp only) | fail "no step")
  (rename Fr _ _ _ _ => lF'); (rename News _ _ _ _ => lN')
  exact hret _ _ _ _ _ lF' lN' (by assumption)
/- the walk int_divmod -/
theorem dmn (w : World) : Cdm w (fun x => 0 ≤ x ∧ x < 64) := by
  w_top off
  unfold Cdm
  intro mean mg mb dp un gd cn cs a ccd cl outer A₀ base h₀ L m news s x t1 t2 p55 c55 o55 p48 c48 o48 p76 c76 o76 Q E B F X N TK C55 C48 C76 T hk hP hd hu hret
  obtain ⟨hx0, hx1⟩ := hP
  obtain ⟨-, -, -, a55, a48, -, -, -, -, n1, n2, -, n4, n5, -, n7, n8, -, -, -, -⟩ := id TK
  have hCid := cid w
  have hCdd := cdd w
  have hCdv := dv w
  revert X; k_fill; intro X
  refine wpAny_call ?_
  k_dflt ktr_enter
  repeat' (first
    | (k_unfold; (try dsimp only))
    | ((with_reducible show wpAny _ _ (call (.ref _) _) _ _ _); (k_here; (with_reducible show wpAny _ _ (call (Value.ref 60) _) _ _ _); (rename Cdd _ => hD2'); (rename TOk _ _ _ _ _ _ _ _ _ _ => hTK'); k_dflt (refine' cdd_dm hD2' ?iB ?iF ?iX ?iN hTK' ?ik ?im ?m48 ?mc48 ?m76 ?mc76 ?is ?iD ?iI ?ig ?il ?ie ?iC ?iT ?ihk ?id ?iu ?_; (case iB => k_asm); (case iF => k_asm); (case iX => k_asm); (case iN => k_asm); (case ik => k_upd); (case im => k_mem); (case m48 => k_mem); (case mc48 => k_mem); (case m76 => k_mem); (case mc76 => k_mem); (case iD => k_mem); (case is => (intro q hq; repeat' (first | exact hq | refine' List.Mem.tail _ ?_))); (case iI => (repeat' constructor)); (case ig => (repeat' (first | exact dig0 | refine digS (by omega) (by omega) ?_))); (case il => exact Nat.le_of_ble_eq_true rfl); (case ie => first | exact d2F_3 | exact d2F_2 | exact d2F_1 | exact rfl); (case iC => assumption); (case iT => k_asm); (case ihk => first | exact rfl | assumption); (case id => ktr_room); (case iu => ktr_units)); intro c55' h' tk' t9' o55' F' N' TK'; clear hTK'; (try k_sweep)))
    | ((with_reducible show wpAny _ _ (call (.ref _) _) _ _ _); (k_here; (with_reducible show wpAny _ _ (call (Value.ref 53) _) _ _ _); (rename Cid _ => hI2'); (rename TOk _ _ _ _ _ _ _ _ _ _ => hTK'); k_dflt (refine' cid_dm hI2' ?iB ?iF ?iX ?iN hTK' ?ik ?im ?m55 ?mc55 ?m76 ?mc76 ?is ?iC ?iT ?ihk ?inn ?i0 ?i1 ?id ?iu ?_; (case iB => k_asm); (case iF => k_asm); (case iX => k_asm); (case iN => k_asm); (case ik => k_upd); (case im => k_mem); (case m55 => k_mem); (case mc55 => k_mem); (case m76 => k_mem); (case mc76 => k_mem); (case is => (intro q hq; repeat' (first | exact hq | refine' List.Mem.tail _ ?_))); (case iC => assumption); (case iT => k_asm); (case ihk => first | exact rfl | assumption); (case inn => exact .inr rfl); (case i0 => omega); (case i1 => omega); (case id => ktr_room); (case iu => ktr_units)); intro r' c48' h' tk' its' n' o48' hI' F' N' l1 ne55' TK'; k_lt l1; clear hTK'; (try k_sweep); (obtain ⟨z1', z2'⟩ | ⟨d0, t0, z1', z2', z3', z4'⟩ | ⟨d0, t0, d1, t1, z1', z2', z3', z4', z5', z6'⟩ | ⟨d0, t0, d1, t1, d2, t2, z1', z2', z3', z4', z5', z6', z7', z8'⟩ := i2_shape (by omega) (by omega) hI' <;> subst z1' <;> clear hI')))
    | ((with_reducible show wpAny _ _ (call (.ref _) _) _ _ _); (k_here; (with_reducible show wpAny _ _ (call (Value.ref 39) _) _ _ _); (rename Cdv _ => hV'); k_dflt (refine' hV' _ _ _ _ _ _ _ _ _ _ _ _ _ _ _ _ _ _ _ _ _ _ _ _ _ ?eB ?eF ?eX ?eN ?eT ?ehk ?e0 ?e1 ?ehd ?ehu ?_; (case eB => k_asm); (case eF => k_asm); (case eX => k_asm); (case eN => k_asm); (case eT => k_asm); (case ehk => first | exact rfl | assumption); (case e0 => omega); (case e1 => omega); (case ehd => ktr_room); (case ehu => ktr_units)); intro r' h' t8' t9' tk' F' N' l1; k_lt l1; (try k_sweep)))
    | (skip; (with_reducible (first | (refine RevRest.succ (fun it' h' tk' hit' F' N' => ?_)) | (refine RevRest.zero (fun h' tk' F' N' => ?_)))))
    | ((with_reducible show UnrEnd _ _ _ _ _ _ _); ((rename Fr _ _ _ _ => lF'); (rename News _ _ _ _ => lN'); refine' unrEnd_cut lF' lN' ?cut ?_; (case cut => k_upd); (refine ⟨by k_mem, ?_⟩); (try clear lF' lN')))
    | ((with_reducible show wpAny _ _ (pyIter (.ref _)) _ _ _); ((with_reducible show wpAny _ _ (pyIter (Value.ref _)) (fun it s₂ => LoopAtV _ _ _ _ _ _ _ _ _ it s₂) _ _); (rename Fr _ _ _ _ => lF'); (rename News _ _ _ _ => lN'); k_dflt (refine' iter_revLit ?hh lF' lN' ?of ?mem ?c ?d ?e ?_; (case hh => rfl); (case mem => k_mem); (case of => k_all); (case c => rfl); (case d => rfl); (case e => (simp only [List.reverse_cons, List.reverse_nil, List.nil_append, List.cons_append]; rfl))); (try clear lF' lN')))
    | ((with_reducible show @ite _ _ _ _ _); (k_here; first | (with_reducible refine ite_dec_t (by omega) ?_) | (with_reducible refine ite_dec_f (by omega) ?_) | (with_reducible refine ite_ine_t (by omega) ?_) | (with_reducible refine ite_ine_f (by omega) ?_) | (with_reducible refine ite_ieq_t (by omega) ?_) | (with_reducible refine ite_ieq_f (by omega) ?_)))
    | ((with_reducible show wpAny _ _ (storeName _ _ _) _ _ _); (k_here; refine' store_norm ?e ?_; (case e => (simp only [Int.reduceAdd, Int.reduceSub, Int.reduceMul, Int.reduceFDiv, Int.reduceDiv]; rfl))))
    | ((with_reducible show wpAny _ _ (binaryOp .LShift (.int _ _) (.int _ _)) _ _ _); (k_here; refine' shl_lit ?e ?h1 ?h2 ?h3 ?_; (case e => (simp only [Int.reduceToNat, Int.reducePow]; rfl)); (case h1 => decide); (case h2 => decide); (case h3 => omega)))
    | ((with_reducible show wpAny _ _ (call (.builtin "int.bit_length") _) _ _ _); (k_here; first | (refine bl_known (by with_reducible assumption) ?_) | (refine bl_known (k := 2) (by decide) ?_) | (refine bl_bound (by omega) (by omega) (fun bl hb0 hb1 => ?_))))
    | ((with_reducible show wpAny _ _ (execs (_ :: _) _) _ _ _); (k_here; k_fold))
    | (k_end; wrow_close) | walk1 | (dsimp only; walk1) | (leave1; try dsimp only) | fail "no step")
  all_goals ((rename Fr _ _ _ _ => lF'); (rename News _ _ _ _ => lN'); (rename TOk _ _ _ _ _ _ _ _ _ _ => T9); (obtain ⟨N9, L9⟩ : _ ∧ _ := fin_dm T9 lN' (by assumption) (by k_mem) (by k_mem) (by k_mem) (by k_mem) (by k_mem) (by k_mem) (by (intro q hq; repeat' (first | exact hq | refine' List.Mem.tail _ ?_)))); refine hret _ _ _ _ _ _ _ _ _ _ _ _ _ ?_ ?_ lF' N9 T9 L9 <;> omega)
/- the walk _law_looked, bisect_left -/
theorem lkL (w : World) : Clk w 32 (fun x v => decide (v < x)) := by
  w_top off
  unfold Clk
  intro mean mg mb dp un gd cn cs a ccd cl outer A₀ base h₀ L m news s p55 c55 o55 p48 c48 o48 p76 c76 o76 rl vs n row x lo hi t1 t2 t3 Q E B F X N TK hrl r1 r2 r3 r4 r5 r6 hI C55 C48 C76 T hk h0 h1 h2 h3 hd hu hret
  have hG : GMark (fun v => decide (v < x)) := trivial
  obtain ⟨s55, s48, s76, a55, a48, a76, b55, b48, b76, n1, n2, n3, n4, n5, n6, n7, n8, n9, m1, m2, m3⟩ := id TK
  revert X; k_fill; intro X
  refine wpAny_call ?_
  k_dflt (refine' code_defC ?k1 ?k2 ?k3 ?k4 ?k5 ?kA ?kF ?kK ?k6 ?k7 ?k8 ?k9 ?kB ?kD ?_ ?c2 ?c3 ?c4; (case kA => exact rfl); (case kF => exact rfl); (case kK => assumption); (case k1 => k_asm); (case k2 => k_asm); (case k3 => k_asm); (case k4 => k_asm); (case k5 => k_asm); (case k6 => k_is); (case k7 => k_is); (case k8 => ktr_room); (case k9 => exact BindsTo.of_eq rfl); (case kB => exact rfl); (case kD => decide +kernel); (case c2 => exact rfl); (case c3 => exact rfl); (case c4 => exact rfl); k_whole; intro g' L' h' tk' cells' FG' F' N' Y' B' X' T' l1; (try k_lt l1); k_cells Y'; (try simp only [List.cons_append, List.nil_append] at N'); (try dsimp only); (try k_fold))
  repeat' (first
    | (k_unfold; (try dsimp only))
    | ((with_reducible show SrEnd _ _ _ _ _ _ _ _ _ _); ((rename Fr _ _ _ _ => lF'); (rename News _ _ _ _ => lN'); (rename SrOk _ _ _ _ => lok); k_dflt (first
  | (refine' sr_right lok ?hlt ?hv ?hg ?hnl lF' lN' ?a1 ?a2 ?a3; (case hlt => omega); (case hv => rfl); (case hg => exact decide_eq_true (by omega)); (case a1 => rfl); (case a2 => rfl); (case hnl => rfl); (case a3 => (intro z h1 h2 h3; simp only [srMap, if_neg h1, if_neg h2, if_neg h3])))
  | (refine' sr_left lok ?hlt ?hv ?hg ?hnl lF' lN' ?a1 ?a2 ?a3; (case hlt => omega); (case hv => rfl); (case hg => exact decide_eq_false (by omega)); (case a1 => rfl); (case a2 => rfl); (case hnl => rfl); (case a3 => (intro z h1 h2 h3; simp only [srMap, if_neg h1, if_neg h2, if_neg h3]))))))
    | ((with_reducible show SrPost _ _ _ _ _ _ _ _ _ _ _ _); (dsimp only [SrPost]))
    | ((with_reducible show wpAny _ _ (exec (.While _ _ _ _) _) _ _ _); (k_here; (rename Fr _ _ _ _ => lF'); (rename News _ _ _ _ => lN'); k_dflt (refine' while_srch _ ?hG lF' lN' ?mem ?U ?lo ?hi ?b0 ?b1 ?b2 ?b3 ?turn ?hE; (case hG => assumption); (case mem => k_mem); (case U => k_updF); (case lo => rfl); (case hi => rfl); (case b0 => assumption); (case b1 => assumption); (case b2 => assumption); (case b3 => assumption); (case hE => first | passes_own | with_unfolding_all passes_own)); (try clear lF' lN'); intro c' u' h' tk' ok' F' N'; (try dsimp only at N'); (have q0 := ok'.lo0); (have q1 := ok'.le); (have q2 := ok'.hi1); (have q3 := ok'.size); (have q4 := ok'.fuel)))
    | ((with_reducible show wpAny _ _ (call (.builtin "list.append") _) _ _ _); (k_here; (with_reducible show wpAny _ _ (call (Value.builtin _) [Value.ref _, _]) _ _ _); k_dflt (refine' append_K ?k1 ?k2 ?k3 ?_ ?z; (case k1 => k_asm); (case k2 => k_asm); (case k3 => k_upd); (case z => first | (rw [sizeLine_eq]; omega) | size_fits); k_whole); intro h' F' N'; (try k_sweep)))
    | ((with_reducible show wpAny _ _ (subscriptTail _ _ (.ref _) _) _ _ _); (k_here; (with_reducible show wpAny _ _ (subscriptTail _ _ (Value.ref _) (Value.int _ _)) _ _ _); (with_unfolding_all refine' item_anyK ?k1 ?k2 ?k3 ?k4 ?k5 ?_ ?k6; (case k1 => is_list); (case k2 => assumption); (case k3 => omega); (case k4 => omega); (case k5 => omega); (case k6 => with_unfolding_all rfl); k_whole); intro _))
    | ((with_reducible show wpAny _ _ (binaryOp .FloorDiv (.int _ _) (.int _ _)) _ _ _); (k_here; refine fdiv_lit (by decide) (by decide) ?_))
    | ((with_reducible show wpAny _ _ (eval (.Lambda _ _ _ _) _) _ _ _); (k_here; kn_here; k_dflt (refine' kla_eval ?d0 ?_; (case d0 => exact rfl)); k_dflt (refine' lam_any ?F ?N ?T ?C ?cd ?U ?mem ?k ?hs ?St ?p1 ?p2 ?cl ?_; (case F => k_asm); (case N => k_asm); (case T => k_asm); (case cd => exact rfl); (case C => kn_code); (case U => k_updF); (case St => assumption); (case mem => k_mem); (case k => with_reducible assumption); (case hs => (intro q hq; repeat' (first | exact hq | refine' List.Mem.tail _ ?_))); (case p1 => rfl); (case p2 => rfl); (case cl => exact rfl); k_whole); intro f' c' oc' ct' h' tk' F' N' d1' l1 b9 l2; (try dsimp only at N'); (have l3 := l2 _ (.head _)); (try dsimp only at l3); (replace l2 := fun q hq => l2 q (.tail _ hq)); obtain ⟨vs9, t9, d2', d3'⟩ := d1'; k_lt l2; replace l1 := Or.imp_right allLt_of l1; simp only [AllLt, and_true] at l1))
    | ((with_reducible show wpAny _ _ (call (.builtin "divmod") _) _ _ _); (k_here; k_dflt (refine' divmod_2 ?F ?N ?h1 ?h2 ?_; (case F => k_asm); (case N => k_asm); (case h1 => omega); (case h2 => omega)); intro r' h' t8' t9' tk' F' N' l1; k_lt l1; (try k_sweep)))
    | (skip; (with_reducible (first | (refine RevRest.succ (fun it' h' tk' hit' F' N' => ?_)) | (refine RevRest.zero (fun h' tk' F' N' => ?_)))))
    | ((with_reducible show UnrEnd _ _ _ _ _ _ _); ((rename Fr _ _ _ _ => lF'); (rename News _ _ _ _ => lN'); refine' unrEnd_cut lF' lN' ?cut ?_; (case cut => k_upd); (refine ⟨by k_mem, ?_⟩); (try clear lF' lN')))
    | ((with_reducible show wpAny _ _ (pyIter (.ref _)) _ _ _); ((with_reducible show wpAny _ _ (pyIter (Value.ref _)) (fun it s₂ => LoopAtV _ _ _ _ _ _ _ _ _ it s₂) _ _); (rename Fr _ _ _ _ => lF'); (rename News _ _ _ _ => lN'); k_dflt (refine' iter_revLit ?hh lF' lN' ?of ?mem ?c ?d ?e ?_; (case hh => rfl); (case mem => k_mem); (case of => k_all); (case c => rfl); (case d => rfl); (case e => (simp only [List.reverse_cons, List.reverse_nil, List.nil_append, List.cons_append]; rfl))); (try clear lF' lN')))
    | ((with_reducible show @ite _ _ _ _ _); (k_here; first | (with_reducible refine ite_dec_t (by omega) ?_) | (with_reducible refine ite_dec_f (by omega) ?_) | (with_reducible refine ite_ine_t (by omega) ?_) | (with_reducible refine ite_ine_f (by omega) ?_) | (with_reducible refine ite_ieq_t (by omega) ?_) | (with_reducible refine ite_ieq_f (by omega) ?_)))
    | ((with_reducible show wpAny _ _ (storeName _ _ _) _ _ _); (k_here; refine' store_norm ?e ?_; (case e => (simp only [Int.reduceAdd, Int.reduceSub, Int.reduceMul, Int.reduceFDiv, Int.reduceDiv]; rfl))))
    | ((with_reducible show wpAny _ _ (binaryOp .RShift (.int _ _) (.int _ _)) _ _ _); (k_here; refine' shr_lit ?e ?h1 ?h2 ?_; (case e => (simp only [Int.reduceToNat, Int.reducePow]; rfl)); (case h1 => decide); (case h2 => decide)))
    | ((with_reducible show wpAny _ _ (binaryOp .LShift (.int _ _) (.int _ _)) _ _ _); (k_here; refine' shl_lit ?e ?h1 ?h2 ?h3 ?_; (case e => (simp only [Int.reduceToNat, Int.reducePow]; rfl)); (case h1 => decide); (case h2 => decide); (case h3 => omega)))
    | ((with_reducible show wpAny _ _ (call (.builtin "int.bit_length") _) _ _ _); (k_here; first | (refine bl_known (by with_reducible assumption) ?_) | (refine bl_known (k := 2) (by decide) ?_) | (refine bl_bound (by omega) (by omega) (fun bl hb0 hb1 => ?_))))
    | ((with_reducible show wpAny _ _ (execs (_ :: _) _) _ _ _); (k_here; k_fold))
    | (k_end; wrow_close) | walk1 | (dsimp only; walk1) | (leave1; try dsimp only) | fail "no step")
  (rename Fr _ _ _ _ => lF'); (rename News _ _ _ _ => lN'); (rename SrOk _ _ _ _ => lok)
  obtain ⟨R9, I9, Z9, N9, T9⟩ : _ ∧ _ ∧ _ ∧ _ ∧ _ := by
    refine' fin_lk (rl := rl) (vs := vs) (rn := n) TK lN' lok ?hlt ?mr ?ml ?m55 ?mc55 ?m48 ?mc48 ?m76 ?mc76 ?mrl ?ms ?d76 ?e76 ?b76 ?n1 ?n2 ?n3 ?m2 ?m3
    case hlt => assumption
    case mr => exact List.Mem.head _
    case ml => k_mem
    case m55 => k_mem
    case mc55 => k_mem
    case m48 => k_mem
    case mc48 => k_mem
    case m76 => k_mem
    case mc76 => k_mem
    case mrl => k_mem
    case ms => (intro q hq; repeat' (first | exact hq | refine' List.Mem.tail _ ?_))
    case d76 => assumption
    case e76 => assumption
    case b76 => assumption
    all_goals omega
  refine' hret _ _ _ _ _ _ _ _ _ _ _ _ R9 I9 Z9 lF' N9 T9 ?e1 ?e2 ?e3 ?e4 ?e5
  case e5 =>
    simp only [AllLt, and_true]
    refine ⟨by omega, by omega, by omega, by omega, by omega, by omega, ?_⟩
    tbn_find
  all_goals omega
/- the walk _law_looked, bisect_right -/
theorem lkR (w : World) : Clk w 23 (fun x v => decide (v ≤ x)) := by
  w_top off
  unfold Clk
  intro mean mg mb dp un gd cn cs a ccd cl outer A₀ base h₀ L m news s p55 c55 o55 p48 c48 o48 p76 c76 o76 rl vs n row x lo hi t1 t2 t3 Q E B F X N TK hrl r1 r2 r3 r4 r5 r6 hI C55 C48 C76 T hk h0 h1 h2 h3 hd hu hret
  have hG : GMark (fun v => decide (v ≤ x)) := trivial
  obtain ⟨s55, s48, s76, a55, a48, a76, b55, b48, b76, n1, n2, n3, n4, n5, n6, n7, n8, n9, m1, m2, m3⟩ := id TK
  revert X; k_fill; intro X
  refine wpAny_call ?_
  k_dflt (refine' code_defC ?k1 ?k2 ?k3 ?k4 ?k5 ?kA ?kF ?kK ?k6 ?k7 ?k8 ?k9 ?kB ?kD ?_ ?c2 ?c3 ?c4; (case kA => exact rfl); (case kF => exact rfl); (case kK => assumption); (case k1 => k_asm); (case k2 => k_asm); (case k3 => k_asm); (case k4 => k_asm); (case k5 => k_asm); (case k6 => k_is); (case k7 => k_is); (case k8 => ktr_room); (case k9 => exact BindsTo.of_eq rfl); (case kB => exact rfl); (case kD => decide +kernel); (case c2 => exact rfl); (case c3 => exact rfl); (case c4 => exact rfl); k_whole; intro g' L' h' tk' cells' FG' F' N' Y' B' X' T' l1; (try k_lt l1); k_cells Y'; (try simp only [List.cons_append, List.nil_append] at N'); (try dsimp only); (try k_fold))
  repeat' (first
    | (k_unfold; (try dsimp only))
    | ((with_reducible show SrEnd _ _ _ _ _ _ _ _ _ _); ((rename Fr _ _ _ _ => lF'); (rename News _ _ _ _ => lN'); (rename SrOk _ _ _ _ => lok); k_dflt (first
  | (refine' sr_right lok ?hlt ?hv ?hg ?hnl lF' lN' ?a1 ?a2 ?a3; (case hlt => omega); (case hv => rfl); (case hg => exact decide_eq_true (by omega)); (case a1 => rfl); (case a2 => rfl); (case hnl => rfl); (case a3 => (intro z h1 h2 h3; simp only [srMap, if_neg h1, if_neg h2, if_neg h3])))
  | (refine' sr_left lok ?hlt ?hv ?hg ?hnl lF' lN' ?a1 ?a2 ?a3; (case hlt => omega); (case hv => rfl); (case hg => exact decide_eq_false (by omega)); (case a1 => rfl); (case a2 => rfl); (case hnl => rfl); (case a3 => (intro z h1 h2 h3; simp only [srMap, if_neg h1, if_neg h2, if_neg h3]))))))
    | ((with_reducible show SrPost _ _ _ _ _ _ _ _ _ _ _ _); (dsimp only [SrPost]))
    | ((with_reducible show wpAny _ _ (exec (.While _ _ _ _) _) _ _ _); (k_here; (rename Fr _ _ _ _ => lF'); (rename News _ _ _ _ => lN'); k_dflt (refine' while_srch _ ?hG lF' lN' ?mem ?U ?lo ?hi ?b0 ?b1 ?b2 ?b3 ?turn ?hE; (case hG => assumption); (case mem => k_mem); (case U => k_updF); (case lo => rfl); (case hi => rfl); (case b0 => assumption); (case b1 => assumption); (case b2 => assumption); (case b3 => assumption); (case hE => first | passes_own | with_unfolding_all passes_own)); (try clear lF' lN'); intro c' u' h' tk' ok' F' N'; (try dsimp only at N'); (have q0 := ok'.lo0); (have q1 := ok'.le); (have q2 := ok'.hi1); (have q3 := ok'.size); (have q4 := ok'.fuel)))
    | ((with_reducible show wpAny _ _ (call (.builtin "list.append") _) _ _ _); (k_here; (with_reducible show wpAny _ _ (call (Value.builtin _) [Value.ref _, _]) _ _ _); k_dflt (refine' append_K ?k1 ?k2 ?k3 ?_ ?z; (case k1 => k_asm); (case k2 => k_asm); (case k3 => k_upd); (case z => first | (rw [sizeLine_eq]; omega) | size_fits); k_whole); intro h' F' N'; (try k_sweep)))
    | ((with_reducible show wpAny _ _ (subscriptTail _ _ (.ref _) _) _ _ _); (k_here; (with_reducible show wpAny _ _ (subscriptTail _ _ (Value.ref _) (Value.int _ _)) _ _ _); (with_unfolding_all refine' item_anyK ?k1 ?k2 ?k3 ?k4 ?k5 ?_ ?k6; (case k1 => is_list); (case k2 => assumption); (case k3 => omega); (case k4 => omega); (case k5 => omega); (case k6 => with_unfolding_all rfl); k_whole); intro _))
    | ((with_reducible show wpAny _ _ (binaryOp .FloorDiv (.int _ _) (.int _ _)) _ _ _); (k_here; refine fdiv_lit (by decide) (by decide) ?_))
    | ((with_reducible show wpAny _ _ (eval (.Lambda _ _ _ _) _) _ _ _); (k_here; kn_here; k_dflt (refine' kla_eval ?d0 ?_; (case d0 => exact rfl)); k_dflt (refine' lam_any ?F ?N ?T ?C ?cd ?U ?mem ?k ?hs ?St ?p1 ?p2 ?cl ?_; (case F => k_asm); (case N => k_asm); (case T => k_asm); (case cd => exact rfl); (case C => kn_code); (case U => k_updF); (case St => assumption); (case mem => k_mem); (case k => with_reducible assumption); (case hs => (intro q hq; repeat' (first | exact hq | refine' List.Mem.tail _ ?_))); (case p1 => rfl); (case p2 => rfl); (case cl => exact rfl); k_whole); intro f' c' oc' ct' h' tk' F' N' d1' l1 b9 l2; (try dsimp only at N'); (have l3 := l2 _ (.head _)); (try dsimp only at l3); (replace l2 := fun q hq => l2 q (.tail _ hq)); obtain ⟨vs9, t9, d2', d3'⟩ := d1'; k_lt l2; replace l1 := Or.imp_right allLt_of l1; simp only [AllLt, and_true] at l1))
    | ((with_reducible show wpAny _ _ (call (.builtin "divmod") _) _ _ _); (k_here; k_dflt (refine' divmod_2 ?F ?N ?h1 ?h2 ?_; (case F => k_asm); (case N => k_asm); (case h1 => omega); (case h2 => omega)); intro r' h' t8' t9' tk' F' N' l1; k_lt l1; (try k_sweep)))
    | (skip; (with_reducible (first | (refine RevRest.succ (fun it' h' tk' hit' F' N' => ?_)) | (refine RevRest.zero (fun h' tk' F' N' => ?_)))))
    | ((with_reducible show UnrEnd _ _ _ _ _ _ _); ((rename Fr _ _ _ _ => lF'); (rename News _ _ _ _ => lN'); refine' unrEnd_cut lF' lN' ?cut ?_; (case cut => k_upd); (refine ⟨by k_mem, ?_⟩); (try clear lF' lN')))
    | ((with_reducible show wpAny _ _ (pyIter (.ref _)) _ _ _); ((with_reducible show wpAny _ _ (pyIter (Value.ref _)) (fun it s₂ => LoopAtV _ _ _ _ _ _ _ _ _ it s₂) _ _); (rename Fr _ _ _ _ => lF'); (rename News _ _ _ _ => lN'); k_dflt (refine' iter_revLit ?hh lF' lN' ?of ?mem ?c ?d ?e ?_; (case hh => rfl); (case mem => k_mem); (case of => k_all); (case c => rfl); (case d => rfl); (case e => (simp only [List.reverse_cons, List.reverse_nil, List.nil_append, List.cons_append]; rfl))); (try clear lF' lN')))
    | ((with_reducible show @ite _ _ _ _ _); (k_here; first | (with_reducible refine ite_dec_t (by omega) ?_) | (with_reducible refine ite_dec_f (by omega) ?_) | (with_reducible refine ite_ine_t (by omega) ?_) | (with_reducible refine ite_ine_f (by omega) ?_) | (with_reducible refine ite_ieq_t (by omega) ?_) | (with_reducible refine ite_ieq_f (by omega) ?_)))
    | ((with_reducible show wpAny _ _ (storeName _ _ _) _ _ _); (k_here; refine' store_norm ?e ?_; (case e => (simp only [Int.reduceAdd, Int.reduceSub, Int.reduceMul, Int.reduceFDiv, Int.reduceDiv]; rfl))))
    | ((with_reducible show wpAny _ _ (binaryOp .RShift (.int _ _) (.int _ _)) _ _ _); (k_here; refine' shr_lit ?e ?h1 ?h2 ?_; (case e => (simp only [Int.reduceToNat, Int.reducePow]; rfl)); (case h1 => decide); (case h2 => decide)))
    | ((with_reducible show wpAny _ _ (binaryOp .LShift (.int _ _) (.int _ _)) _ _ _); (k_here; refine' shl_lit ?e ?h1 ?h2 ?h3 ?_; (case e => (simp only [Int.reduceToNat, Int.reducePow]; rfl)); (case h1 => decide); (case h2 => decide); (case h3 => omega)))
    | ((with_reducible show wpAny _ _ (call (.builtin "int.bit_length") _) _ _ _); (k_here; first | (refine bl_known (by with_reducible assumption) ?_) | (refine bl_known (k := 2) (by decide) ?_) | (refine bl_bound (by omega) (by omega) (fun bl hb0 hb1 => ?_))))
    | ((with_reducible show wpAny _ _ (execs (_ :: _) _) _ _ _); (k_here; k_fold))
    | (k_end; wrow_close) | walk1 | (dsimp only; walk1) | (leave1; try dsimp only) | fail "no step")
  (rename Fr _ _ _ _ => lF'); (rename News _ _ _ _ => lN'); (rename SrOk _ _ _ _ => lok)
  obtain ⟨R9, I9, Z9, N9, T9⟩ : _ ∧ _ ∧ _ ∧ _ ∧ _ := by
    refine' fin_lk (rl := rl) (vs := vs) (rn := n) TK lN' lok ?hlt ?mr ?ml ?m55 ?mc55 ?m48 ?mc48 ?m76 ?mc76 ?mrl ?ms ?d76 ?e76 ?b76 ?n1 ?n2 ?n3 ?m2 ?m3
    case hlt => assumption
    case mr => exact List.Mem.head _
    case ml => k_mem
    case m55 => k_mem
    case mc55 => k_mem
    case m48 => k_mem
    case mc48 => k_mem
    case m76 => k_mem
    case mc76 => k_mem
    case mrl => k_mem
    case ms => (intro q hq; repeat' (first | exact hq | refine' List.Mem.tail _ ?_))
    case d76 => assumption
    case e76 => assumption
    case b76 => assumption
    all_goals omega
  refine' hret _ _ _ _ _ _ _ _ _ _ _ _ R9 I9 Z9 lF' N9 T9 ?e1 ?e2 ?e3 ?e4 ?e5
  case e5 =>
    simp only [AllLt, and_true]
    refine ⟨by omega, by omega, by omega, by omega, by omega, by omega, ?_⟩
    tbn_find
  all_goals omega
/- the walk _law_halves -/
theorem hv (w : World) (hC : Cdm w (fun x => 0 ≤ x ∧ x < 64)) : Chv w := by
  w_top off
  unfold Chv
  intro mean mg mb dp un gd cn cs a ccd cl outer A₀ base h₀ L m news s p55 c55 o55 p48 c48 o48 p76 c76 o76 rl vs n row x lo hi t1 t2 t3 Q E B F X N TK hrl r1 r2 r3 r4 r5 r6 hI C55 C48 C76 T hk h0 h1 h2 h3 hd hu hret
  have hG : GMark (fun v => decide (v < x)) := trivial
  obtain ⟨s55, s48, s76, a55, a48, a76, b55, b48, b76, n1, n2, n3, n4, n5, n6, n7, n8, n9, m1, m2, m3⟩ := id TK
  revert X; k_fill; intro X
  refine wpAny_call ?_
  k_dflt ktr_enter
  repeat' (first
    | (k_unfold; (try dsimp only))
    | ((with_reducible show HvEnd _ _ _ _ _ _ _ _ _ _ _ _ _ _ _ _); ((rename Fr _ _ _ _ => lF'); (rename News _ _ _ _ => lN'); (rename HvOk _ _ _ _ _ _ _ _ _ _ => lok); (rename TOk _ _ _ _ _ _ _ _ _ _ => lT'); k_dflt (first
  | (refine' hv_right lok ?hlt ?hv ?hg ?hnl lT' lF' lN' ?ml ?m55 ?mc55 ?m48 ?mc48 ?m76 ?mc76 ?mrl ?ms ?a1 ?a2 ?a3; (case hlt => omega); (case hv => rfl); (case hg => exact decide_eq_true (by omega)); (case hnl => rfl); (case ml => k_mem); (case m55 => k_mem); (case mc55 => k_mem); (case m48 => k_mem); (case mc48 => k_mem); (case m76 => k_mem); (case mc76 => k_mem); (case mrl => k_mem); (case ms => (intro q hq; repeat' (first | exact hq | refine' List.Mem.tail _ ?_))); (case a1 => rfl); (case a2 => rfl); (case a3 => (intro z h1 h2 h3; simp only [hvMap, if_neg h1, if_neg h2, if_neg h3])))
  | (refine' hv_left lok ?hlt ?hv ?hg ?hnl lT' lF' lN' ?ml ?m55 ?mc55 ?m48 ?mc48 ?m76 ?mc76 ?mrl ?ms ?a1 ?a2 ?a3; (case hlt => omega); (case hv => rfl); (case hg => exact decide_eq_false (by omega)); (case hnl => rfl); (case ml => k_mem); (case m55 => k_mem); (case mc55 => k_mem); (case m48 => k_mem); (case mc48 => k_mem); (case m76 => k_mem); (case mc76 => k_mem); (case mrl => k_mem); (case ms => (intro q hq; repeat' (first | exact hq | refine' List.Mem.tail _ ?_))); (case a1 => rfl); (case a2 => rfl); (case a3 => (intro z h1 h2 h3; simp only [hvMap, if_neg h1, if_neg h2, if_neg h3]))))))
    | ((with_reducible show HvPost _ _ _ _ _ _ _ _ _ _ _ _ _ _ _ _ _ _); (dsimp only [HvPost]))
    | ((with_reducible show wpAny _ _ (exec (.While _ _ _ _) _) _ _ _); (k_here; (rename Fr _ _ _ _ => lF'); (rename News _ _ _ _ => lN'); (rename TOk _ _ _ _ _ _ _ _ _ _ => lT'); k_dflt (refine' while_halv _ ?hG lF' lN' lT' ?f1 ?f2 ?f3 ?f4 ?lo ?hi ?b0 ?b1 ?b2 ?b3 ?turn ?hE; (case hG => assumption); (case f1 => omega); (case f2 => omega); (case f3 => omega); (case f4 => omega); (case lo => rfl); (case hi => rfl); (case b0 => assumption); (case b1 => assumption); (case b2 => assumption); (case b3 => assumption); (case hE => first | passes_own | with_unfolding_all passes_own)); (try clear lF' lN'); intro c' u' h' tk' ok' F' N'; (have okS := ok'.ok); (have q0 := okS.lo0); (have q1 := okS.le); (have q2 := okS.hi1); (have q3 := okS.size); (have q4 := okS.fuel); (have w1 := ok'.f55); (have w2 := ok'.f48); (have w3 := ok'.r55); (have w4 := ok'.r48); obtain ⟨s55, s48, s76, a55, a48, a76, b55, b48, b76, n1, n2, n3, n4, n5, n6, n7, n8, n9, m1, m2, m3⟩ := ok'.tk))
    | ((with_reducible show wpAny _ _ (call (.builtin "list.append") _) _ _ _); (k_here; (with_reducible show wpAny _ _ (call (Value.builtin _) [Value.ref _, _]) _ _ _); k_dflt (refine' append_K ?k1 ?k2 ?k3 ?_ ?z; (case k1 => k_asm); (case k2 => k_asm); (case k3 => k_upd); (case z => first | (rw [sizeLine_eq]; omega) | size_fits); k_whole); intro h' F' N'; (try k_sweep)))
    | ((with_reducible show wpAny _ _ (subscriptTail _ _ (.ref _) _) _ _ _); (k_here; (with_reducible show wpAny _ _ (subscriptTail _ _ (Value.ref _) (Value.int _ _)) _ _ _); (with_unfolding_all refine' item_anyK ?k1 ?k2 ?k3 ?k4 ?k5 ?_ ?k6; (case k1 => is_list); (case k2 => assumption); (case k3 => omega); (case k4 => omega); (case k5 => omega); (case k6 => with_unfolding_all rfl); k_whole); intro _))
    | ((with_reducible show wpAny _ _ (binaryOp .FloorDiv (.int _ _) (.int _ _)) _ _ _); (k_here; refine fdiv_lit (by decide) (by decide) ?_))
    | ((with_reducible show wpAny _ _ (call (.ref _) _) _ _ _); (k_here; (with_reducible show wpAny _ _ (call (Value.ref 74) _) _ _ _); (rename Cdm _ _ => hC'); k_dflt (refine' cdm_use hC' ?B ?F ?X ?N ?k1 ?S55 ?k2 ?k3 ?S48 ?k4 ?k5 ?S76 ?k6 ?C55 ?C48 ?C76 ?T ?hk ?hP ?hd ?hu ?_; (case B => k_asm); (case F => k_asm); (case X => k_asm); (case N => k_asm); (case k1 => k_upd); (case S55 => assumption); (case k2 => k_upd); (case k3 => k_upd); (case S48 => assumption); (case k4 => k_upd); (case k5 => k_upd); (case S76 => assumption); (case k6 => k_upd); (case C55 => assumption); (case C48 => assumption); (case C76 => assumption); (case T => k_asm); (case hk => first | exact rfl | assumption); (case hP => (constructor <;> omega)); (case hd => ktr_room); (case hu => ktr_units)); intro r' h' tk' q' t8' rr' t9' p55' c55' o55' p48' c48' o48' e1 e2 F' N' TK' l1; subst e1 e2; (simp only [AllLt, and_true] at l1); (have b8 := allNe_of TK'.b55); (have b9 := allNe_of TK'.b48); (try simp only [AllNe, and_true] at b8); (try simp only [AllNe, and_true] at b9); (have b4 := TK'.b55); (have b5 := TK'.b48); (try have b6 := (TOk.tail TK').b55); (try have b7 := (TOk.tail TK').b48); (have n1' := TK'.n1); (have n2' := TK'.n2); (have n3' := TK'.n3); (have n4' := TK'.n4); (have n5' := TK'.n5); (have n6' := TK'.n6); (have m1' := TK'.m1); (have m2' := TK'.m2); (have m3' := TK'.m3); (have s1' := TK'.s55); (have s2' := TK'.s48); (try k_sweep)))
    | ((with_reducible show wpAny _ _ (eval (.Lambda _ _ _ _) _) _ _ _); (k_here; kn_here; k_dflt (refine' kla_eval ?d0 ?_; (case d0 => exact rfl)); k_dflt (refine' lam_any ?F ?N ?T ?C ?cd ?U ?mem ?k ?hs ?St ?p1 ?p2 ?cl ?_; (case F => k_asm); (case N => k_asm); (case T => k_asm); (case cd => exact rfl); (case C => kn_code); (case U => k_updF); (case St => assumption); (case mem => k_mem); (case k => with_reducible assumption); (case hs => (intro q hq; repeat' (first | exact hq | refine' List.Mem.tail _ ?_))); (case p1 => rfl); (case p2 => rfl); (case cl => exact rfl); k_whole); intro f' c' oc' ct' h' tk' F' N' d1' l1 b9 l2; (try dsimp only at N'); (have l3 := l2 _ (.head _)); (try dsimp only at l3); (replace l2 := fun q hq => l2 q (.tail _ hq)); obtain ⟨vs9, t9, d2', d3'⟩ := d1'; k_lt l2; replace l1 := Or.imp_right allLt_of l1; simp only [AllLt, and_true] at l1))
    | ((with_reducible show wpAny _ _ (call (.builtin "divmod") _) _ _ _); (k_here; k_dflt (refine' divmod_2 ?F ?N ?h1 ?h2 ?_; (case F => k_asm); (case N => k_asm); (case h1 => omega); (case h2 => omega)); intro r' h' t8' t9' tk' F' N' l1; k_lt l1; (try k_sweep)))
    | (skip; (with_reducible (first | (refine RevRest.succ (fun it' h' tk' hit' F' N' => ?_)) | (refine RevRest.zero (fun h' tk' F' N' => ?_)))))
    | ((with_reducible show UnrEnd _ _ _ _ _ _ _); ((rename Fr _ _ _ _ => lF'); (rename News _ _ _ _ => lN'); refine' unrEnd_cut lF' lN' ?cut ?_; (case cut => k_upd); (refine ⟨by k_mem, ?_⟩); (try clear lF' lN')))
    | ((with_reducible show wpAny _ _ (pyIter (.ref _)) _ _ _); ((with_reducible show wpAny _ _ (pyIter (Value.ref _)) (fun it s₂ => LoopAtV _ _ _ _ _ _ _ _ _ it s₂) _ _); (rename Fr _ _ _ _ => lF'); (rename News _ _ _ _ => lN'); k_dflt (refine' iter_revLit ?hh lF' lN' ?of ?mem ?c ?d ?e ?_; (case hh => rfl); (case mem => k_mem); (case of => k_all); (case c => rfl); (case d => rfl); (case e => (simp only [List.reverse_cons, List.reverse_nil, List.nil_append, List.cons_append]; rfl))); (try clear lF' lN')))
    | ((with_reducible show @ite _ _ _ _ _); (k_here; first | (with_reducible refine ite_dec_t (by omega) ?_) | (with_reducible refine ite_dec_f (by omega) ?_) | (with_reducible refine ite_ine_t (by omega) ?_) | (with_reducible refine ite_ine_f (by omega) ?_) | (with_reducible refine ite_ieq_t (by omega) ?_) | (with_reducible refine ite_ieq_f (by omega) ?_)))
    | ((with_reducible show wpAny _ _ (storeName _ _ _) _ _ _); (k_here; refine' store_norm ?e ?_; (case e => (simp only [Int.reduceAdd, Int.reduceSub, Int.reduceMul, Int.reduceFDiv, Int.reduceDiv]; rfl))))
    | ((with_reducible show wpAny _ _ (binaryOp .RShift (.int _ _) (.int _ _)) _ _ _); (k_here; refine' shr_lit ?e ?h1 ?h2 ?_; (case e => (simp only [Int.reduceToNat, Int.reducePow]; rfl)); (case h1 => decide); (case h2 => decide)))
    | ((with_reducible show wpAny _ _ (binaryOp .LShift (.int _ _) (.int _ _)) _ _ _); (k_here; refine' shl_lit ?e ?h1 ?h2 ?h3 ?_; (case e => (simp only [Int.reduceToNat, Int.reducePow]; rfl)); (case h1 => decide); (case h2 => decide); (case h3 => omega)))
    | ((with_reducible show wpAny _ _ (call (.builtin "int.bit_length") _) _ _ _); (k_here; first | (refine bl_known (by with_reducible assumption) ?_) | (refine bl_known (k := 2) (by decide) ?_) | (refine bl_bound (by omega) (by omega) (fun bl hb0 hb1 => ?_))))
    | ((with_reducible show wpAny _ _ (execs (_ :: _) _) _ _ _); (k_here; k_fold))
    | (k_end; wrow_close) | walk1 | (dsimp only; walk1) | (leave1; try dsimp only) | fail "no step")
  (rename Fr _ _ _ _ => lF'); (rename News _ _ _ _ => lN'); (rename HvOk _ _ _ _ _ _ _ _ _ _ => lok)
  obtain ⟨I9, Z9, N9⟩ := fin_hv lok (by assumption) lN'
  refine' hret _ _ _ _ _ _ _ _ _ _ _ I9 Z9 lF' N9 lok.tk lok.r55 lok.r48 lok.f55 lok.f48 ?e5
  simp only [AllLt]
  refine ⟨by omega, by omega, by omega, by omega, by omega, ?_⟩
  tbn_find
/- the walk _law_depths -/
theorem dp0 (w : World) : Cdp w 0 := by
  w_top off
  unfold Cdp
  intro mean mg mb dp un gd cn cs a ccd cl outer A₀ base h₀ L m news s x t1 p55 c55 o55 p48 c48 o48 p76 c76 o76 Q E B F X N TK C55 C48 C76 T hk h0 h1 h2 hd hu hret
  obtain ⟨s55, s48, s76, a55, a48, a76, b55, b48, b76, n1, n2, n3, n4, n5, n6, n7, n8, n9, m1, m2, m3⟩ := id TK
  revert X; k_fill; intro X
  refine wpAny_call ?_
  k_dflt ktr_enter
  repeat' (first
    | (k_unfold; (try dsimp only))
    | ((with_reducible show wpAny _ _ (call (.ref _) _) _ _ _); (k_here; (with_reducible show wpAny _ _ (call (Value.ref 95) _) _ _ _); (rename Cdp _ _ => hD'); k_dflt (refine' cdp_use hD' ?xB ?xF ?xX ?xN ?xk1 ?xS55 ?xk2 ?xk3 ?xS48 ?xk4 ?xk5 ?xS76 ?xk6 ?xC55 ?xC48 ?xC76 ?xT ?xhk ?xp0 ?xp1 ?xp2 ?xhd ?xhu ?_; (case xB => k_asm); (case xF => k_asm); (case xX => k_asm); (case xN => k_asm); (case xk1 => k_upd); (case xS55 => assumption); (case xk2 => k_upd); (case xk3 => k_upd); (case xS48 => assumption); (case xk4 => k_upd); (case xk5 => k_upd); (case xS76 => assumption); (case xk6 => k_upd); (case xC55 => assumption); (case xC48 => assumption); (case xC76 => assumption); (case xT => k_asm); (case xhk => first | exact rfl | assumption); (case xp0 => first | exact half0 (by assumption) (by assumption) | omega); (case xp1 => first | exact half1 (by assumption) (by assumption) (by assumption) | omega); (case xp2 => first | exact half2 (by assumption) (by assumption) (by assumption) | omega); (case xhd => ktr_room); (case xhu => ktr_units)); intro h' tk' t8' p55' c55' o55' p48' c48' o48' F' N' TK'; (have b8 := allNe_of TK'.b55); (have b9 := allNe_of TK'.b48); (try simp only [AllNe, and_true] at b8); (try simp only [AllNe, and_true] at b9); (have b4 := TK'.b55); (have b5 := TK'.b48); (try have b6 := (TOk.tail TK').b55); (try have b7 := (TOk.tail TK').b48); (have n1' := TK'.n1); (have n2' := TK'.n2); (have n3' := TK'.n3); (have n4' := TK'.n4); (have n5' := TK'.n5); (have n6' := TK'.n6); (have m1' := TK'.m1); (have m2' := TK'.m2); (have m3' := TK'.m3); (have s1' := TK'.s55); (have s2' := TK'.s48); (try k_sweep)))
    | ((with_reducible show wpAny _ _ (call (.ref _) _) _ _ _); (k_here; (with_reducible show wpAny _ _ (call (Value.ref 74) _) _ _ _); (rename Cdm _ _ => hC'); k_dflt (refine' cdm_use hC' ?B ?F ?X ?N ?k1 ?S55 ?k2 ?k3 ?S48 ?k4 ?k5 ?S76 ?k6 ?C55 ?C48 ?C76 ?T ?hk ?hP ?hd ?hu ?_; (case B => k_asm); (case F => k_asm); (case X => k_asm); (case N => k_asm); (case k1 => k_upd); (case S55 => assumption); (case k2 => k_upd); (case k3 => k_upd); (case S48 => assumption); (case k4 => k_upd); (case k5 => k_upd); (case S76 => assumption); (case k6 => k_upd); (case C55 => assumption); (case C48 => assumption); (case C76 => assumption); (case T => k_asm); (case hk => first | exact rfl | assumption); (case hP => (constructor <;> omega)); (case hd => ktr_room); (case hu => ktr_units)); intro r' h' tk' q' t8' rr' t9' p55' c55' o55' p48' c48' o48' e1 e2 F' N' TK' l1; subst e1 e2; (simp only [AllLt, and_true] at l1); (have b8 := allNe_of TK'.b55); (have b9 := allNe_of TK'.b48); (try simp only [AllNe, and_true] at b8); (try simp only [AllNe, and_true] at b9); (have b4 := TK'.b55); (have b5 := TK'.b48); (try have b6 := (TOk.tail TK').b55); (try have b7 := (TOk.tail TK').b48); (have n1' := TK'.n1); (have n2' := TK'.n2); (have n3' := TK'.n3); (have n4' := TK'.n4); (have n5' := TK'.n5); (have n6' := TK'.n6); (have m1' := TK'.m1); (have m2' := TK'.m2); (have m3' := TK'.m3); (have s1' := TK'.s55); (have s2' := TK'.s48); (try k_sweep)))
    | ((with_reducible show wpAny _ _ (eval (.Lambda _ _ _ _) _) _ _ _); (k_here; kn_here; k_dflt (refine' kla_eval ?d0 ?_; (case d0 => exact rfl)); k_dflt (refine' lam_any ?F ?N ?T ?C ?cd ?U ?mem ?k ?hs ?St ?p1 ?p2 ?cl ?_; (case F => k_asm); (case N => k_asm); (case T => k_asm); (case cd => exact rfl); (case C => kn_code); (case U => k_updF); (case St => assumption); (case mem => k_mem); (case k => with_reducible assumption); (case hs => (intro q hq; repeat' (first | exact hq | refine' List.Mem.tail _ ?_))); (case p1 => rfl); (case p2 => rfl); (case cl => exact rfl); k_whole); intro f' c' oc' ct' h' tk' F' N' d1' l1 b9 l2; (try dsimp only at N'); (have l3 := l2 _ (.head _)); (try dsimp only at l3); (replace l2 := fun q hq => l2 q (.tail _ hq)); obtain ⟨vs9, t9, d2', d3'⟩ := d1'; k_lt l2; replace l1 := Or.imp_right allLt_of l1; simp only [AllLt, and_true] at l1))
    | ((with_reducible show wpAny _ _ (call (.builtin "divmod") _) _ _ _); (k_here; k_dflt (refine' divmod_2 ?F ?N ?h1 ?h2 ?_; (case F => k_asm); (case N => k_asm); (case h1 => omega); (case h2 => omega)); intro r' h' t8' t9' tk' F' N' l1; k_lt l1; (try k_sweep)))
    | (skip; (with_reducible (first | (refine RevRest.succ (fun it' h' tk' hit' F' N' => ?_)) | (refine RevRest.zero (fun h' tk' F' N' => ?_)))))
    | ((with_reducible show UnrEnd _ _ _ _ _ _ _); ((rename Fr _ _ _ _ => lF'); (rename News _ _ _ _ => lN'); refine' unrEnd_cut lF' lN' ?cut ?_; (case cut => k_upd); (refine ⟨by k_mem, ?_⟩); (try clear lF' lN')))
    | ((with_reducible show wpAny _ _ (pyIter (.ref _)) _ _ _); ((with_reducible show wpAny _ _ (pyIter (Value.ref _)) (fun it s₂ => LoopAtV _ _ _ _ _ _ _ _ _ it s₂) _ _); (rename Fr _ _ _ _ => lF'); (rename News _ _ _ _ => lN'); k_dflt (refine' iter_revLit ?hh lF' lN' ?of ?mem ?c ?d ?e ?_; (case hh => rfl); (case mem => k_mem); (case of => k_all); (case c => rfl); (case d => rfl); (case e => (simp only [List.reverse_cons, List.reverse_nil, List.nil_append, List.cons_append]; rfl))); (try clear lF' lN')))
    | ((with_reducible show @ite _ _ _ _ _); (k_here; first | (with_reducible refine ite_dec_t (by omega) ?_) | (with_reducible refine ite_dec_f (by omega) ?_) | (with_reducible refine ite_ine_t (by omega) ?_) | (with_reducible refine ite_ine_f (by omega) ?_) | (with_reducible refine ite_ieq_t (by omega) ?_) | (with_reducible refine ite_ieq_f (by omega) ?_)))
    | ((with_reducible show wpAny _ _ (storeName _ _ _) _ _ _); (k_here; refine' store_norm ?e ?_; (case e => (simp only [Int.reduceAdd, Int.reduceSub, Int.reduceMul, Int.reduceFDiv, Int.reduceDiv]; rfl))))
    | ((with_reducible show wpAny _ _ (binaryOp .RShift (.int _ _) (.int _ _)) _ _ _); (k_here; refine' shr_lit ?e ?h1 ?h2 ?_; (case e => (simp only [Int.reduceToNat, Int.reducePow]; rfl)); (case h1 => decide); (case h2 => decide)))
    | ((with_reducible show wpAny _ _ (binaryOp .LShift (.int _ _) (.int _ _)) _ _ _); (k_here; refine' shl_lit ?e ?h1 ?h2 ?h3 ?_; (case e => (simp only [Int.reduceToNat, Int.reducePow]; rfl)); (case h1 => decide); (case h2 => decide); (case h3 => omega)))
    | ((with_reducible show wpAny _ _ (call (.builtin "int.bit_length") _) _ _ _); (k_here; first | (refine bl_known (by with_reducible assumption) ?_) | (refine bl_known (k := 2) (by decide) ?_) | (refine bl_bound (by omega) (by omega) (fun bl hb0 hb1 => ?_))))
    | ((with_reducible show wpAny _ _ (execs (_ :: _) _) _ _ _); (k_here; k_fold))
    | (k_end; wrow_close) | walk1 | (dsimp only; walk1) | (leave1; try dsimp only) | fail "no step")
  (rename Fr _ _ _ _ => lF'); (rename News _ _ _ _ => lN')
  exact hret _ _ _ _ _ _ _ _ _ lF' lN' TK
theorem dpS (w : World) (k : Nat) (hC : Cdm w (fun x => 0 ≤ x ∧ x < 64)) (IH : Cdp w k) : Cdp w (k + 1) := by
  w_top off
  unfold Cdp
  intro mean mg mb dp un gd cn cs a ccd cl outer A₀ base h₀ L m news s x t1 p55 c55 o55 p48 c48 o48 p76 c76 o76 Q E B F X N TK C55 C48 C76 T hk h0 h1 h2 hd hu hret
  obtain ⟨s55, s48, s76, a55, a48, a76, b55, b48, b76, n1, n2, n3, n4, n5, n6, n7, n8, n9, m1, m2, m3⟩ := id TK
  revert X; k_fill; intro X
  refine wpAny_call ?_
  k_dflt ktr_enter
  repeat' (first
    | (k_unfold; (try dsimp only))
    | ((with_reducible show wpAny _ _ (call (.ref _) _) _ _ _); (k_here; (with_reducible show wpAny _ _ (call (Value.ref 95) _) _ _ _); (rename Cdp _ _ => hD'); k_dflt (refine' cdp_use hD' ?xB ?xF ?xX ?xN ?xk1 ?xS55 ?xk2 ?xk3 ?xS48 ?xk4 ?xk5 ?xS76 ?xk6 ?xC55 ?xC48 ?xC76 ?xT ?xhk ?xp0 ?xp1 ?xp2 ?xhd ?xhu ?_; (case xB => k_asm); (case xF => k_asm); (case xX => k_asm); (case xN => k_asm); (case xk1 => k_upd); (case xS55 => assumption); (case xk2 => k_upd); (case xk3 => k_upd); (case xS48 => assumption); (case xk4 => k_upd); (case xk5 => k_upd); (case xS76 => assumption); (case xk6 => k_upd); (case xC55 => assumption); (case xC48 => assumption); (case xC76 => assumption); (case xT => k_asm); (case xhk => first | exact rfl | assumption); (case xp0 => first | exact half0 (by assumption) (by assumption) | omega); (case xp1 => first | exact half1 (by assumption) (by assumption) (by assumption) | omega); (case xp2 => first | exact half2 (by assumption) (by assumption) (by assumption) | omega); (case xhd => ktr_room); (case xhu => ktr_units)); intro h' tk' t8' p55' c55' o55' p48' c48' o48' F' N' TK'; (have b8 := allNe_of TK'.b55); (have b9 := allNe_of TK'.b48); (try simp only [AllNe, and_true] at b8); (try simp only [AllNe, and_true] at b9); (have b4 := TK'.b55); (have b5 := TK'.b48); (try have b6 := (TOk.tail TK').b55); (try have b7 := (TOk.tail TK').b48); (have n1' := TK'.n1); (have n2' := TK'.n2); (have n3' := TK'.n3); (have n4' := TK'.n4); (have n5' := TK'.n5); (have n6' := TK'.n6); (have m1' := TK'.m1); (have m2' := TK'.m2); (have m3' := TK'.m3); (have s1' := TK'.s55); (have s2' := TK'.s48); (try k_sweep)))
    | ((with_reducible show wpAny _ _ (call (.ref _) _) _ _ _); (k_here; (with_reducible show wpAny _ _ (call (Value.ref 74) _) _ _ _); (rename Cdm _ _ => hC'); k_dflt (refine' cdm_use hC' ?B ?F ?X ?N ?k1 ?S55 ?k2 ?k3 ?S48 ?k4 ?k5 ?S76 ?k6 ?C55 ?C48 ?C76 ?T ?hk ?hP ?hd ?hu ?_; (case B => k_asm); (case F => k_asm); (case X => k_asm); (case N => k_asm); (case k1 => k_upd); (case S55 => assumption); (case k2 => k_upd); (case k3 => k_upd); (case S48 => assumption); (case k4 => k_upd); (case k5 => k_upd); (case S76 => assumption); (case k6 => k_upd); (case C55 => assumption); (case C48 => assumption); (case C76 => assumption); (case T => k_asm); (case hk => first | exact rfl | assumption); (case hP => (constructor <;> omega)); (case hd => ktr_room); (case hu => ktr_units)); intro r' h' tk' q' t8' rr' t9' p55' c55' o55' p48' c48' o48' e1 e2 F' N' TK' l1; subst e1 e2; (simp only [AllLt, and_true] at l1); (have b8 := allNe_of TK'.b55); (have b9 := allNe_of TK'.b48); (try simp only [AllNe, and_true] at b8); (try simp only [AllNe, and_true] at b9); (have b4 := TK'.b55); (have b5 := TK'.b48); (try have b6 := (TOk.tail TK').b55); (try have b7 := (TOk.tail TK').b48); (have n1' := TK'.n1); (have n2' := TK'.n2); (have n3' := TK'.n3); (have n4' := TK'.n4); (have n5' := TK'.n5); (have n6' := TK'.n6); (have m1' := TK'.m1); (have m2' := TK'.m2); (have m3' := TK'.m3); (have s1' := TK'.s55); (have s2' := TK'.s48); (try k_sweep)))
    | ((with_reducible show wpAny _ _ (eval (.Lambda _ _ _ _) _) _ _ _); (k_here; kn_here; k_dflt (refine' kla_eval ?d0 ?_; (case d0 => exact rfl)); k_dflt (refine' lam_any ?F ?N ?T ?C ?cd ?U ?mem ?k ?hs ?St ?p1 ?p2 ?cl ?_; (case F => k_asm); (case N => k_asm); (case T => k_asm); (case cd => exact rfl); (case C => kn_code); (case U => k_updF); (case St => assumption); (case mem => k_mem); (case k => with_reducible assumption); (case hs => (intro q hq; repeat' (first | exact hq | refine' List.Mem.tail _ ?_))); (case p1 => rfl); (case p2 => rfl); (case cl => exact rfl); k_whole); intro f' c' oc' ct' h' tk' F' N' d1' l1 b9 l2; (try dsimp only at N'); (have l3 := l2 _ (.head _)); (try dsimp only at l3); (replace l2 := fun q hq => l2 q (.tail _ hq)); obtain ⟨vs9, t9, d2', d3'⟩ := d1'; k_lt l2; replace l1 := Or.imp_right allLt_of l1; simp only [AllLt, and_true] at l1))
    | ((with_reducible show wpAny _ _ (call (.builtin "divmod") _) _ _ _); (k_here; k_dflt (refine' divmod_2 ?F ?N ?h1 ?h2 ?_; (case F => k_asm); (case N => k_asm); (case h1 => omega); (case h2 => omega)); intro r' h' t8' t9' tk' F' N' l1; k_lt l1; (try k_sweep)))
    | (skip; (with_reducible (first | (refine RevRest.succ (fun it' h' tk' hit' F' N' => ?_)) | (refine RevRest.zero (fun h' tk' F' N' => ?_)))))
    | ((with_reducible show UnrEnd _ _ _ _ _ _ _); ((rename Fr _ _ _ _ => lF'); (rename News _ _ _ _ => lN'); refine' unrEnd_cut lF' lN' ?cut ?_; (case cut => k_upd); (refine ⟨by k_mem, ?_⟩); (try clear lF' lN')))
    | ((with_reducible show wpAny _ _ (pyIter (.ref _)) _ _ _); ((with_reducible show wpAny _ _ (pyIter (Value.ref _)) (fun it s₂ => LoopAtV _ _ _ _ _ _ _ _ _ it s₂) _ _); (rename Fr _ _ _ _ => lF'); (rename News _ _ _ _ => lN'); k_dflt (refine' iter_revLit ?hh lF' lN' ?of ?mem ?c ?d ?e ?_; (case hh => rfl); (case mem => k_mem); (case of => k_all); (case c => rfl); (case d => rfl); (case e => (simp only [List.reverse_cons, List.reverse_nil, List.nil_append, List.cons_append]; rfl))); (try clear lF' lN')))
    | ((with_reducible show @ite _ _ _ _ _); (k_here; first | (with_reducible refine ite_dec_t (by omega) ?_) | (with_reducible refine ite_dec_f (by omega) ?_) | (with_reducible refine ite_ine_t (by omega) ?_) | (with_reducible refine ite_ine_f (by omega) ?_) | (with_reducible refine ite_ieq_t (by omega) ?_) | (with_reducible refine ite_ieq_f (by omega) ?_)))
    | ((with_reducible show wpAny _ _ (storeName _ _ _) _ _ _); (k_here; refine' store_norm ?e ?_; (case e => (simp only [Int.reduceAdd, Int.reduceSub, Int.reduceMul, Int.reduceFDiv, Int.reduceDiv]; rfl))))
    | ((with_reducible show wpAny _ _ (binaryOp .RShift (.int _ _) (.int _ _)) _ _ _); (k_here; refine' shr_lit ?e ?h1 ?h2 ?_; (case e => (simp only [Int.reduceToNat, Int.reducePow]; rfl)); (case h1 => decide); (case h2 => decide)))
    | ((with_reducible show wpAny _ _ (binaryOp .LShift (.int _ _) (.int _ _)) _ _ _); (k_here; refine' shl_lit ?e ?h1 ?h2 ?h3 ?_; (case e => (simp only [Int.reduceToNat, Int.reducePow]; rfl)); (case h1 => decide); (case h2 => decide); (case h3 => omega)))
    | ((with_reducible show wpAny _ _ (call (.builtin "int.bit_length") _) _ _ _); (k_here; first | (refine bl_known (by with_reducible assumption) ?_) | (refine bl_known (k := 2) (by decide) ?_) | (refine bl_bound (by omega) (by omega) (fun bl hb0 hb1 => ?_))))
    | ((with_reducible show wpAny _ _ (execs (_ :: _) _) _ _ _); (k_here; k_fold))
    | (k_end; wrow_close) | walk1 | (dsimp only; walk1) | (leave1; try dsimp only) | fail "no step")
  · (rename Fr _ _ _ _ => lF'); (rename News _ _ _ _ => lN')
    have e : depF (k + 1) x = 0 := by unfold depF; rw [if_pos (by omega)]
    rw [← e]
    exact hret _ _ _ _ _ _ _ _ _ lF' lN' TK
  · (rename Fr _ _ _ _ => lF'); (rename News _ _ _ _ => lN'); (rename TOk _ _ _ _ _ _ _ _ _ _ => lT')
    have e : depF (k + 1) x = x + 1 + depF k (x / 2) + depF k (x / 2 + x % 2 - 1) := by
      show (if x = 0 then 0 else x + 1 + depF k (x / 2) + depF k (x / 2 + x % 2 - 1)) = _
      rw [if_neg (by omega)]
    rw [← e]
    refine hret _ _ _ _ _ _ _ _ _ lF' ?_ lT'.tail
    exact fun q hq => lN' q (by
      rcases List.mem_cons.mp hq with rfl | hq
      · exact .head _
      rcases List.mem_cons.mp hq with rfl | hq
      · exact .tail _ (.head _)
      rcases List.mem_cons.mp hq with rfl | hq
      · exact .tail _ (.tail _ (.head _))
      rcases List.mem_cons.mp hq with rfl | hq
      · exact .tail _ (.tail _ (.tail _ (.head _)))
      rcases List.mem_cons.mp hq with rfl | hq
      · exact .tail _ (.tail _ (.tail _ (.tail _ (.head _))))
      rcases List.mem_cons.mp hq with rfl | hq
      · exact .tail _ (.tail _ (.tail _ (.tail _ (.tail _ (.head _)))))
      · exact .tail _ (.tail _ (.tail _ (.tail _ (.tail _ (.tail _ (.tail _ hq)))))))
end
end Mine
namespace Mine
section
local macro_rules | `(tactic| k_ne) => `(tactic| ((try dsimp only); first | with_reducible assumption | (refine Ne.symm ?_; with_reducible assumption) | (refine neN ?_; (try dsimp only); omega)))
local macro_rules | `(tactic| k_all) => `(tactic| first | exact List.forall_mem_nil _ | (tbn_letter; first | with_reducible assumption | (refine tbn_neAll ?_; tbn_find) | (refine' tbn_neAll (tbn_up ?hlt ?hk); (case hk => tbn_find); (case hlt => omega))) | (refine List.forall_mem_cons.mpr ⟨by k_ne, ?_⟩; k_all))
local macro_rules | `(tactic| k_room) => `(tactic| ktr_room)
local macro_rules | `(tactic| k_upd) => `(tactic| first | (refine' CutI.head ?a; (case a => k_all)) | (refine' CutI.tail ?a ?b; (case a => k_ne); (case b => k_upd)))
/- the walk law -/
theorem lawT (hI : ∀ w, Cid w) (hLL : ∀ w, Clk w 32 (fun x v => decide (v < x))) (hLR : ∀ w, Clk w 23 (fun x v => decide (v ≤ x))) (hHV : ∀ w, Chv w) (hDP : ∀ w, Cdp w 12) : PySem.Challenge.rw_gm0007_01.Holds := hd (by
  w_top off
  k_go0
  (all_goals try k_fold)
  rename World => w9
  rename List Int => ns9
  obtain ⟨mm, hmm⟩ : ∃ mm : Int, mm = ns9.sum % 13 := ⟨_, rfl⟩
  have hm0 : 0 ≤ mm := by omega
  have hm1 : mm ≤ 12 := by omega
  have hW9 : WMark (wsum mm) := trivial
  obtain ⟨hrl9, hrl8⟩ := row_lens hm0 hm1
  have hnb9 := nbits_le mm
  have hdep9 := depfact hm0 hm1
  have hI9 := hI w9
  have hLL9 := hLL w9
  have hLR9 := hLR w9
  have hHV9 := hHV w9
  have hDP9 := hDP w9
  repeat' (first
    | (k_unfold; (try dsimp only))
    | ((with_reducible show wpAny _ _ (truthy (.ref _)) _ _ _); (k_here; (with_reducible show wpAny _ _ (truthy (Value.ref _)) _ _ _); (rename News _ _ _ _ => lN'); k_dflt (refine' truthy_nil lN' ?ym ?yi ?ye ?_; (case ym => k_mem); (case yi => with_reducible assumption); (case ye => with_reducible assumption))))
    | ((with_reducible show UnrEnd _ _ _ _ _ _ _); ((rename Fr _ _ _ _ => lF'); (rename News _ _ _ _ => lN'); (rename TOk _ _ _ _ _ _ _ _ _ _ => lT'); k_dflt (refine' unrEnd_law2 lF' lN' lT' ?vuI ?vu55 ?vuc55 ?vu48 ?vuc48 ?vu76 ?vuc76 ?vwx ?vw0 ?vw1 ?vw2 ?vw3 ?vw4 ?vx0 ?vx1 ?vx2 ?vx3 ?vx4 ?vx5 ?vx6 ?vx7 ?vx8 ?vx9 ?vx10 ?vx11 ?vd2 ?vhw ?vhm; (case vuI => k_mem); (case vu55 => k_mem); (case vuc55 => k_mem); (case vu48 => k_mem); (case vuc48 => k_mem); (case vu76 => k_mem); (case vuc76 => k_mem); (case vwx => exact ⟨by k_mem, by k_mem⟩); (case vw0 => exact ⟨by k_mem, by k_mem⟩); (case vw1 => exact ⟨by k_mem, by k_mem⟩); (case vw2 => exact ⟨by k_mem, by k_mem⟩); (case vw3 => exact ⟨by k_mem, by k_mem⟩); (case vw4 => exact ⟨by k_mem, by k_mem⟩); (case vx0 => k_ne); (case vx1 => k_ne); (case vx2 => k_ne); (case vx3 => k_ne); (case vx4 => k_ne); (case vx5 => k_ne); (case vx6 => k_ne); (case vx7 => k_ne); (case vx8 => k_ne); (case vx9 => k_ne); (case vx10 => k_ne); (case vx11 => k_ne); (case vd2 => with_reducible assumption); (case vhw => rfl); (case vhm => (intro z h1 h2 h3 h4 h5; simp only [lwMap, if_neg h1, if_neg h2, if_neg h3, if_neg h4, if_neg h5])))))
    | ((with_reducible show wpAny _ _ (pyIter (.ref _)) _ _ _); ((with_reducible show wpAny _ _ (pyIter (Value.ref _)) (fun it s₂ => TurnsAt _ _ _ _ _ _ _ _ _ it s₂) _ _); (rename Fr _ _ _ _ => lF'); (rename News _ _ _ _ => lN'); (repeat (rename (_ ∧ _) => q9; have q8 := And.left q9; have q7 := And.right q9; clear q9)); (repeat (rename @LT.lt Nat _ _ _ => q9; have q8 := neA_of_lt q9; clear q9)); k_dflt (refine' law_loop2 ?tW ?th ?tm ?tv lF' lN' ?tJ ?_ ?_; (case tW => assumption); (case tm => k_mem); (case th => rfl); (case tv => (intro v hv; (simp only [List.mem_cons, List.not_mem_nil, or_false] at hv); rcases hv with hv | hv | hv <;> exact ⟨_, _, hv, by first | exact .inl rfl | exact .inr (.inl rfl) | exact .inr (.inr rfl)⟩)); (case tJ => (refine' lw_intro2 ?tk1 ?tS55 ?tk2 ?tk3 ?tS48 ?tk4 ?tk5 ?tS76 ?tk6 ?tmx ?tm0 ?tm1 ?tm2 ?tm3 ?tm4 ?td2 ?thw ?thm; (case tk1 => k_upd); (case tS55 => with_reducible assumption); (case tk2 => k_upd); (case tk3 => k_upd); (case tS48 => with_reducible assumption); (case tk4 => k_upd); (case tk5 => k_upd); (case tS76 => with_reducible assumption); (case tk6 => k_upd); (case tmx => exact .head _); (case tm0 => exact (.tail _ (.tail _ (.tail _ (.tail _ (.tail _ (.head _))))))); (case tm1 => exact (.tail _ (.tail _ (.tail _ (.tail _ (.tail _ (.tail _ (.head _)))))))); (case tm2 => exact (.tail _ (.tail _ (.tail _ (.tail _ (.tail _ (.tail _ (.tail _ (.head _))))))))); (case tm3 => exact (.tail _ (.tail _ (.tail _ (.tail _ (.tail _ (.tail _ (.tail _ (.tail _ (.head _)))))))))); (case tm4 => exact (.tail _ (.tail _ (.tail _ (.tail _ (.tail _ (.tail _ (.tail _ (.tail _ (.tail _ (.head _))))))))))); (case td2 => with_reducible assumption); (case thw => rfl); (case thm => (intros; rfl)))); ((intro x' c' u' h' tk' t' I' it' hP' ok' hoff' F' N'; (try clear lF' lN'); (revert F' N'); (repeat (rename Fr _ _ _ _ => q9; clear q9)); (repeat (rename News _ _ _ _ => q9; clear q9)); (intro F' N'); (have TK9' := ok'.tk); (have d2' := ok'.d2); (have s1' := TK9'.s55); (have s2' := TK9'.s48); (have s3' := TK9'.s76); (have b1' := TK9'.nesA); (have b2' := allNeA_of TK9'.a55); (have b3' := allNeA_of TK9'.a48); (have b4' := allNeA_of TK9'.a76); (have b5' := allNeA_of TK9'.b55); (have b6' := allNeA_of TK9'.b48); (have b7' := allNeA_of TK9'.b76); (have b8' := allNeA_of hoff'); (simp only [AllNeA, and_true] at b2' b3' b4' b5' b6' b7'); (simp only [AllNeA, and_true] at b8'); (clear hoff'); (repeat (rename (_ ∧ _) => q9; have q8 := And.left q9; have q7 := And.right q9; clear q9)); (repeat (rename @LT.lt Nat _ _ _ => q9; have q8 := neA_of_lt q9; clear q9))); rotate_left; (intro c' u' h' tk' ok' F' N'; (try clear lF' lN'); (revert F' N'); (repeat (rename Fr _ _ _ _ => q9; clear q9)); (repeat (rename News _ _ _ _ => q9; clear q9)); (intro F' N')); rotate_right))))
    | ((with_reducible show wpAny _ _ (exec (.For _ (.List _ _) _ _ _) _) _ _ _); (k_here; (rename Fr _ _ _ _ => lF'); (with_unfolding_all refine' For_turns lF' ?_; k_whole)))
    | (k_end; (k_here; (rename Fr _ _ _ _ => lF'); k_dflt (refine ⟨?ga, ?gb⟩; (case ga => (refine' goodW_bool (b := true) lF' ?g1 ?g2 ?g3; (case g1 => assumption); (case g2 => exact fun _ => rfl); (case g3 => with_unfolding_all rfl))))))
    | ((with_reducible show wpAny _ _ (execs (.For _ _ _ _ _ :: _) _) _ _ _); (k_here; (with_reducible refine wpAny_execs_cons ?_)))
    | ((with_reducible show UnrEnd _ _ _ _ _ _ _); ((rename Fr _ _ _ _ => lF'); (rename News _ _ _ _ => lN'); (rename TOk _ _ _ _ _ _ _ _ _ _ => lT'); k_dflt (refine' unrEnd_law lF' lN' lT' ?uI ?u55 ?uc55 ?u48 ?uc48 ?u76 ?uc76 ?w0 ?w1 ?w2 ?w3 ?w4 ?x0 ?x1 ?x2 ?x3 ?x4 ?x5 ?x6 ?x7 ?x8 ?x9 ?x10 ?ud2 ?uhw ?uhV ?uhm; (case uI => k_mem); (case u55 => k_mem); (case uc55 => k_mem); (case u48 => k_mem); (case uc48 => k_mem); (case u76 => k_mem); (case uc76 => k_mem); (case w0 => exact ⟨by k_mem, by k_mem⟩); (case w1 => exact ⟨by k_mem, by k_mem⟩); (case w2 => exact ⟨by k_mem, by k_mem⟩); (case w3 => exact ⟨by k_mem, by k_mem⟩); (case w4 => exact ⟨by k_mem, by k_mem⟩); (case x0 => k_ne); (case x1 => k_ne); (case x2 => k_ne); (case x3 => k_ne); (case x4 => k_ne); (case x5 => k_ne); (case x6 => k_ne); (case x7 => k_ne); (case x8 => k_ne); (case x9 => k_ne); (case x10 => k_ne); (case ud2 => with_reducible assumption); (case uhw => rfl); (case uhV => first | exact wsum_odd' (by with_reducible assumption) (by with_reducible assumption) (by with_reducible assumption) | exact wsum_even (by with_reducible assumption) (by with_reducible assumption)); (case uhm => (intro z h1 h2 h3 h4 h5; simp only [lwMap, if_neg h1, if_neg h2, if_neg h3, if_neg h4, if_neg h5])))))
    | ((with_reducible show wpAny _ _ (compareOp .NotIn (.int _ _) (.ref _)) _ _ _); (k_here; (rename News _ _ _ _ => lN'); k_dflt (first
  | (refine' notin_yes lN' ?wm ?wi ?we ?_; (case wm => k_mem); (case wi => with_reducible assumption); (case we => exact lf_mem (by with_reducible assumption) (by with_reducible assumption) (by with_reducible assumption) (by with_reducible assumption)))
  | (refine' notin_any lN' ?wm ?wi ?_; (case wm => k_mem); (case wi => with_reducible assumption)))))
    | ((with_reducible show wpAny _ _ (compareOp .In (.int _ _) (.ref _)) _ _ _); (k_here; (rename News _ _ _ _ => lN'); k_dflt (refine' in_split lN' ?wm ?wi (fun in' => ?_) (fun in' => ?_); (case wm => k_mem); (case wi => with_reducible assumption))))
    | ((with_reducible show wpAny _ _ (compareOp .NotEq (.ref _) (.ref _)) _ _ _); (k_here; (rename News _ _ _ _ => lN'); k_dflt (refine' ne_intsE lN' ?qa ?qb ?qc ?qd ?qe ?qu ?_; (case qa => k_mem); (case qb => k_mem); (case qc => with_reducible assumption); (case qd => with_reducible assumption); (case qe => assumption); (case qu => units_room))))
    | ((with_reducible show FTest _ _ _ _ _ _ _ _); ((rename Fr _ _ _ _ => lF'); (rename News _ _ _ _ => lN'); k_dflt (refine' ftest_intro lF' lN' ?fe ?fs; (case fe => rfl); (case fs => first | exact fun q hq => hq | (intro q hq; repeat' (first | exact hq | refine' List.Mem.tail _ ?_))))))
    | ((with_reducible show LCt.CompSrcT _ _ _ _ _ _ _ _ _ _ _ _ _ _ _); (k_here; (rename Fr _ _ _ _ => lF'); (rename News _ _ _ _ => lN'); k_dflt (first
  | (refine' filt_lt (by rfl) (by rfl) lF' lN' ?qi ?qm ?qs (fun g' k' t' I' oI' C' oC' D' m' ys' h' tk' E' hk' hC' hx' F' N' off' ne' => ?_) (fun g' ys' hI' hl' hz' => ?_); (case qm => k_mem); (case qi => with_reducible assumption); (case qs => omega); (all_goals (try (simp only [LCg.Off3, and_true] at off'))); (all_goals (try clear lF' lN')); kcf_last)
  | (refine' filt_le (by rfl) (by rfl) lF' lN' ?qi ?qm ?qs (fun g' k' t' I' oI' C' oC' D' m' ys' h' tk' E' hk' hC' hx' F' N' off' ne' => ?_) (fun g' ys' hI' hl' hz' => ?_); (case qm => k_mem); (case qi => with_reducible assumption); (case qs => omega); (all_goals (try (simp only [LCg.Off3, and_true] at off'))); (all_goals (try clear lF' lN')); kcf_last)
  | (refine' filt_ni (by rfl) (by rfl) lF' lN' ?qi ?qm ?qs (fun g' k' t' I' oI' C' oC' D' m' ys' h' tk' E' hk' hC' hx' F' N' off' ne' => ?_) (fun g' ys' hI' hl' hz' => ?_); (case qm => k_mem); (case qi => with_reducible assumption); (case qs => omega); (all_goals (try (simp only [LCg.Off3, and_true] at off'))); (all_goals (try clear lF' lN')); kcf_last))))
    | ((with_reducible show wpAny _ _ (eval (.ListComp _ _ _ _) _) _ _ _); (k_here; lct_look; k_dflt (refine LCt.ListComp_T (F₀ := by k_asm) (by with_unfolding_all rfl) (by decide) (by rfl) (by decide) (by rfl) ?_)))
    | ((with_reducible show wpAny _ _ (call (.ref _) _) _ _ _); (k_here; (with_reducible show wpAny _ _ (call (Value.ref 95) _) _ _ _); (rename Cdp _ _ => hDp); k_dflt (refine' cdp_use hDp ?xB ?xF ?xX ?xN ?xk1 ?xS55 ?xk2 ?xk3 ?xS48 ?xk4 ?xk5 ?xS76 ?xk6 ?xC55 ?xC48 ?xC76 ?xT ?xhk ?xp0 ?xp1 ?xp2 ?xhd ?xhu ?_; (case xB => k_asm); (case xF => k_asm); (case xX => k_asm); (case xN => k_asm); (case xk1 => k_upd); (case xS55 => first | with_reducible assumption | assumption); (case xk2 => k_upd); (case xk3 => k_upd); (case xS48 => first | with_reducible assumption | assumption); (case xk4 => k_upd); (case xk5 => k_upd); (case xS76 => first | with_reducible assumption | assumption); (case xk6 => k_upd); (case xC55 => first | with_reducible assumption | assumption); (case xC48 => first | with_reducible assumption | assumption); (case xC76 => first | with_reducible assumption | assumption); (case xT => k_asm); (case xhk => first | exact rfl | with_reducible assumption | assumption); (case xp0 => omega); (case xp1 => omega); (case xp2 => omega); (case xhd => ktr_room); (case xhu => ktr_units)); intro h' tk' t8' p55' c55' o55' p48' c48' o48' F' N' TK'; (have s1' := TK'.s55); (have s2' := TK'.s48); (have s3' := TK'.s76); (have b1' := TK'.nesA); (have b2' := allNeA_of TK'.a55); (have b3' := allNeA_of TK'.a48); (have b4' := allNeA_of TK'.a76); (have b5' := allNeA_of TK'.b55); (have b6' := allNeA_of TK'.b48); (have b7' := allNeA_of TK'.b76); (simp only [AllNeA, and_true] at b2' b3' b4' b5' b6' b7'); (repeat (rename (_ ∧ _) => q9; have q8 := And.left q9; have q7 := And.right q9; clear q9)); (try k_sweep)))
    | ((with_reducible show wpAny _ _ (call (.ref _) _) _ _ _); (k_here; (with_reducible show wpAny _ _ (call (Value.ref 88) _) _ _ _); (rename Chv _ => hHv); k_dflt (refine' chv_use hHv ?vB ?vF ?vX ?vN ?vk1 ?vS55 ?vk2 ?vk3 ?vS48 ?vk4 ?vk5 ?vS76 ?vk6 ?vk7 ?vhI ?vC55 ?vC48 ?vC76 ?vT ?vhk ?vb0 ?vb1 ?vb2 ?vb3 ?vhd ?vhu ?_; (case vB => k_asm); (case vF => k_asm); (case vX => k_asm); (case vN => k_asm); (case vk1 => k_upd); (case vS55 => first | with_reducible assumption | assumption); (case vk2 => k_upd); (case vk3 => k_upd); (case vS48 => first | with_reducible assumption | assumption); (case vk4 => k_upd); (case vk5 => k_upd); (case vS76 => first | with_reducible assumption | assumption); (case vk6 => k_upd); (case vk7 => k_upd); (case vhI => first | with_reducible assumption | assumption); (case vC55 => first | with_reducible assumption | assumption); (case vC48 => first | with_reducible assumption | assumption); (case vC76 => first | with_reducible assumption | assumption); (case vT => k_asm); (case vhk => first | exact rfl | with_reducible assumption | assumption); (case vb0 => omega); (case vb1 => omega); (case vb2 => omega); (case vb3 => omega); (case vhd => ktr_room); (case vhu => ktr_units)); intro r' h' tk' its' n' p55' c55' o55' p48' c48' o48' I9' Z' F' N' TK' d2' d3' d4'; (have g1' := allNeA_lt d4'); (simp only [AllNeA, and_true] at g1'); (have g2' := neA d2'); (have g3' := neA d3'); (clear d2' d3' d4'); (have s1' := TK'.s55); (have s2' := TK'.s48); (have s3' := TK'.s76); (have b1' := TK'.nesA); (have b2' := allNeA_of TK'.a55); (have b3' := allNeA_of TK'.a48); (have b4' := allNeA_of TK'.a76); (have b5' := allNeA_of TK'.b55); (have b6' := allNeA_of TK'.b48); (have b7' := allNeA_of TK'.b76); (simp only [AllNeA, and_true] at b2' b3' b4' b5' b6' b7'); (repeat (rename (_ ∧ _) => q9; have q8 := And.left q9; have q7 := And.right q9; clear q9)); (try k_sweep)))
    | ((with_reducible show wpAny _ _ (call (.ref _) _) _ _ _); (k_here; (with_reducible show wpAny _ _ (call (Value.ref 81) _) _ _ _); (with_reducible show wpAny _ _ (call (Value.ref _) (Value.ref 23 :: _)) _ _ _); (rename Clk _ 23 _ => hLk); k_dflt (refine' clk_use hLk ?zB ?zF ?zX ?zN ?zk1 ?zS55 ?zk2 ?zk3 ?zS48 ?zk4 ?zk5 ?zS76 ?zk6 ?zk7 ?zhI ?zC55 ?zC48 ?zC76 ?zT ?zhk ?zb0 ?zb1 ?zb2 ?zb3 ?zhd ?zhu ?_; (case zB => k_asm); (case zF => k_asm); (case zX => k_asm); (case zN => k_asm); (case zk1 => k_upd); (case zS55 => first | with_reducible assumption | assumption); (case zk2 => k_upd); (case zk3 => k_upd); (case zS48 => first | with_reducible assumption | assumption); (case zk4 => k_upd); (case zk5 => k_upd); (case zS76 => first | with_reducible assumption | assumption); (case zk6 => k_upd); (case zk7 => k_upd); (case zhI => first | with_reducible assumption | assumption); (case zC55 => first | with_reducible assumption | assumption); (case zC48 => first | with_reducible assumption | assumption); (case zC76 => first | with_reducible assumption | assumption); (case zT => k_asm); (case zhk => first | exact rfl | with_reducible assumption | assumption); (case zb0 => omega); (case zb1 => omega); (case zb2 => omega); (case zb3 => omega); (case zhd => ktr_room); (case zhu => ktr_units)); intro r' lk' h' tk' its' n' pl' t' ns' p76' c76' o76' R' I9' Z' F' N' TK' d2' d3' d4' d5'; (have g1' := allNeA_lt d5'); (have g2' := allNeA_lts d3' d5'); (simp only [AllNeA, and_true] at g1' g2'); (have g3' := neA d2'); (have g4' := neA_of_lt d3'); (have g5' := neA_of_lt d4'); (clear d2' d3' d4' d5'); (first | (have lk' := lkL_turn (by assumption) R' I9') | (have lk' := lkR_turn (by assumption) R' I9') | (have lk' := lk2_turn (by omega) (by omega) (by omega) (by omega) (by with_reducible assumption) R' I9') | skip); (have s1' := TK'.s55); (have s2' := TK'.s48); (have s3' := TK'.s76); (have b1' := TK'.nesA); (have b2' := allNeA_of TK'.a55); (have b3' := allNeA_of TK'.a48); (have b4' := allNeA_of TK'.a76); (have b5' := allNeA_of TK'.b55); (have b6' := allNeA_of TK'.b48); (have b7' := allNeA_of TK'.b76); (simp only [AllNeA, and_true] at b2' b3' b4' b5' b6' b7'); (repeat (rename (_ ∧ _) => q9; have q8 := And.left q9; have q7 := And.right q9; clear q9)); (try k_sweep)))
    | ((with_reducible show wpAny _ _ (call (.ref _) _) _ _ _); (k_here; (with_reducible show wpAny _ _ (call (Value.ref 81) _) _ _ _); (with_reducible show wpAny _ _ (call (Value.ref _) (Value.ref 32 :: _)) _ _ _); (rename Clk _ 32 _ => hLk); k_dflt (refine' clk_use hLk ?yB ?yF ?yX ?yN ?yk1 ?yS55 ?yk2 ?yk3 ?yS48 ?yk4 ?yk5 ?yS76 ?yk6 ?yk7 ?yhI ?yC55 ?yC48 ?yC76 ?yT ?yhk ?yb0 ?yb1 ?yb2 ?yb3 ?yhd ?yhu ?_; (case yB => k_asm); (case yF => k_asm); (case yX => k_asm); (case yN => k_asm); (case yk1 => k_upd); (case yS55 => first | with_reducible assumption | assumption); (case yk2 => k_upd); (case yk3 => k_upd); (case yS48 => first | with_reducible assumption | assumption); (case yk4 => k_upd); (case yk5 => k_upd); (case yS76 => first | with_reducible assumption | assumption); (case yk6 => k_upd); (case yk7 => k_upd); (case yhI => first | with_reducible assumption | assumption); (case yC55 => first | with_reducible assumption | assumption); (case yC48 => first | with_reducible assumption | assumption); (case yC76 => first | with_reducible assumption | assumption); (case yT => k_asm); (case yhk => first | exact rfl | with_reducible assumption | assumption); (case yb0 => omega); (case yb1 => omega); (case yb2 => omega); (case yb3 => omega); (case yhd => ktr_room); (case yhu => ktr_units)); intro r' lk' h' tk' its' n' pl' t' ns' p76' c76' o76' R' I9' Z' F' N' TK' d2' d3' d4' d5'; (have g1' := allNeA_lt d5'); (have g2' := allNeA_lts d3' d5'); (simp only [AllNeA, and_true] at g1' g2'); (have g3' := neA d2'); (have g4' := neA_of_lt d3'); (have g5' := neA_of_lt d4'); (clear d2' d3' d4' d5'); (first | (have lk' := lkL_turn (by assumption) R' I9') | (have lk' := lkR_turn (by assumption) R' I9') | (have lk' := lk2_turn (by omega) (by omega) (by omega) (by omega) (by with_reducible assumption) R' I9') | skip); (have s1' := TK'.s55); (have s2' := TK'.s48); (have s3' := TK'.s76); (have b1' := TK'.nesA); (have b2' := allNeA_of TK'.a55); (have b3' := allNeA_of TK'.a48); (have b4' := allNeA_of TK'.a76); (have b5' := allNeA_of TK'.b55); (have b6' := allNeA_of TK'.b48); (have b7' := allNeA_of TK'.b76); (simp only [AllNeA, and_true] at b2' b3' b4' b5' b6' b7'); (repeat (rename (_ ∧ _) => q9; have q8 := And.left q9; have q7 := And.right q9; clear q9)); (try k_sweep)))
    | ((with_reducible show wpAny _ _ (pyIter (.ref _)) _ _ _); ((with_reducible show wpAny _ _ (pyIter (Value.ref _)) (fun it s₂ => TurnsAt _ _ _ _ _ _ _ _ _ it s₂) _ _); (rename Fr _ _ _ _ => lF'); (rename News _ _ _ _ => lN'); (rename IntsAre _ (List.map _ (rangeKs _ _)) => hI8'); (have hI9' := row_is hI8'); (rename (@Ne _ _ _ ∧ @Ne _ _ _ ∧ @Ne _ _ _ ∧ @Ne _ _ _ ∧ @Ne _ _ _ ∧ @Ne _ _ _ ∧ @Ne _ _ _) => o19'); (have b11' := own_neA o19'); k_dflt (refine' law_loop (rl := ?lrl) (ro := ?lro) (a1 := ?la1) (o1 := ?lo1) (a2 := ?la2) (a3 := ?la3) (o3 := ?lo3) (a4 := ?la4) (o4 := ?lo4) ?lW ?lhh ?lhr ?lhs ?lhn lF' lN' ?lhJ ?_ ?_; (case lW => assumption); (case lhh => rfl); (case lhr => assumption); (case lhs => exact range_small (by assumption) (by assumption)); (case lhn => exact range_n (by assumption)); (case lhJ => (refine' lw_intro ?lk1 ?lS55 ?lk2 ?lk3 ?lS48 ?lk4 ?lk5 ?lS76 ?lk6 ?lm0 ?lm1 ?lm2 ?lm3 ?lm4 ?ld2 ?lhV ?lhw ?lhm; (case lk1 => k_upd); (case lS55 => assumption); (case lk2 => k_upd); (case lk3 => k_upd); (case lS48 => assumption); (case lk4 => k_upd); (case lk5 => k_upd); (case lS76 => assumption); (case lk6 => k_upd); (case lm0 => exact .tail _ (.tail _ (.head _))); (case lm1 => exact .tail _ (.tail _ (.tail _ (.tail _ (.tail _ (.tail _ (.head _))))))); (case lm2 => exact .tail _ (.tail _ (.tail _ (.tail _ (.tail _ (.head _)))))); (case lm3 => exact .tail _ (.tail _ (.tail _ (.tail _ (.head _))))); (case lm4 => exact .tail _ (.tail _ (.tail _ (.head _)))); (case ld2 => assumption); (case lhw => rfl); (case lhV => rfl); (case lhm => (intros; rfl))))); (intro i' x' c' u' h' tk' t' I' it' hi' hx' ok' hoff' F' N'; (try clear lF' lN'); (have lf' := lfacts (by assumption) (by assumption) hi' hx'); (revert b11'); (revert F' N'); (repeat (rename Fr _ _ _ _ => q9; clear q9)); (repeat (rename News _ _ _ _ => q9; clear q9)); (intro F' N'); (repeat (rename (_ ∧ _) => q9; have q8 := And.left q9; have q7 := And.right q9; clear q9)); (repeat (rename @LT.lt Nat _ _ _ => q9; clear q9)); (repeat (rename @Ne Nat _ _ => q9; clear q9)); (intro b11'); (have TK9' := ok'.tk); (have d2' := ok'.d2); (have s1' := TK9'.s55); (have s2' := TK9'.s48); (have s3' := TK9'.s76); (have b1' := TK9'.nesA); (have b2' := allNeA_of TK9'.a55); (have b3' := allNeA_of TK9'.a48); (have b4' := allNeA_of TK9'.a76); (have b5' := allNeA_of TK9'.b55); (have b6' := allNeA_of TK9'.b48); (have b7' := allNeA_of TK9'.b76); (have b8' := allNeA_of hoff'); (have b9' := tabs_ne); (have b10' := ok'.cells); (simp only [AllNeA, and_true] at b2' b3' b4' b5' b6' b7'); (simp only [AllNeA, and_true] at b8'); (clear hoff'); (repeat (rename (_ ∧ _) => q9; have q8 := And.left q9; have q7 := And.right q9; clear q9))); rotate_left; (intro c' u' h' tk' ok' F' N'; (try clear lF' lN'); (revert b11'); (revert F' N'); (repeat (rename Fr _ _ _ _ => q9; clear q9)); (repeat (rename News _ _ _ _ => q9; clear q9)); (intro F' N'); (repeat (rename (_ ∧ _) => q9; have q8 := And.left q9; have q7 := And.right q9; clear q9)); (repeat (rename @LT.lt Nat _ _ _ => q9; clear q9)); (repeat (rename @Ne Nat _ _ => q9; clear q9)); (intro b11'); (have TK9' := ok'.tk); (have d2' := ok'.d2); (have s1' := TK9'.s55); (have s2' := TK9'.s48); (have s3' := TK9'.s76); (have b1' := TK9'.nesA); (have b2' := allNeA_of TK9'.a55); (have b3' := allNeA_of TK9'.a48); (have b4' := allNeA_of TK9'.a76); (have b5' := allNeA_of TK9'.b55); (have b6' := allNeA_of TK9'.b48); (have b7' := allNeA_of TK9'.b76); (have b9' := tabs_ne); (have b10' := ok'.cells); (simp only [AllNeA, and_true] at b2' b3' b4' b5' b6' b7'); (repeat (rename (_ ∧ _) => q9; have q8 := And.left q9; have q7 := And.right q9; clear q9))); rotate_right))
    | ((with_reducible show wpAny _ _ (exec (.For _ (.Call _ _ _ _) _ _ _) _) _ _ _); (k_here; (rename Fr _ _ _ _ => lF'); (with_unfolding_all refine' For_turns lF' ?_; k_whole)))
    | ((with_reducible show wpAny _ _ (call (.builtin "len") _) _ _ _); (k_here; (with_reducible show wpAny _ _ (call (Value.builtin "len") [Value.ref _]) _ _ _); k_dflt (refine' len_sym ?lenN ?lenm ?lens ?lenf ?_; (case lenN => k_asm); (case lenm => k_mem); (case lens => with_reducible assumption); (case lenf => first | omega | exact Nat.le_trans (nbits_le _) (by decide)))))
    | ((with_reducible show wpAny _ _ (call (.ref _) _) _ _ _); (k_here; (with_reducible show wpAny _ _ (call (Value.ref 53) _) _ _ _); (rename Cid _ => hiC); k_dflt (refine' i2_use hiC ?iB ?iF ?iX ?iN ?ik1 ?imx ?iC48 ?iT ?ihk ?ib0 ?ib1 ?ihd ?ihu ?_; (case iB => k_asm); (case iF => k_asm); (case iX => k_asm); (case iN => k_asm); (case ik1 => k_upd); (case imx => exact .head _); (case iC48 => assumption); (case iT => k_asm); (case ihk => first | exact rfl | assumption); (case ib0 => omega); (case ib1 => omega); (case ihd => ktr_room); (case ihu => ktr_units)); intro r' j1' j2' c48' h' tk' its' n' oj1' oj2' o48' iL9 F' N' id9 l1 l2 l3 l4; (simp only [AllLt, and_true] at l4); obtain ⟨ivs, it9, id1, id2⟩ := id9; (have S48' : TabSt #[rawInt (73 : Nat), rawInt (4 : Nat), .ref c48'] c48' o48' (Str.ofString "_int2digits.<locals>.inner") 73 4 := tabSt_in id1 id2); (have S55' : TabSt #[] j1' oj1' (Str.ofString "_digits2int.<locals>.inner") 88 4 := tabSt_nil); (have S76' : TabSt #[] j2' oj2' (Str.ofString "_law_looked.<locals>.<lambda>") 120 47 := tabSt_nil); (try k_sweep)))
    | ((with_reducible show wpAny _ _ (binaryOp .Mod (.int _ _) (.int _ _)) _ _ _); (k_here; first | refine fmod_known (by with_reducible assumption) (by decide) (by decide) ?_ | refine fmod_lit (by decide) (by decide) ?_ | refine fmod_any (by omega) (fun mk' mk0' mk1' => ?_)))
    | ((with_reducible show @ite _ _ _ _ _); (k_here; first | (with_reducible refine ite_dec_t (by omega) ?_) | (with_reducible refine ite_dec_f (by omega) ?_) | (with_reducible refine ite_ine_t (by omega) ?_) | (with_reducible refine ite_ine_f (by omega) ?_) | (with_reducible refine ite_ieq_t (by omega) ?_) | (with_reducible refine ite_ieq_f (by omega) ?_)))
    | ((with_reducible show wpAny _ _ (storeName _ _ _) _ _ _); (k_here; refine' store_norm ?e ?_; (case e => (simp only [Int.reduceAdd, Int.reduceSub, Int.reduceMul, Int.reduceFDiv, Int.reduceDiv]; rfl))))
    | ((with_reducible show wpAny _ _ (execs (_ :: _) _) _ _ _); (k_here; k_fold))
    | (k_end; wrow_close) | walk1 | (dsimp only; walk1) | (leave1; try dsimp only) | fail "no step"))
end
end Mine
namespace Mine
theorem cdp9 (w : World) : ∀ k : Nat, Cdp w k
  | 0 => dp0 w
  | k + 1 => dpS w k (dmn w) (cdp9 w k)
end Mine
theorem PySem.Challenge.cw_gm0007_01_holds : PySem.Challenge.rw_gm0007_01.Holds :=
  Mine.lawT Mine.cid Mine.lkL Mine.lkR (fun w => Mine.hv w (Mine.dmn w)) (fun w => Mine.cdp9 w 12)
