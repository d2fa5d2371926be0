import PyProof.Rows.All
import Wide.All
import OpenK.AllK
import Wide.FinOn
import PySem.Challenge.RW_rs0001_01
open PySem PySem.W PyProof.Rows
set_option Elab.async false
set_option maxRecDepth 100000
set_option maxHeartbeats 8000000
namespace Mine
open_top hd for PySem.Challenge.rw_rs0001_01
abbrev Keep (h h' : Heap) : Prop := ∀ b o, h.get? b = some o → h'.get? b = some o
theorem Keep.trans {h h' h'' : Heap} (a : Keep h h') (b : Keep h' h'') : Keep h h'' := fun x o e => b x o (a x o e)
def Room (n : Nat) (A : Around) : Prop := A.handled = none ∧ A.depth + n < 900 ∧ A.units + 8 * n < 9000
theorem Room.deeper {n : Nat} {A : Around} (h : Room (n + 1) A) (env : Env) : Room n (A.deeper env) :=
  ⟨h.1, by have := h.2.1; show A.depth + 1 + n < 900; omega, by have := h.2.2; show A.units + 3 + 8 * n < 9000; omega⟩
theorem Room.in1 {n : Nat} {A : Around} (h : Room (n + 1) A) : Room n A.in1 :=
  ⟨h.1, by have := h.2.1; show A.depth + n < 900; omega, by have := h.2.2; show A.units + 1 + 8 * n < 9000; omega⟩
theorem Room.le {n k : Nat} {A : Around} (h : Room n A) (e : k ≤ n) : Room k A := ⟨h.1, by have := h.2.1; omega, by have := h.2.2; omega⟩
theorem Room.room {n : Nat} {A : Around} (h : Room n A) : A.depth < recursionLimit := by have := h.2.1; unfold recursionLimit; omega
theorem Room.units {n : Nat} {A : Around} (h : Room n A) : A.units < cLine := by have := h.2.2; rw [cLine_is]; omega

section
variable {prog : Program} {w : World} {A : Around} {E : Value → Shared → Prop} {s : Shared} {name qual : Str} {params : Arguments} {body : List Stmt} {scope : Scope}
  {dV kV doc pm cdv ct oc : Value} {an od : Option Addr} {osl : Array (Option Value)} {f : Addr} {pos : List Value} {kw : List (Str × Value)} {binds : List (Str × Value)} {Q : Value → Shared → Prop}

theorem call_fn (ho : s.heap.get? f = some ⟨oc, od, .func (fnOf name qual params body scope dV kV doc pm an cdv ct), osl⟩) (hcd : s.heap.CodeRec cdv qual) (hlim : s.heap.NoLimit) (hroom : A.depth < recursionLimit)
    (hbind : BindsTo s (fnOf name qual params body scope dV kV doc pm an cdv ct) ⟨pos, kw⟩ binds) (hcell : ∀ x ∈ scope.names, x.2 ≠ .cell) (hloc : ∀ y ∈ binds, scope.names.lookup y.1 = some .local)
    (h : ∀ h₁, Fr s.heap s.heap.objs.size h₁ (fun y => binds.reverse.lookup y) →
      wpAny (model prog w) (A.deeper (envOf qual scope s.heap.objs.size f cdv)) (execs body (envOf qual scope s.heap.objs.size f cdv))
        (fun fl s' => Q (match fl with | .ret v => v | _ => .none) s') (fun _ _ => False) { s with heap := h₁, toks := s.toks + binds.length })
    (hco : scope.isCoroutine = false) (hgen : scope.isGenerator = false) (hk : scope.kind = .function) :
    wpAny (model prog w) A (call (.ref f) pos kw) Q E s := by
  refine wpAny_call (codeAny_call_def (fd := fnOf name qual params body scope dV kV doc pm an cdv ct) hroom ho rfl hlim hcd rfl hbind hcell hloc (fun h₁ hns hkp => ?_) hco hgen hk)
  exact wpAny_mono (h h₁ ⟨hns, hkp, Nat.le_refl _⟩) (fun _ _ q => q) (fun _ _ x => x.elim)
end

/-- the loop of a bisection: what a turn keeps -/
def Others (m m₀ : Str → Option Value) : Prop := ∀ y : Str, y ≠ "lo" → y ≠ "hi" → y ≠ "mid" → m y = m₀ y

section
variable {prog : Program} {w : World} {A : Around} {E : Value → Shared → Prop} {s : Shared} {q : Str} {sc : Scope} {L f : Addr} {cd : Value} {base : Heap} {m₀ : Str → Option Value}
  {p1 p2 p3 p4 p5 p6 p7 p8 p9 p10 p11 p12 p13 p14 p15 p16 p17 p18 p19 p20 : Pos} {test : Expr} {c1 c2 : Nat}

theorem while_right (hk : sc.kind = .function) (l1 : (envOf q sc L f cd).kindOf "lo" = some .local) (l2 : (envOf q sc L f cd).kindOf "hi" = some .local) (l3 : (envOf q sc L f cd).kindOf "mid" = some .local)
    {k n : Nat} (hkn : k ≤ n)
    (htest : ∀ i, i < n → ∀ (s' : Shared) m tk, Fr base L s'.heap m → Others m m₀ → m "mid" = some (.int (i : Nat) tk) → ∀ (Q' : Bool → Shared → Prop) (E' : Value → Shared → Prop),
      (∀ h' tk', Keep s'.heap h' → Q' (decide (k ≤ i)) { s' with heap := h', toks := tk' }) → wpAny (model prog w) A (isTrue test (envOf q sc L f cd) (eval test (envOf q sc L f cd))) Q' E' s')
    {t1 t2 : Tok} (F : Fr base L s.heap m₀) (h1 : m₀ "lo" = some (.int 0 t1)) (h2 : m₀ "hi" = some (.int (n : Nat) t2)) {Q : Flow → Shared → Prop}
    (hQ : ∀ h' tk m' t, Fr base L h' m' → m' "lo" = some (.int (k : Nat) t) → Q .next { s with heap := h', toks := tk }) :
    wpAny (model prog w) A (exec (.While (.Compare (.Name "lo" p1) [.Lt] [.Name "hi" p2] p3)
      [.Assign [.Name "mid" p4] (.BinOp (.BinOp (.Name "lo" p5) .Add (.Name "hi" p6) p7) .FloorDiv (.Constant (.int 2) c1 p8) p9) p10,
       .If test [.Assign [.Name "hi" p11] (.Name "mid" p12) p13] [.Assign [.Name "lo" p14] (.BinOp (.Name "mid" p15) .Add (.Constant (.int 1) c2 p16) p17) p18] p19] [] p20) (envOf q sc L f cd)) Q E s := by
  refine wpAny_While (codeAny_whileLoop (fun d s' => ∃ h tk m lo hi u1 u2, s' = { s with heap := h, toks := tk } ∧ Fr base L h m ∧ Others m m₀ ∧ m "lo" = some (.int ((lo : Nat) : Int) u1) ∧ m "hi" = some (.int ((hi : Nat) : Int) u2) ∧ lo ≤ k ∧ k ≤ hi ∧ hi ≤ n ∧ d = hi - lo) ?_ n
    ⟨s.heap, s.toks, m₀, 0, n, t1, t2, rfl, F, fun _ _ _ _ => rfl, h1, h2, Nat.zero_le _, hkn, Nat.le_refl _, by omega⟩)
  rintro d s' ⟨h, tk, m, lo, hi, u1, u2, rfl, F, ho, h1, h2, a1, a2, a3, rfl⟩
  refine wpAny_isTrue_Compare1 (ld F h1 (ld F h2 (lt_int (wpAny_truthy_bool ?_)) hk l2 (by decide)) hk l1 (by decide)) (by with_unfolding_all rfl)
  by_cases hlt : lo < hi
  · rw [if_pos (by simpa using hlt)]
    refine wpAny_execs_cons (wpAny_Assign_Name (wpAny_BinOp (wpAny_BinOp (ld F h1 (ld F h2 (add_int (wpAny_Constant_int (floordiv_int (by decide) (st F (fun h' F' => ?_) hk l3) (Or.inl (PyProof.noPylong_small (by decide)))))) hk l2 (by decide)) hk l1 (by decide)))) rfl)
    have hmid : ((lo : Int) + (hi : Int)).fdiv 2 = (((lo + hi) / 2 : Nat) : Int) := by
      rw [← Int.natCast_add]; rw [Int.fdiv_eq_ediv_of_nonneg _ (by decide)]; omega
    rw [hmid] at F'
    dsimp only
    refine wpAny_execs_cons (wpAny_If (htest ((lo + hi) / 2) (by omega) _ _ _ F' (fun y y1 y2 y3 => by dsimp only; rw [if_neg y3]; exact ho y y1 y2 y3) (if_pos rfl) _ _ fun h2' tk2 K2 => ?_))
    have F2 := F'.kept K2
    by_cases hc : k ≤ (lo + hi) / 2
    · rw [if_pos (by simpa using hc)]
      refine wpAny_execs_cons (wpAny_Assign_Name (ld F2 (if_pos rfl) (st F2 (fun h3 F3 => ?_) hk l2) hk l3 (by decide)) rfl)
      refine wpAny_execs_nil (wpAny_execs_nil ?_)
      refine ⟨(lo + hi) / 2 - lo, by omega, h3, _, _, lo, (lo + hi) / 2, u1, _, rfl, F3, fun y y1 y2 y3 => ?_, ?_, if_pos rfl, a1, hc, by omega, rfl⟩
      · dsimp only; rw [if_neg y2, if_neg y3]; exact ho y y1 y2 y3
      · exact h1
    · rw [if_neg (by simpa using hc)]
      refine wpAny_execs_cons (wpAny_Assign_Name (wpAny_BinOp (ld F2 (if_pos rfl) (wpAny_Constant_int (add_int (st F2 (fun h3 F3 => ?_) hk l1))) hk l3 (by decide))) rfl)
      refine wpAny_execs_nil (wpAny_execs_nil ?_)
      refine ⟨hi - ((lo + hi) / 2 + 1), by omega, h3, _, _, (lo + hi) / 2 + 1, hi, _, u2, rfl, F3, fun y y1 y2 y3 => ?_, if_pos rfl, ?_, by omega, a2, a3, rfl⟩
      · dsimp only; rw [if_neg y1, if_neg y3]; exact ho y y1 y2 y3
      · exact h2
  · rw [if_neg (by simpa using hlt)]
    have : lo = k := by omega
    subst this
    exact wpAny_execs_nil (hQ _ _ _ _ F h1)
theorem while_left (hk : sc.kind = .function) (l1 : (envOf q sc L f cd).kindOf "lo" = some .local) (l2 : (envOf q sc L f cd).kindOf "hi" = some .local) (l3 : (envOf q sc L f cd).kindOf "mid" = some .local)
    {k n : Nat} (hkn : k ≤ n)
    (htest : ∀ i, i < n → ∀ (s' : Shared) m tk, Fr base L s'.heap m → Others m m₀ → m "mid" = some (.int (i : Nat) tk) → ∀ (Q' : Bool → Shared → Prop) (E' : Value → Shared → Prop),
      (∀ h' tk', Keep s'.heap h' → Q' (decide (i < k)) { s' with heap := h', toks := tk' }) → wpAny (model prog w) A (isTrue test (envOf q sc L f cd) (eval test (envOf q sc L f cd))) Q' E' s')
    {t1 t2 : Tok} (F : Fr base L s.heap m₀) (h1 : m₀ "lo" = some (.int 0 t1)) (h2 : m₀ "hi" = some (.int (n : Nat) t2)) {Q : Flow → Shared → Prop}
    (hQ : ∀ h' tk m' t, Fr base L h' m' → m' "lo" = some (.int (k : Nat) t) → Q .next { s with heap := h', toks := tk }) :
    wpAny (model prog w) A (exec (.While (.Compare (.Name "lo" p1) [.Lt] [.Name "hi" p2] p3)
      [.Assign [.Name "mid" p4] (.BinOp (.BinOp (.Name "lo" p5) .Add (.Name "hi" p6) p7) .FloorDiv (.Constant (.int 2) c1 p8) p9) p10,
       .If test [.Assign [.Name "lo" p14] (.BinOp (.Name "mid" p15) .Add (.Constant (.int 1) c2 p16) p17) p18] [.Assign [.Name "hi" p11] (.Name "mid" p12) p13] p19] [] p20) (envOf q sc L f cd)) Q E s := by
  refine wpAny_While (codeAny_whileLoop (fun d s' => ∃ h tk m lo hi u1 u2, s' = { s with heap := h, toks := tk } ∧ Fr base L h m ∧ Others m m₀ ∧ m "lo" = some (.int ((lo : Nat) : Int) u1) ∧ m "hi" = some (.int ((hi : Nat) : Int) u2) ∧ lo ≤ k ∧ k ≤ hi ∧ hi ≤ n ∧ d = hi - lo) ?_ n
    ⟨s.heap, s.toks, m₀, 0, n, t1, t2, rfl, F, fun _ _ _ _ => rfl, h1, h2, Nat.zero_le _, hkn, Nat.le_refl _, by omega⟩)
  rintro d s' ⟨h, tk, m, lo, hi, u1, u2, rfl, F, ho, h1, h2, a1, a2, a3, rfl⟩
  refine wpAny_isTrue_Compare1 (ld F h1 (ld F h2 (lt_int (wpAny_truthy_bool ?_)) hk l2 (by decide)) hk l1 (by decide)) (by with_unfolding_all rfl)
  by_cases hlt : lo < hi
  · rw [if_pos (by simpa using hlt)]
    refine wpAny_execs_cons (wpAny_Assign_Name (wpAny_BinOp (wpAny_BinOp (ld F h1 (ld F h2 (add_int (wpAny_Constant_int (floordiv_int (by decide) (st F (fun h' F' => ?_) hk l3) (Or.inl (PyProof.noPylong_small (by decide)))))) hk l2 (by decide)) hk l1 (by decide)))) rfl)
    have hmid : ((lo : Int) + (hi : Int)).fdiv 2 = (((lo + hi) / 2 : Nat) : Int) := by
      rw [← Int.natCast_add]; rw [Int.fdiv_eq_ediv_of_nonneg _ (by decide)]; omega
    rw [hmid] at F'
    dsimp only
    refine wpAny_execs_cons (wpAny_If (htest ((lo + hi) / 2) (by omega) _ _ _ F' (fun y y1 y2 y3 => by dsimp only; rw [if_neg y3]; exact ho y y1 y2 y3) (if_pos rfl) _ _ fun h2' tk2 K2 => ?_))
    have F2 := F'.kept K2
    by_cases hc : (lo + hi) / 2 < k
    · rw [if_pos (by simpa using hc)]
      refine wpAny_execs_cons (wpAny_Assign_Name (wpAny_BinOp (ld F2 (if_pos rfl) (wpAny_Constant_int (add_int (st F2 (fun h3 F3 => ?_) hk l1))) hk l3 (by decide))) rfl)
      refine wpAny_execs_nil (wpAny_execs_nil ?_)
      refine ⟨hi - ((lo + hi) / 2 + 1), by omega, h3, _, _, (lo + hi) / 2 + 1, hi, _, u2, rfl, F3, fun y y1 y2 y3 => ?_, if_pos rfl, ?_, by omega, a2, a3, rfl⟩
      · dsimp only; rw [if_neg y1, if_neg y3]; exact ho y y1 y2 y3
      · exact h2
    · rw [if_neg (by simpa using hc)]
      refine wpAny_execs_cons (wpAny_Assign_Name (ld F2 (if_pos rfl) (st F2 (fun h3 F3 => ?_) hk l2) hk l3 (by decide)) rfl)
      refine wpAny_execs_nil (wpAny_execs_nil ?_)
      refine ⟨(lo + hi) / 2 - lo, by omega, h3, _, _, lo, (lo + hi) / 2, u1, _, rfl, F3, fun y y1 y2 y3 => ?_, ?_, if_pos rfl, a1, by omega, by omega, rfl⟩
      · dsimp only; rw [if_neg y2, if_neg y3]; exact ho y y1 y2 y3
      · exact h1
  · rw [if_neg (by simpa using hlt)]
    have : lo = k := by omega
    subst this
    exact wpAny_execs_nil (hQ _ _ _ _ F h1)
end
/-- what stands under every call: the written part and the top's names -/
structure Base (w : World) (mg mb : Str → Option Value) (h : Heap) : Prop where
  X : (hd.heap_39 w.params).In h
  g : h.Ns mainGlobals mg
  b : h.Ns builtinsNs mb
  lim : h.NoLimit
  bs : ∀ x : Str, x ≠ "__name__" → mb x = bootBuiltins x
  bm : h.BuiltinsAt mg 57
theorem Base.keep {w : World} {mg mb : Str → Option Value} {h h' : Heap} (B : Base w mg mb h) (k : Keep h h') : Base w mg mb h' :=
  ⟨B.X.keeps k, B.g.keeps k, B.b.keeps k, B.lim.keeps k, B.bs, let ⟨bm, o, a, b, c, d, e, r⟩ := B.bm; ⟨bm, o, a, b, c, d, k _ _ e, r⟩⟩

section
variable {M : Model} {A : Around} {E : Value → Shared → Prop} {s : Shared} {w : World} {mg mb : Str → Option Value} {q : Str} {sc : Scope} {L f : Addr} {cd : Value} {x : Str} {pos : Pos} {v : Value} {Q : Value → Shared → Prop}
theorem ldG (B : Base w mg mb s.heap) (e : nsIn (hd.heap_39 w.params) mainGlobals x = some (some v)) (h : Q v s) (hk : sc.kind = .function := by rfl) (hx : (envOf q sc L f cd).kindOf x = some .globalImplicit := by rfl) (hd : (x == ("__debug__" : Str)) = false := by decide) :
    wpAny M A (eval (.Name x pos) (envOf q sc L f cd)) Q E s :=
  Calls.Name_function_global hk hx (Calls.loadGlobal_global (env := envOf q sc L f cd) B.g (mg_of B.X B.g e) h) hd
theorem ldB (B : Base w mg mb s.heap) (e : nsIn (hd.heap_39 w.params) mainGlobals x = some none) (hv : bootBuiltins x = some v) (hn : x ≠ "__name__") (h : Q v s) (hk : sc.kind = .function := by rfl) (hx : (envOf q sc L f cd).kindOf x = some .globalImplicit := by rfl) (hd : (x == ("__debug__" : Str)) = false := by decide) :
    wpAny M A (eval (.Name x pos) (envOf q sc L f cd)) Q E s :=
  Calls.Name_function_global hk hx (Calls.loadGlobal_builtin (env := envOf q sc L f cd) B.g (mg_none_of B.X B.g e) B.b ((B.bs x hn).trans hv) h) hd
end

abbrev prog : Program := PySem.Challenge.rw_rs0001_01.row.prog

/-- an order question about an item, answered without touching what stands -/
def Asks (w : World) (n : Nat) (h₀ : Heap) (op : CmpOp) (x v : Value) (b : Bool) : Prop :=
  ∀ (A : Around) (s : Shared) (Q : Value → Shared → Prop) (E : Value → Shared → Prop), Room n A → Keep h₀ s.heap → (∀ h' tk, Keep s.heap h' → Q (.bool b) { s with heap := h', toks := tk }) →
    wpAny (model PySem.Challenge.rw_rs0001_01.row.prog w) A (compareOp op x v) Q E s
theorem Asks.int {w : World} {n : Nat} {h₀ : Heap} {a b : Int} {t u : Tok} : Asks w n h₀ .Lt (.int a t) (.int b u) (decide (a < b)) :=
  fun _ _ _ _ _ _ h => lt_int (h _ _ fun _ _ e => e)

theorem br_plain {w : World} {A : Around} {E : Value → Shared → Prop} {s : Shared} {mg mb : Str → Option Value} {a : Addr} {x : Value} {vs : List Value} {pos : List Value} {k n : Nat} {Q : Value → Shared → Prop}
    (B : Base w mg mb s.heap) (hR : Room (n + 1) A) (hl : s.heap.IsList a vs.toArray) (hsz : vs.length < 1000) (hkn : k ≤ vs.length)
    (hc : ∀ i v, vs[i]? = some v → Asks w n s.heap .Lt x v (decide (k ≤ i))) (hpos : (∃ t, pos = [.ref a, x, .int 0 t, .none]) ∨ pos = [.ref a, x])
    (hQ : ∀ h' tk t, Keep s.heap h' → Q (.int (k : Nat) t) { s with heap := h', toks := tk }) :
    wpAny (model PySem.Challenge.rw_rs0001_01.row.prog w) A (call (.ref 32) pos []) Q E s := by
  have X := B.X
  revert X; k_fill; intro X
  rcases hpos with ⟨t, rfl⟩ | rfl
  refine' call_fn (X _ _ (by k_is)) (codeRec_of X (by k_is)) B.lim hR.room (kp_binds (binds := [("a", .ref a), ("x", x), ("lo", .int 0 t), ("hi", .none), ("key", .none)]) X (fun _ => rfl)) (by decide) (locs rfl) ?_ rfl rfl rfl
  rotate_left
  refine' call_fn (X _ _ (by k_is)) (codeRec_of X (by k_is)) B.lim hR.room (kp_binds (binds := [("a", .ref a), ("x", x), ("lo", .int 0 202), ("hi", .none), ("key", .none)]) X (fun _ => rfl)) (by decide) (locs rfl) ?_ rfl rfl rfl
  all_goals
    intro h₁ F
    have B₁ : Base w mg mb h₁ := B.keep F.keep
    have hl₁ : h₁.IsList a vs.toArray := stays_list F.keep hl
    have hn : ((vs.toArray.size : Nat) : Int) < 2 ^ 63 := by rw [List.size_toArray]; omega
    refine wpAny_execs_cons (wpAny_If (wpAny_isTrue_Compare1 (ld F rfl (wpAny_Constant_int (lt_int (wpAny_truthy_bool ?_))))))
    rw [if_neg (by decide)]
    refine wpAny_execs_nil ?_
    refine wpAny_execs_cons (wpAny_If (wpAny_isTrue_Compare1 (ld F rfl (wpAny_Constant_none (is_none_none (wpAny_truthy_bool ?_))))))
    rw [if_pos rfl]
    refine wpAny_execs_cons (wpAny_Assign_Name (Call_ (ldB B₁ rfl rfl (by decide) ?_)) rfl)
    refine callWith_builtin1 (spliced_more (ld F rfl (spliced_none (len_list hl₁ hn (st F fun h₂ F₂ => ?_)))))
    refine wpAny_execs_nil ?_
    refine wpAny_execs_cons (wpAny_If (wpAny_isTrue_Compare1 (ld F₂ rfl (wpAny_Constant_none (is_none_none (wpAny_truthy_bool ?_))))))
    rw [if_pos rfl]
    have hsz' : vs.toArray.size = vs.length := List.size_toArray
    rw [hsz'] at F₂
    refine wpAny_execs_cons (while_right (k := k) (n := vs.length) rfl rfl rfl rfl hkn ?test F₂ rfl rfl fun h₃ tk m' t' F₃ e₃ => ?_)
    case test =>
      intro i hi s' m tk F' ho hmid Q' E' hq
      have ha : m "a" = some (.ref a) := ho "a" (by decide) (by decide) (by decide)
      have hx : m "x" = some x := ho "x" (by decide) (by decide) (by decide)
      refine wpAny_isTrue_Compare1 (ld F' hx (Subscript_ (ld F' ha (ld F' hmid (item_listL (x := vs[i]) (stays_list F'.keep hl) (by omega) (by omega) (by simp [hi]) (hc i _ (by simp [hi]) _ _ _ _ (hR.deeper _) F'.keep fun h' tk' hk' => wpAny_truthy_bool (hq _ _ hk')))))))
    refine wpAny_execs_nil ?_
    refine wpAny_execs_cons (wpAny_Return_some (ld F₃ e₃ ?_))
    exact hQ _ _ _ F₃.keep
theorem bl_plain {w : World} {A : Around} {E : Value → Shared → Prop} {s : Shared} {mg mb : Str → Option Value} {a : Addr} {x : Value} {vs : List Value} {pos : List Value} {k n : Nat} {Q : Value → Shared → Prop}
    (B : Base w mg mb s.heap) (hR : Room (n + 1) A) (hl : s.heap.IsList a vs.toArray) (hsz : vs.length < 1000) (hkn : k ≤ vs.length)
    (hc : ∀ i v, vs[i]? = some v → Asks w n s.heap .Lt v x (decide (i < k))) (hpos : (∃ t, pos = [.ref a, x, .int 0 t, .none]) ∨ pos = [.ref a, x])
    (hQ : ∀ h' tk t, Keep s.heap h' → Q (.int (k : Nat) t) { s with heap := h', toks := tk }) :
    wpAny (model PySem.Challenge.rw_rs0001_01.row.prog w) A (call (.ref 50) pos []) Q E s := by
  have X := B.X
  revert X; k_fill; intro X
  rcases hpos with ⟨t, rfl⟩ | rfl
  refine' call_fn (X _ _ (by k_is)) (codeRec_of X (by k_is)) B.lim hR.room (kp_binds (binds := [("a", .ref a), ("x", x), ("lo", .int 0 t), ("hi", .none), ("key", .none)]) X (fun _ => rfl)) (by decide) (locs rfl) ?_ rfl rfl rfl
  rotate_left
  refine' call_fn (X _ _ (by k_is)) (codeRec_of X (by k_is)) B.lim hR.room (kp_binds (binds := [("a", .ref a), ("x", x), ("lo", .int 0 229), ("hi", .none), ("key", .none)]) X (fun _ => rfl)) (by decide) (locs rfl) ?_ rfl rfl rfl
  all_goals
    intro h₁ F
    have B₁ : Base w mg mb h₁ := B.keep F.keep
    have hl₁ : h₁.IsList a vs.toArray := stays_list F.keep hl
    have hn : ((vs.toArray.size : Nat) : Int) < 2 ^ 63 := by rw [List.size_toArray]; omega
    refine wpAny_execs_cons (wpAny_If (wpAny_isTrue_Compare1 (ld F rfl (wpAny_Constant_int (lt_int (wpAny_truthy_bool ?_))))))
    rw [if_neg (by decide)]
    refine wpAny_execs_nil ?_
    refine wpAny_execs_cons (wpAny_If (wpAny_isTrue_Compare1 (ld F rfl (wpAny_Constant_none (is_none_none (wpAny_truthy_bool ?_))))))
    rw [if_pos rfl]
    refine wpAny_execs_cons (wpAny_Assign_Name (Call_ (ldB B₁ rfl rfl (by decide) ?_)) rfl)
    refine callWith_builtin1 (spliced_more (ld F rfl (spliced_none (len_list hl₁ hn (st F fun h₂ F₂ => ?_)))))
    refine wpAny_execs_nil ?_
    refine wpAny_execs_cons (wpAny_If (wpAny_isTrue_Compare1 (ld F₂ rfl (wpAny_Constant_none (is_none_none (wpAny_truthy_bool ?_))))))
    rw [if_pos rfl]
    have hsz' : vs.toArray.size = vs.length := List.size_toArray
    rw [hsz'] at F₂
    refine wpAny_execs_cons (while_left (k := k) (n := vs.length) rfl rfl rfl rfl hkn ?test F₂ rfl rfl fun h₃ tk m' t' F₃ e₃ => ?_)
    case test =>
      intro i hi s' m tk F' ho hmid Q' E' hq
      have ha : m "a" = some (.ref a) := ho "a" (by decide) (by decide) (by decide)
      have hx : m "x" = some x := ho "x" (by decide) (by decide) (by decide)
      refine wpAny_isTrue_Compare1 (Subscript_ (ld F' ha (ld F' hmid (item_listL (x := vs[i]) (stays_list F'.keep hl) (by omega) (by omega) (by simp [hi]) (ld F' hx (hc i _ (by simp [hi]) _ _ _ _ (hR.deeper _) F'.keep fun h' tk' hk' => wpAny_truthy_bool (hq _ _ hk')))))))
    refine wpAny_execs_nil ?_
    refine wpAny_execs_cons (wpAny_Return_some (ld F₃ e₃ ?_))
    exact hQ _ _ _ F₃.keep

/-- what a key function gives of a value, without touching what stands -/
def KeyOf (w : World) (n : Nat) (h₀ : Heap) (kf : Addr) (v : Value) (kv : Int) : Prop :=
  ∀ (A : Around) (s : Shared) (Q : Value → Shared → Prop) (E : Value → Shared → Prop), Room n A → Keep h₀ s.heap → (∀ h' tk t, Keep s.heap h' → Q (.int kv t) { s with heap := h', toks := tk }) →
    wpAny (model PySem.Challenge.rw_rs0001_01.row.prog w) A (call (.ref kf) [v] []) Q E s
def IsFn (h : Heap) (kf : Addr) : Prop := ∃ o fd, h.get? kf = some o ∧ o.data = .func fd
theorem IsFn.keep {h h' : Heap} {kf : Addr} (x : IsFn h kf) (k : Keep h h') : IsFn h' kf := let ⟨o, fd, a, b⟩ := x; ⟨o, fd, k _ _ a, b⟩
theorem call_one {M : Model} {A : Around} {E : Value → Shared → Prop} {s : Shared} {env : Env} {kf : Addr} {id : Str} {p pos : Pos} {e : Expr} {Q : Value → Shared → Prop} (hf : IsFn s.heap kf)
    (hid : ∀ Q' : Value → Shared → Prop, Q' (.ref kf) s → wpAny M A (eval (.Name id p) env) Q' E s)
    (h : wpAny M A (eval e env) (fun v s₁ => Keep s.heap s₁.heap ∧ wpAny M A (call (.ref kf) [v] []) Q E s₁) E s)
    (he : starEach [e] env = [(false, eval e env)] := by rfl) : wpAny M A (eval (.Call (.Name id p) [e] [] pos) env) Q E s := by
  obtain ⟨o, fd, ho, hd⟩ := hf
  refine wpAny_Call_Name_kw (hid _ ?_)
  refine callWith_function_kw (o := o) (fd := fd) ?_
  rw [he]
  exact evalArgs_kw (rest := []) (keywords := []) rfl (Calls.spliced_cons (wpAny_mono h (fun v s₁ h₁ => Calls.spliced_nil (wpAny_evalAll_nil ⟨⟨h₁.1 _ _ ho, hd⟩, h₁.2⟩)) fun _ _ y => y))
theorem br_key {w : World} {A : Around} {E : Value → Shared → Prop} {s : Shared} {mg mb : Str → Option Value} {a : Addr} {xv : Int} {tx : Tok} {kf : Addr} {vs : List Value} {t : Tok} {k n : Nat} {Q : Value → Shared → Prop}
    (B : Base w mg mb s.heap) (hR : Room (n + 1) A) (hl : s.heap.IsList a vs.toArray) (hsz : vs.length < 1000) (hkn : k ≤ vs.length)
    (hf : IsFn s.heap kf) (hc : ∀ i v, vs[i]? = some v → ∃ kv, KeyOf w n s.heap kf v kv ∧ decide (xv < kv) = decide (k ≤ i))
    (hQ : ∀ h' tk t, Keep s.heap h' → Q (.int (k : Nat) t) { s with heap := h', toks := tk }) :
    wpAny (model PySem.Challenge.rw_rs0001_01.row.prog w) A (call (.ref 32) [.ref a, .int xv tx, .int 0 t, .none] [("key", .ref kf)]) Q E s := by
  have X := B.X
  revert X; k_fill; intro X
  refine' call_fn (X _ _ (by k_is)) (codeRec_of X (by k_is)) B.lim hR.room (kp_binds (binds := [("a", .ref a), ("x", .int xv tx), ("lo", .int 0 t), ("hi", .none), ("key", .ref kf)]) X (fun _ => rfl)) (by decide) (locs rfl) ?_ rfl rfl rfl
  all_goals
    intro h₁ F
    have B₁ : Base w mg mb h₁ := B.keep F.keep
    have hl₁ : h₁.IsList a vs.toArray := stays_list F.keep hl
    have hn : ((vs.toArray.size : Nat) : Int) < 2 ^ 63 := by rw [List.size_toArray]; omega
    refine wpAny_execs_cons (wpAny_If (wpAny_isTrue_Compare1 (ld F rfl (wpAny_Constant_int (lt_int (wpAny_truthy_bool ?_))))))
    rw [if_neg (by decide)]
    refine wpAny_execs_nil ?_
    refine wpAny_execs_cons (wpAny_If (wpAny_isTrue_Compare1 (ld F rfl (wpAny_Constant_none (is_none_none (wpAny_truthy_bool ?_))))))
    rw [if_pos rfl]
    refine wpAny_execs_cons (wpAny_Assign_Name (Call_ (ldB B₁ rfl rfl (by decide) ?_)) rfl)
    refine callWith_builtin1 (spliced_more (ld F rfl (spliced_none (len_list hl₁ hn (st F fun h₂ F₂ => ?_)))))
    refine wpAny_execs_nil ?_
    refine wpAny_execs_cons (wpAny_If (wpAny_isTrue_Compare1 (ld F₂ rfl (wpAny_Constant_none (is_ref_none (wpAny_truthy_bool ?_))))))
    rw [if_neg (by decide)]
    have hsz' : vs.toArray.size = vs.length := List.size_toArray
    rw [hsz'] at F₂
    refine wpAny_execs_cons (while_right (k := k) (n := vs.length) rfl rfl rfl rfl hkn ?test F₂ rfl rfl fun h₃ tk m' t' F₃ e₃ => ?_)
    case test =>
      intro i hi s' m tk F' ho hmid Q' E' hq
      have ha : m "a" = some (.ref a) := ho "a" (by decide) (by decide) (by decide)
      have hkey : m "key" = some (.ref kf) := ho "key" (by decide) (by decide) (by decide)
      obtain ⟨kv, hkv, hdec⟩ := hc i vs[i] (by simp [hi])
      have hx : m "x" = some (.int xv tx) := ho "x" (by decide) (by decide) (by decide)
      refine wpAny_isTrue_Compare1 (ld F' hx (call_one (hf.keep F'.keep) (fun _ hq' => ld F' hkey hq') (Subscript_ (ld F' ha (ld F' hmid (item_listL (x := vs[i]) (stays_list F'.keep hl) (by omega) (by omega) (by simp [hi]) ⟨fun _ _ e => e, hkv _ _ _ _ (hR.deeper _) F'.keep fun h' tk' t' hk' => lt_int (wpAny_truthy_bool ?_)⟩))))))
      rw [hdec]
      exact hq _ _ hk'
    refine wpAny_execs_nil ?_
    refine wpAny_execs_cons (wpAny_Return_some (ld F₃ e₃ ?_))
    exact hQ _ _ _ F₃.keep
theorem bl_key {w : World} {A : Around} {E : Value → Shared → Prop} {s : Shared} {mg mb : Str → Option Value} {a : Addr} {xv : Int} {tx : Tok} {kf : Addr} {vs : List Value} {t : Tok} {k n : Nat} {Q : Value → Shared → Prop}
    (B : Base w mg mb s.heap) (hR : Room (n + 1) A) (hl : s.heap.IsList a vs.toArray) (hsz : vs.length < 1000) (hkn : k ≤ vs.length)
    (hf : IsFn s.heap kf) (hc : ∀ i v, vs[i]? = some v → ∃ kv, KeyOf w n s.heap kf v kv ∧ decide (kv < xv) = decide (i < k))
    (hQ : ∀ h' tk t, Keep s.heap h' → Q (.int (k : Nat) t) { s with heap := h', toks := tk }) :
    wpAny (model PySem.Challenge.rw_rs0001_01.row.prog w) A (call (.ref 50) [.ref a, .int xv tx, .int 0 t, .none] [("key", .ref kf)]) Q E s := by
  have X := B.X
  revert X; k_fill; intro X
  refine' call_fn (X _ _ (by k_is)) (codeRec_of X (by k_is)) B.lim hR.room (kp_binds (binds := [("a", .ref a), ("x", .int xv tx), ("lo", .int 0 t), ("hi", .none), ("key", .ref kf)]) X (fun _ => rfl)) (by decide) (locs rfl) ?_ rfl rfl rfl
  all_goals
    intro h₁ F
    have B₁ : Base w mg mb h₁ := B.keep F.keep
    have hl₁ : h₁.IsList a vs.toArray := stays_list F.keep hl
    have hn : ((vs.toArray.size : Nat) : Int) < 2 ^ 63 := by rw [List.size_toArray]; omega
    refine wpAny_execs_cons (wpAny_If (wpAny_isTrue_Compare1 (ld F rfl (wpAny_Constant_int (lt_int (wpAny_truthy_bool ?_))))))
    rw [if_neg (by decide)]
    refine wpAny_execs_nil ?_
    refine wpAny_execs_cons (wpAny_If (wpAny_isTrue_Compare1 (ld F rfl (wpAny_Constant_none (is_none_none (wpAny_truthy_bool ?_))))))
    rw [if_pos rfl]
    refine wpAny_execs_cons (wpAny_Assign_Name (Call_ (ldB B₁ rfl rfl (by decide) ?_)) rfl)
    refine callWith_builtin1 (spliced_more (ld F rfl (spliced_none (len_list hl₁ hn (st F fun h₂ F₂ => ?_)))))
    refine wpAny_execs_nil ?_
    refine wpAny_execs_cons (wpAny_If (wpAny_isTrue_Compare1 (ld F₂ rfl (wpAny_Constant_none (is_ref_none (wpAny_truthy_bool ?_))))))
    rw [if_neg (by decide)]
    have hsz' : vs.toArray.size = vs.length := List.size_toArray
    rw [hsz'] at F₂
    refine wpAny_execs_cons (while_left (k := k) (n := vs.length) rfl rfl rfl rfl hkn ?test F₂ rfl rfl fun h₃ tk m' t' F₃ e₃ => ?_)
    case test =>
      intro i hi s' m tk F' ho hmid Q' E' hq
      have ha : m "a" = some (.ref a) := ho "a" (by decide) (by decide) (by decide)
      have hkey : m "key" = some (.ref kf) := ho "key" (by decide) (by decide) (by decide)
      obtain ⟨kv, hkv, hdec⟩ := hc i vs[i] (by simp [hi])
      have hx : m "x" = some (.int xv tx) := ho "x" (by decide) (by decide) (by decide)
      refine wpAny_isTrue_Compare1 (call_one (hf.keep F'.keep) (fun _ hq' => ld F' hkey hq') (Subscript_ (ld F' ha (ld F' hmid (item_listL (x := vs[i]) (stays_list F'.keep hl) (by omega) (by omega) (by simp [hi]) ⟨fun _ _ e => e, hkv _ _ _ _ (hR.deeper _) F'.keep fun h' tk' t' hk' => ld (F'.kept hk') hx (lt_int (wpAny_truthy_bool ?_))⟩)))))
      rw [hdec]
      exact hq _ _ hk'
    refine wpAny_execs_nil ?_
    refine wpAny_execs_cons (wpAny_Return_some (ld F₃ e₃ ?_))
    exact hQ _ _ _ F₃.keep
/-- a list of the machine, with no dict of its own -/
def Lst (h : Heap) (a : Addr) (vs : List Value) : Prop := ∃ n, h.get? a = some (listOf vs.toArray n)
theorem Lst.is {h : Heap} {a : Addr} {vs : List Value} (x : Lst h a vs) : h.IsList a vs.toArray := let ⟨n, e⟩ := x; ⟨_, e, rfl, n, rfl⟩
theorem Lst.keep {h h' : Heap} {a : Addr} {vs : List Value} (x : Lst h a vs) (k : Keep h h') : Lst h' a vs := let ⟨n, e⟩ := x; ⟨n, k _ _ e⟩
def KeepBut (a : Addr) (h h' : Heap) : Prop := ∀ b o, b ≠ a → h.get? b = some o → h'.get? b = some o
theorem Keep.but {a : Addr} {h h' : Heap} (k : Keep h h') : KeepBut a h h' := fun b o _ e => k b o e
theorem KeepBut.trans {a : Addr} {h h' h'' : Heap} (x : KeepBut a h h') (y : KeepBut a h' h'') : KeepBut a h h'' := fun b o n e => y b o n (x b o n e)
theorem KeepBut.lst {a b : Addr} {h h' : Heap} {vs : List Value} (k : KeepBut a h h') (ne : b ≠ a) (x : Lst h b vs) : Lst h' b vs := let ⟨n, e⟩ := x; ⟨n, k _ _ ne e⟩
def ins (k : Nat) (x : Value) (vs : List Value) : List Value := vs.take k ++ x :: vs.drop k

section
variable {prog : Program} {w : World} {A : Around} {E : Value → Shared → Prop} {s : Shared} {a : Addr} {vs : List Value}
theorem lst_method {name : Str} {id : String} {pl : Sem Bool} {Q : Value × List Value → Shared → Prop} (hl : Lst s.heap a vs) (slot : Slot "list" name id) (hty : typeOf (.builtin id) = pure (.type "method_descriptor"))
    (h : Q (.builtin id, [.ref a]) s) : wpAny (model prog w) A (getMethod (.ref a) name pl) Q E s := by
  obtain ⟨n, e⟩ := hl
  exact getMethod_builtin ⟨_, e, rfl⟩ PySem.F.plainAttrs_list slot hty (fun a q => by cases q; exact ⟨_, e, rfl⟩) h
theorem lst_insertG {k : Int} {t : Tok} {x : Value} {its : Array Value} {n : Nat} {Q : Value → Shared → Prop} (e : s.heap.get? a = some (listOf its n)) (hf : ¬(!Builtin.List.listFitsIndex k) = true) (hz : its.size ≤ sizeLine)
    (h : ∀ h', KeepBut a s.heap h' → (∃ n', h'.get? a = some (listOf ((its.extract 0 (if k < 0 then (k + (its.size : Int)).toNat else min k.toNat its.size)).push x ++ its.extract (if k < 0 then (k + (its.size : Int)).toNat else min k.toNat its.size)) n')) → Q .none { s with heap := h' }) :
    wpAny (model prog w) A (call (.builtin "list.insert") [.ref a, .int k t, x]) Q E s := by
  refine call_meets PySem.F.slot_list_insert ⟨_, e, rfl⟩ PySem.F.entry_list_insert (PySem.F.args_list_insert_3 _ _ _) (PySem.AutoSeq1.list_insert_list_int_val_1 a its n k t x hf hz) ⟨e, ?_⟩
  exact h _ (fun b o ne q => (Heap.get?_update_ne _ _ _ _ ne).trans q) ⟨_, PySem.IsL.update e _⟩
theorem lst_insert {k : Nat} {t : Tok} {x : Value} {Q : Value → Shared → Prop} (hl : Lst s.heap a vs) (hk : k ≤ vs.length) (hsz : vs.length < 1000)
    (h : ∀ h', KeepBut a s.heap h' → Lst h' a (ins k x vs) → Q .none { s with heap := h' }) : wpAny (model prog w) A (call (.builtin "list.insert") [.ref a, .int (k : Nat) t, x]) Q E s := by
  obtain ⟨n, e⟩ := hl
  have hf : Builtin.List.listFitsIndex (k : Int) = true := Bool.and_eq_true_iff.mpr ⟨decide_eq_true (by omega), decide_eq_true (by omega)⟩
  have hz : vs.toArray.size ≤ sizeLine := by rw [List.size_toArray, sizeLine_eq]; omega
  refine lst_insertG e (by rw [hf]; simp) hz fun h' hk' ⟨n', e'⟩ => h h' hk' ⟨n', ?_⟩
  rw [e']
  have e1 : (if (k : Int) < 0 then ((k : Int) + (vs.toArray.size : Int)).toNat else min (k : Int).toNat vs.toArray.size) = k := by
    rw [if_neg (by omega), List.size_toArray]; omega
  rw [e1, kl_ins_eq]
  rfl
end

theorem ir_plain {w : World} {A : Around} {E : Value → Shared → Prop} {s : Shared} {mg mb : Str → Option Value} {a : Addr} {x : Value} {vs : List Value} {k n : Nat} {Q : Value → Shared → Prop}
    (B : Base w mg mb s.heap) (hR : Room (n + 2) A) (hl : Lst s.heap a vs) (hsz : vs.length < 1000) (hkn : k ≤ vs.length)
    (hc : ∀ i v, vs[i]? = some v → Asks w n s.heap .Lt x v (decide (k ≤ i)))
    (hQ : ∀ h' tk, KeepBut a s.heap h' → Lst h' a (ins k x vs) → Q .none { s with heap := h', toks := tk }) :
    wpAny (model PySem.Challenge.rw_rs0001_01.row.prog w) A (call (.ref 23) [.ref a, x] []) Q E s := by
  have X := B.X
  revert X; k_fill; intro X
  refine' call_fn (X _ _ (by k_is)) (codeRec_of X (by k_is)) B.lim hR.room (kp_binds (binds := [("a", .ref a), ("x", x), ("lo", .int 0 189), ("hi", .none), ("key", .none)]) X (fun _ => rfl)) (by decide) (locs rfl) ?_ rfl rfl rfl
  intro h₁ F
  have B₁ : Base w mg mb h₁ := B.keep F.keep
  refine wpAny_execs_cons (wpAny_If (wpAny_isTrue_Compare1 (ld F rfl (wpAny_Constant_none (is_none_none (wpAny_truthy_bool ?_))))))
  rw [if_pos rfl]
  refine wpAny_execs_cons (wpAny_Assign_Name (Call_ (ldG B₁ rfl ?_)) rfl)
  refine callWith_K B₁.X rfl (spliced_more (ld F rfl ?_))
  refine spliced_more (ld F rfl (spliced_more (ld F rfl (spliced_more (ld F rfl (spliced_none ⟨B₁.X, ?_⟩))))))
  refine br_plain (k := k) B₁ (hR.deeper _) (stays_list F.keep hl.is) hsz hkn (fun i v e A' s' Q' E' r kp hq => hc i v e A' s' Q' E' r (Keep.trans F.keep kp) hq) (.inl ⟨_, rfl⟩) fun h₂ tk t kp => ?_
  have F₂ := F.kept kp
  refine st F₂ fun h₃ F₃ => ?_
  refine wpAny_execs_nil (wpAny_execs_cons (wpAny_Expr (MethodCall_ (ld F₃ rfl ?_))))
  refine lst_method (hl.keep F₃.keep) PySem.F.slot_list_insert PySem.F.type_list_insert (callWith_method1 ?_)
  refine spliced_more (ld F₃ rfl (spliced_more (ld F₃ rfl (spliced_none ?_))))
  refine lst_insert (hl.keep F₃.keep) hkn hsz fun h₄ k₄ l₄ => ?_
  refine wpAny_execs_nil ?_
  exact hQ _ _ (KeepBut.trans (Keep.but F₃.keep) k₄) l₄
theorem ir_key {w : World} {A : Around} {E : Value → Shared → Prop} {s : Shared} {mg mb : Str → Option Value} {a : Addr} {x : Value} {kx : Int} {kf : Addr} {vs : List Value} {k n : Nat} {Q : Value → Shared → Prop}
    (B : Base w mg mb s.heap) (hR : Room (n + 2) A) (hl : Lst s.heap a vs) (hsz : vs.length < 1000) (hkn : k ≤ vs.length)
    (hf : IsFn s.heap kf) (hx : KeyOf w (n + 1) s.heap kf x kx) (hc : ∀ i v, vs[i]? = some v → ∃ kv, KeyOf w n s.heap kf v kv ∧ decide (kx < kv) = decide (k ≤ i))
    (hQ : ∀ h' tk, KeepBut a s.heap h' → Lst h' a (ins k x vs) → Q .none { s with heap := h', toks := tk }) :
    wpAny (model PySem.Challenge.rw_rs0001_01.row.prog w) A (call (.ref 23) [.ref a, x] [("key", .ref kf)]) Q E s := by
  have X := B.X
  revert X; k_fill; intro X
  refine' call_fn (X _ _ (by k_is)) (codeRec_of X (by k_is)) B.lim hR.room (kp_binds (binds := [("a", .ref a), ("x", x), ("lo", .int 0 189), ("hi", .none), ("key", .ref kf)]) X (fun _ => rfl)) (by decide) (locs rfl) ?_ rfl rfl rfl
  intro h₁ F
  have B₁ : Base w mg mb h₁ := B.keep F.keep
  refine wpAny_execs_cons (wpAny_If (wpAny_isTrue_Compare1 (ld F rfl (wpAny_Constant_none (is_ref_none (wpAny_truthy_bool ?_))))))
  rw [if_neg (by decide)]
  refine wpAny_execs_cons (wpAny_Assign_Name (wpAny_Call_Name_kw (ldG B₁ rfl ?_)) rfl)
  refine callWith_KW B₁.X rfl rfl (spliced_more (ld F rfl ?_)) rfl rfl
  refine spliced_more ?_
  refine call_one (hf.keep F.keep) (fun _ hq' => ld F rfl hq') ?_
  refine ld F rfl ⟨fun _ _ e => e, ?_⟩
  refine hx _ _ _ _ (hR.deeper _) F.keep fun h₂ tk t kp => ?_
  have F₂ := F.kept kp
  have B₂ := B₁.keep kp
  refine spliced_more (ld F₂ rfl (spliced_more (ld F₂ rfl (spliced_none ?_))))
  refine kwAll_cons (ld F₂ rfl (kwAll_nil ⟨B₂.X, ?_⟩))
  refine br_key (k := k) B₂ (hR.deeper _) (stays_list F₂.keep hl.is) hsz hkn (hf.keep F₂.keep) (fun i v e => ?_) fun h₃ tk t kp => ?_
  · obtain ⟨kv, h1, h2⟩ := hc i v e
    exact ⟨kv, fun A' s' Q' E' r kp' hq => h1 A' s' Q' E' r (Keep.trans F₂.keep kp') hq, h2⟩
  have F₃ := F₂.kept kp
  refine st F₃ fun h₄ F₄ => ?_
  refine wpAny_execs_nil (wpAny_execs_cons (wpAny_Expr (MethodCall_ (ld F₄ rfl ?_))))
  refine lst_method (hl.keep F₄.keep) PySem.F.slot_list_insert PySem.F.type_list_insert (callWith_method1 ?_)
  refine spliced_more (ld F₄ rfl (spliced_more (ld F₄ rfl (spliced_none ?_))))
  refine lst_insert (hl.keep F₄.keep) hkn hsz fun h₅ k₅ l₅ => ?_
  refine wpAny_execs_nil ?_
  exact hQ _ _ (KeepBut.trans (Keep.but F₄.keep) k₅) l₅

theorem il_plain {w : World} {A : Around} {E : Value → Shared → Prop} {s : Shared} {mg mb : Str → Option Value} {a : Addr} {x : Value} {vs : List Value} {k n : Nat} {Q : Value → Shared → Prop}
    (B : Base w mg mb s.heap) (hR : Room (n + 2) A) (hl : Lst s.heap a vs) (hsz : vs.length < 1000) (hkn : k ≤ vs.length)
    (hc : ∀ i v, vs[i]? = some v → Asks w n s.heap .Lt v x (decide (i < k)))
    (hQ : ∀ h' tk, KeepBut a s.heap h' → Lst h' a (ins k x vs) → Q .none { s with heap := h', toks := tk }) :
    wpAny (model PySem.Challenge.rw_rs0001_01.row.prog w) A (call (.ref 41) [.ref a, x] []) Q E s := by
  have X := B.X
  revert X; k_fill; intro X
  refine' call_fn (X _ _ (by k_is)) (codeRec_of X (by k_is)) B.lim hR.room (kp_binds (binds := [("a", .ref a), ("x", x), ("lo", .int 0 216), ("hi", .none), ("key", .none)]) X (fun _ => rfl)) (by decide) (locs rfl) ?_ rfl rfl rfl
  intro h₁ F
  have B₁ : Base w mg mb h₁ := B.keep F.keep
  refine wpAny_execs_cons (wpAny_If (wpAny_isTrue_Compare1 (ld F rfl (wpAny_Constant_none (is_none_none (wpAny_truthy_bool ?_))))))
  rw [if_pos rfl]
  refine wpAny_execs_cons (wpAny_Assign_Name (Call_ (ldG B₁ rfl ?_)) rfl)
  refine callWith_K B₁.X rfl (spliced_more (ld F rfl ?_))
  refine spliced_more (ld F rfl (spliced_more (ld F rfl (spliced_more (ld F rfl (spliced_none ⟨B₁.X, ?_⟩))))))
  refine bl_plain (k := k) B₁ (hR.deeper _) (stays_list F.keep hl.is) hsz hkn (fun i v e A' s' Q' E' r kp hq => hc i v e A' s' Q' E' r (Keep.trans F.keep kp) hq) (.inl ⟨_, rfl⟩) fun h₂ tk t kp => ?_
  have F₂ := F.kept kp
  refine st F₂ fun h₃ F₃ => ?_
  refine wpAny_execs_nil (wpAny_execs_cons (wpAny_Expr (MethodCall_ (ld F₃ rfl ?_))))
  refine lst_method (hl.keep F₃.keep) PySem.F.slot_list_insert PySem.F.type_list_insert (callWith_method1 ?_)
  refine spliced_more (ld F₃ rfl (spliced_more (ld F₃ rfl (spliced_none ?_))))
  refine lst_insert (hl.keep F₃.keep) hkn hsz fun h₄ k₄ l₄ => ?_
  refine wpAny_execs_nil ?_
  exact hQ _ _ (KeepBut.trans (Keep.but F₃.keep) k₄) l₄
theorem il_key {w : World} {A : Around} {E : Value → Shared → Prop} {s : Shared} {mg mb : Str → Option Value} {a : Addr} {x : Value} {kx : Int} {kf : Addr} {vs : List Value} {k n : Nat} {Q : Value → Shared → Prop}
    (B : Base w mg mb s.heap) (hR : Room (n + 2) A) (hl : Lst s.heap a vs) (hsz : vs.length < 1000) (hkn : k ≤ vs.length)
    (hf : IsFn s.heap kf) (hx : KeyOf w (n + 1) s.heap kf x kx) (hc : ∀ i v, vs[i]? = some v → ∃ kv, KeyOf w n s.heap kf v kv ∧ decide (kv < kx) = decide (i < k))
    (hQ : ∀ h' tk, KeepBut a s.heap h' → Lst h' a (ins k x vs) → Q .none { s with heap := h', toks := tk }) :
    wpAny (model PySem.Challenge.rw_rs0001_01.row.prog w) A (call (.ref 41) [.ref a, x] [("key", .ref kf)]) Q E s := by
  have X := B.X
  revert X; k_fill; intro X
  refine' call_fn (X _ _ (by k_is)) (codeRec_of X (by k_is)) B.lim hR.room (kp_binds (binds := [("a", .ref a), ("x", x), ("lo", .int 0 216), ("hi", .none), ("key", .ref kf)]) X (fun _ => rfl)) (by decide) (locs rfl) ?_ rfl rfl rfl
  intro h₁ F
  have B₁ : Base w mg mb h₁ := B.keep F.keep
  refine wpAny_execs_cons (wpAny_If (wpAny_isTrue_Compare1 (ld F rfl (wpAny_Constant_none (is_ref_none (wpAny_truthy_bool ?_))))))
  rw [if_neg (by decide)]
  refine wpAny_execs_cons (wpAny_Assign_Name (wpAny_Call_Name_kw (ldG B₁ rfl ?_)) rfl)
  refine callWith_KW B₁.X rfl rfl (spliced_more (ld F rfl ?_)) rfl rfl
  refine spliced_more ?_
  refine call_one (hf.keep F.keep) (fun _ hq' => ld F rfl hq') ?_
  refine ld F rfl ⟨fun _ _ e => e, ?_⟩
  refine hx _ _ _ _ (hR.deeper _) F.keep fun h₂ tk t kp => ?_
  have F₂ := F.kept kp
  have B₂ := B₁.keep kp
  refine spliced_more (ld F₂ rfl (spliced_more (ld F₂ rfl (spliced_none ?_))))
  refine kwAll_cons (ld F₂ rfl (kwAll_nil ⟨B₂.X, ?_⟩))
  refine bl_key (k := k) B₂ (hR.deeper _) (stays_list F₂.keep hl.is) hsz hkn (hf.keep F₂.keep) (fun i v e => ?_) fun h₃ tk t kp => ?_
  · obtain ⟨kv, h1, h2⟩ := hc i v e
    exact ⟨kv, fun A' s' Q' E' r kp' hq => h1 A' s' Q' E' r (Keep.trans F₂.keep kp') hq, h2⟩
  have F₃ := F₂.kept kp
  refine st F₃ fun h₄ F₄ => ?_
  refine wpAny_execs_nil (wpAny_execs_cons (wpAny_Expr (MethodCall_ (ld F₄ rfl ?_))))
  refine lst_method (hl.keep F₄.keep) PySem.F.slot_list_insert PySem.F.type_list_insert (callWith_method1 ?_)
  refine spliced_more (ld F₄ rfl (spliced_more (ld F₄ rfl (spliced_none ?_))))
  refine lst_insert (hl.keep F₄.keep) hkn hsz fun h₅ k₅ l₅ => ?_
  refine wpAny_execs_nil ?_
  exact hQ _ _ (KeepBut.trans (Keep.but F₄.keep) k₅) l₅
/-- the order of rows of ints -/
def llt : List Int → List Int → Bool
  | a :: r, b :: t => if a == b then llt r t else decide (a < b)
  | [], _ :: _ => true
  | _, [] => false

theorem rc_lt {prog : Program} {w : World} {A : Around} {E : Value → Shared → Prop} {s : Shared} {a b : Int} {t u : Tok} {Q : Value → Shared → Prop} (h : Q (.bool (decide (a < b))) s) :
    wpAny (model prog w) A (richCompare .Lt (.int a t) (.int b u)) Q E s := lt_int h
theorem tuple_ltAt (l b : Addr) (xs ys : List Value) (ns ms : List Int) (n n2 : Nat) (dd dd2 : Option Addr) (sl sl2 : Array (Option Value)) (hx : IntsAre xs ns) (hy : IntsAre ys ms) (hlen : ns.length = ms.length) :
    Meets (Builtin.«tuple.__lt__» ⟨[.ref l, .ref b], []⟩)
      (fun A R s => s.heap.get? l = some { cls := .type "tuple", dict := dd, data := .seq xs.toArray n, slots := sl } ∧ s.heap.get? b = some { cls := .type "tuple", dict := dd2, data := .seq ys.toArray n2, slots := sl2 } ∧
        R (.ok (.ret (.bool (llt ns ms)))) s) :=
  .of_wp fun prog w A R s h => by
    obtain ⟨hp, g, d, tk, os⟩ := s; obtain ⟨hl, hb, h⟩ := h
    have f2 := AutoSeq1.sub_tuple_tuple
    have hsz : xs.length = ys.length := by rw [hx.length, hy.length, hlen]
    wp_walk using wpAny_loadPart' hl, wpAny_loadPart' hb, wpAny_forIn_list _ (fun rest b s' => b.1 = none ∧ s' = ⟨hp, g, d, tk, os⟩ ∧ ∃ xs' ys' ns' ms', rest = xs'.zip ys' ∧ IntsAre xs' ns' ∧ IntsAre ys' ms' ∧ ns'.length = ms'.length ∧
      R (.ok (.ret (.bool (llt ns' ms')))) ⟨hp, g, d, tk, os⟩) _
    case turn =>
      rintro ⟨y, x⟩ rest b s' ⟨hb', rfl, xs', ys', ns', ms', hz, hx', hy', hl', hR⟩
      cases hx' with
      | nil => cases hz
      | cons a1 t1 r1 =>
        cases hy' with
        | nil => cases hz
        | cons a2 t2 r2 =>
          rw [List.zip_cons_cons] at hz
          injection hz with h1 h2
          injection h1 with h3 h4
          subst h3 h4
          refine wpAny_bind (wpAny_eqBool_int ?_)
          unfold llt at hR
          cases he : (a1 == a2) with
          | true =>
            rw [he, if_pos rfl] at hR
            wp_walk
            exact ⟨rfl, rfl, _, _, _, _, h2, r1, r2, by simpa using hl', hR⟩
          | false =>
            rw [he, if_neg (by simp)] at hR
            wp_walk using rc_lt
            exact ⟨_, rfl, hR⟩
    case fin =>
      rintro ⟨b1, b2⟩ s' ⟨hb', rfl, xs', ys', ns', ms', hz, hx', hy', hl', hR⟩
      simp only at hb'
      subst hb'
      wp_walk
      refine ⟨_, rfl, ?_⟩
      have e0 : Builtin.Tuple.tupleCompareSizes .Lt xs.toArray.size ys.toArray.size = .bool false := by
        rw [List.size_toArray, List.size_toArray, hsz]
        simp [Builtin.Tuple.tupleCompareSizes]
      rw [e0]
      cases hx' with
      | nil => cases hy' with
        | nil => exact hR
        | cons a2 t2 r2 => simp at hl'
      | cons a1 t1 r1 => cases hy' with
        | nil => simp at hl'
        | cons a2 t2 r2 => cases hz
    case h =>
      exact ⟨rfl, rfl, xs, ys, ns, ms, rfl, hx, hy, hlen, h⟩

abbrev tupOf (vs : List Value) (n : Nat) : Obj := { cls := .type "tuple", data := .seq vs.toArray n }
def Tup (h : Heap) (a : Addr) (vs : List Value) : Prop := ∃ n, h.get? a = some (tupOf vs n)
theorem Tup.keep {h h' : Heap} {a : Addr} {vs : List Value} (x : Tup h a vs) (k : Keep h h') : Tup h' a vs := let ⟨n, e⟩ := x; ⟨n, k _ _ e⟩
theorem Tup.is {h : Heap} {a : Addr} {vs : List Value} (x : Tup h a vs) : IsTup h a vs.toArray := let ⟨n, e⟩ := x; ⟨_, e, rfl, n, rfl⟩
/-- a tuple of ints -/
def ITup (h : Heap) (a : Addr) (ns : List Int) : Prop := ∃ vs, Tup h a vs ∧ IntsAre vs ns
theorem ITup.keep {h h' : Heap} {a : Addr} {ns : List Int} (x : ITup h a ns) (k : Keep h h') : ITup h' a ns := let ⟨vs, t, i⟩ := x; ⟨vs, t.keep k, i⟩
theorem Asks.tup {w : World} {n : Nat} {h₀ : Heap} {x y : Addr} {ns ms : List Int} (hx : ITup h₀ x ns) (hy : ITup h₀ y ms) (hlen : ns.length = ms.length) : Asks w n h₀ .Lt (.ref x) (.ref y) (llt ns ms) := by
  intro A s Q E hR kp h
  obtain ⟨xs, ⟨n1, e1⟩, i1⟩ := hx.keep kp
  obtain ⟨ys, ⟨n2, e2⟩, i2⟩ := hy.keep kp
  exact richCompare_meets_room (op := .Lt) ⟨_, e1, rfl⟩ ⟨_, e2, rfl⟩ PySem.F.slot_tuple_lt PySem.F.entry_tuple_lt (PySem.F.args_tuple_lt_2 _ _) (tuple_ltAt x y xs ys ns ms n1 n2 none none #[] #[] i1 i2 hlen)
    ⟨e1, e2, show Value.bool (llt ns ms) ≠ Value.notImplemented ∧ Q (.bool (llt ns ms)) s from ⟨(fun x => nomatch x), h s.heap s.toks fun _ _ e => e⟩⟩ hR.units
theorem Base.tab {w : World} {mg mb : Str → Option Value} {h h' : Heap} (B : Base w mg mb h) (k : KeepBut 57 h h') : Base w mg mb h' := by
  refine ⟨fun a o e => ?_, B.g.at' fun o e => k _ o (by decide) e, B.b.at' fun o e => k _ o (by decide) e, ?_, B.bs, ?_⟩
  · refine k a o (fun q => ?_) (B.X a o e)
    subst q
    have : (hd.heap_39 w.params).lookup 57 = none := rfl
    rw [this] at e; cases e
  · obtain ⟨mc, a, b⟩ := B.lim
    exact ⟨mc, a.at' fun o e => k _ o (by decide) e, b⟩
  · obtain ⟨bm, o, a, b, c, d, e, r⟩ := B.bm
    exact ⟨bm, o, a, b, c, d, k _ _ d e, r⟩

abbrev lamQual : Str := Str.ofString "law" ++ ".<locals>." ++ "<lambda>"
/-- the law's table of inner codes -/
def TabOk (h : Heap) : Prop := ∃ ps : Array Value, h.get? 57 = some (tabObj ps) ∧ TriplesOk ps.toList ∧ ∀ pos cv, codeAmong pos ps.toList = some cv → ∃ c, cv = .ref c ∧ h.CodeRec cv lamQual
theorem TabOk.keep {h h' : Heap} (t : TabOk h) (k : Keep h h') : TabOk h' := let ⟨ps, a, b, c⟩ := t; ⟨ps, k _ _ a, b, fun pos cv e => let ⟨x, y, z⟩ := c pos cv e; ⟨x, y, z.keeps k⟩⟩
theorem TabOk.but {a : Addr} {h h' : Heap} (t : TabOk h) (k : KeepBut a h h') (h57 : a ≠ 57) (na : ∀ o vs, h.get? a = some o → o.data ≠ .fields vs) : TabOk h' := by
  obtain ⟨ps, e1, e2, e3⟩ := t
  refine ⟨ps, k _ _ h57.symm e1, e2, fun pos cv e => ?_⟩
  obtain ⟨c, e4, c', o, vs, t, x1, x2, x3, x4⟩ := e3 pos cv e
  exact ⟨c, e4, c', o, vs, t, x1, k _ _ (fun q => na o vs (q ▸ x2) x3) x2, x3, x4⟩

theorem among_snoc {pos pos' : Pos} {c cv : Value} : ∀ l : List Value, codeAmong pos' (l ++ [rawInt pos.line, rawInt pos.col, c]) = some cv → TriplesOk l → codeAmong pos' l = some cv ∨ cv = c := by
  intro l e t
  fun_induction TriplesOk l with
  | case1 =>
    simp only [List.nil_append, rawInt, codeAmong] at e
    split at e
    · exact .inr (Option.some.inj e).symm
    · cases e
  | case2 a1 t1 b1 u1 x rest ih =>
    simp only [List.cons_append, codeAmong] at e ⊢
    split at e
    · rename_i h; rw [if_pos h]; exact .inl e
    · rename_i h; rw [if_neg h]; exact ih e t
  | case3 l h1 h2 => exact t.elim

theorem triples_str {q : Str} {t : Tok} : ∀ l : List Value, TriplesOk l → l[1]? = some (.str q t) → False
  | [], _, e => by cases e
  | .int _ _ :: .int _ _ :: _ :: _, _, e => by cases e
  | [_], h, _ => by simp [TriplesOk] at h
  | [_, _], h, _ => by simp [TriplesOk] at h
  | a :: b :: c :: r, h, e => by
    simp at e
    subst e
    simp [TriplesOk] at h

section
variable {M : Model} {A : Around} {E : Value → Shared → Prop} {s : Shared} {w : World} {mg mb : Str → Option Value} {env : Env} {params : Arguments} {body : Expr} {scope : Scope} {pos : Pos} {Q : Value → Shared → Prop}
theorem mk_lambda (B : Base w mg mb s.heap) (T : TabOk s.heap) (hdef : defaultsOf params env = ([], [])) (hq : env.qual = Str.ofString "law" ++ ".<locals>.") (hcl : closureFor scope env = pure []) (hge : env.globals = mainGlobals) (hcode : env.code = .ref 59)
    (h : ∀ f c' ctv pm h' tk, KeepBut 57 s.heap h' → s.heap.get? f = none → h'.get? f = some (kla_obj "<lambda>" lamQual params body scope [] pm c' ctv) → h'.CodeRec (.ref c') lamQual → TabOk h' → Q (.ref f) { s with heap := h', toks := tk }) :
    wpAny M A (eval (.Lambda params body scope pos) env) Q E s := by
  have X := B.X
  revert X
  have hdummy : PySem.Challenge.rw_rs0001_01 = PySem.Challenge.rw_rs0001_01 := rfl
  intro X
  have C : CodeHd s.heap 59 57 := ⟨_, _, _, _, _, _, _, _, _, X _ _ (by rfl), rfl, rfl, rfl, rfl, rfl, rfl, rfl, rfl, by decide⟩
  obtain ⟨ps, e1, e2, e3⟩ := T
  refine kla_eval hdef ?_
  rw [hq]
  cases hf : codeAmong pos ps.toList with
  | none =>
    refine kla_makeFunction hcl hge B.g hcode C e1 e2 hf (by decide) B.bm fun c' ctv h' tk kx hge' hlt hrec htab => ?_
    have kb : KeepBut 57 s.heap h' := fun b o ne e => kx b o ne e
    refine h _ c' ctv _ _ _ (fun b o ne e => Heap.get?_push_of_some _ (kb b o ne e)) ?_ (Heap.get?_push_size _ rfl) (hrec.push _) ?_
    · cases q : s.heap.get? h'.objs.size with
      | none => rfl
      | some o =>
        have h1 : @LT.lt Nat _ h'.objs.size s.heap.objs.size := Heap.lt_size q
        exact absurd h1 (by omega)
    · refine ⟨_, Heap.get?_push_of_some _ htab, ?_, fun pos' cv e => ?_⟩
      · rw [Array.toList_append]; exact TriplesOk_snoc _ _ _ _ e2
      · rw [Array.toList_append] at e
        rcases among_snoc ps.toList e e2 with q | q
        · obtain ⟨c, x1, c2, o, vs, t, y1, y2, y3, y4⟩ := e3 pos' cv q
          exact ⟨c, x1, c2, o, vs, t, y1, Heap.get?_push_of_some _ (kb _ _ (fun z => by subst z; rw [e1] at y2; cases y2; cases y3; exact triples_str ps.toList e2 (by simpa using y4)) y2), y3, y4⟩
        · exact ⟨c', q, q ▸ hrec.push _⟩
  | some cv =>
    obtain ⟨c', rfl, hrec⟩ := e3 pos cv hf
    refine kla_makeFunctionHit hcl hge B.g hcode C e1 e2 hf B.bm fun ctv h' tk kp hsz => ?_
    refine h _ c' ctv _ _ _ (fun b o ne e => Heap.get?_push_of_some _ (kp b o e)) ?_ (Heap.get?_push_size _ rfl) ((hrec.keeps kp).push _) ?_
    · cases q : s.heap.get? h'.objs.size with
      | none => rfl
      | some o =>
        have h1 : @LT.lt Nat _ h'.objs.size s.heap.objs.size := Heap.lt_size q
        exact absurd h1 (by omega)
    · exact TabOk.keep ⟨ps, e1, e2, e3⟩ fun b o e => Heap.get?_push_of_some _ (kp b o e)
end

section
variable {w : World} {n : Nat} {h₀ : Heap} {f c' t : Addr} {ctv pm : Value} {qual : Str} {p p1 p2 p3 : Pos} {c : Nat} {a b : Int}
theorem key_of (ho : h₀.get? f = some (kla_obj "<lambda>" qual { posonlyargs := [], args := [{ arg := "one", annotation := none, pos := p }], vararg := none, kwonlyargs := [], kw_defaults := [], kwarg := none, defaults := [] }
      (.Subscript (.Name "one" p1) (.Constant (.int 1) c p2) p3) { kind := .function, names := [("one", .local)], isGenerator := false, isCoroutine := false } [] pm c' ctv)) (hc : h₀.CodeRec (.ref c') qual) (lim : h₀.NoLimit)
    (ht : ITup h₀ t [a, b]) : KeyOf w n h₀ f (.ref t) b := by
  intro A s Q E hR kp h
  refine wpAny_call (kla_callFunE hR.room (kp _ _ ho) rfl rfl rfl rfl (hc.keeps kp) ?_)
  refine (BindsTo.of_eq (binds := [("one", .ref t)]) rfl) _ _ _ _ ?_
  refine wpAny_newFunctionEnv (by dsimp only; decide) (locs rfl) (fun h₁ hns hsb => ⟨(lim.keeps kp).fresh _ hsb, ?_⟩) rfl
  have k₁ : Keep s.heap h₁ := fun b o e => hsb.extBut b o (Nat.ne_of_lt (Heap.lt_size e)) (Heap.get?_push_of_some _ e)
  obtain ⟨vs, ht', hi⟩ := (ht.keep kp).keep k₁
  cases hi with
  | cons a1 t1 hi =>
    cases hi with
    | cons b1 u1 hi =>
      cases hi
      refine kla_codeExpr ?_
      refine Subscript_ (wpAny_Name (wpAny_loadName_local rfl rfl hns rfl ?_))
      refine wpAny_Constant_int ?_
      refine item_tupleT ht'.is (by decide) (by decide) rfl rfl ?_
      exact h _ _ _ k₁
end
theorem keep_push (h : Heap) (o : Obj) : Keep h (h.push o) := fun _ _ e => Heap.get?_push_of_some _ e
theorem Tup.new (h : Heap) (vs : List Value) : Tup (h.push { cls := .type "tuple", data := .seq vs.toArray }) h.objs.size vs := ⟨0, Heap.get?_push_size _ rfl⟩
section
variable {prog : Program} {w : World} {A : Around} {E : Value → Shared → Prop} {s : Shared} {t b : Addr} {vs ws : List Value}
theorem add_tup {Q : Value → Shared → Prop} (ht : Tup s.heap t vs) (hb : Tup s.heap b ws) (hsz : vs.length + ws.length < 1000)
    (h : ∀ r h', Keep s.heap h' → Tup h' r (vs ++ ws) → Q (.ref r) { s with heap := h' }) : wpAny (model prog w) A (binaryOp .Add (.ref t) (.ref b)) Q E s := by
  obtain ⟨n, e1⟩ := ht
  obtain ⟨n2, e2⟩ := hb
  by_cases hv : vs = []
  · subst hv
    refine concat_meets ⟨_, e1, rfl⟩ ⟨_, e2, rfl⟩ noFill_tuple_add seq_tuple_add PySem.F.slot_tuple_add PySem.F.entry_tuple_add (PySem.F.args_tuple_add_2 _ _) (AutoSeq1.tuple___add___tuple_tuple_0 t [].toArray n b ws.toArray n2 rfl) ⟨e1, e2, ?_⟩
    exact h b s.heap (fun _ _ e => e) ⟨n2, by simpa using e2⟩
  · have hv' : ¬ vs.toArray.isEmpty = true := by simpa using hv
    by_cases hw : ws = []
    · subst hw
      refine concat_meets ⟨_, e1, rfl⟩ ⟨_, e2, rfl⟩ noFill_tuple_add seq_tuple_add PySem.F.slot_tuple_add PySem.F.entry_tuple_add (PySem.F.args_tuple_add_2 _ _) (AutoSeq1.tuple___add___tuple_tuple_1 t vs.toArray n b [].toArray n2 hv' rfl) ⟨e1, e2, ?_⟩
      exact h t s.heap (fun _ _ e => e) ⟨n, by simpa using e1⟩
    · have hw' : ¬ ws.toArray.isEmpty = true := by simpa using hw
      have hz : vs.toArray.size + ws.toArray.size ≤ sizeLine := by rw [List.size_toArray, List.size_toArray, sizeLine_eq]; omega
      refine P.add_tuple e1 e2 hv' hw' ?_ hz
      have : vs.toArray ++ ws.toArray = (vs ++ ws).toArray := by simp
      rw [this]
      exact h _ _ (keep_push _ _) (Tup.new _ _)

theorem sliceApplied_upto {sl : Addr} {a n : Nat} {u : Tok} {Q : Int × Int × Nat → Shared → Prop} (hs : s.heap.IsSliceOf sl .none (.int a u) .none) (ha : a ≤ n) (h : Q (0, 1, a) s) :
    wpAny (model prog w) A (Builtin.Slice.sliceApplied (.ref sl) (pure (n : Int))) Q E s := by
  obtain ⟨os, hos, hcs, hds⟩ := id hs
  unfold Builtin.Slice.sliceApplied Builtin.Slice.sliceFields
  refine wpAny_bind (wpAny_bind (wpAny_field hos hds (x := .none) rfl (wpAny_bind (wpAny_field hos hds (x := .int a u) rfl (wpAny_bind (wpAny_field hos hds (x := .none) rfl (wpAny_pure ?_)))))))
  refine wpAny_bind (slicePart_none ?_)
  show wpAny _ _ (if ((1 : Int) == 0) = true then _ else _) _ _ s
  rw [if_neg (by decide)]
  refine wpAny_bind (slicePart_none (wpAny_bind (slicePart_int (wpAny_bind (wpAny_pure ?_)))))
  show wpAny _ _ (match Builtin.Slice.sliceAdjust none (some (a : Int)) 1 (n : Int) with | (lo, hi) => pure (lo, (1 : Int), Builtin.Slice.slicePlaces lo hi 1)) _ _ s
  have e1 : Builtin.Slice.sliceAdjust none (some (a : Int)) 1 (n : Int) = (0, (a : Int)) := by
    unfold Builtin.Slice.sliceAdjust
    have h1 : ¬ ((1 : Int) < 0) := by omega
    have h2 : ¬ ((a : Int) < 0) := by omega
    simp only [h1, h2, if_false]
    congr 1
    omega
  have e2 : Builtin.Slice.slicePlaces 0 (a : Int) 1 = a := by
    unfold Builtin.Slice.slicePlaces
    have h1 : (1 : Int) > 0 := by omega
    simp only [h1, if_true, Int.ediv_one]
    split <;> omega
  rw [e1]
  show wpAny _ _ (pure ((0 : Int), (1 : Int), Builtin.Slice.slicePlaces 0 (a : Int) 1)) _ _ s
  rw [e2]
  exact wpAny_pure h

theorem pick_upto (xs : List Value) (a : Nat) (ha : a ≤ xs.length) : ((List.range a).filterMap fun (k : Nat) => xs.toArray[((0 : Int) + (k : Int) * 1).toNat]?).toArray = (xs.take a).toArray := by
  congr 1
  induction a with
  | zero => simp
  | succ a ih =>
    rw [List.range_succ, List.filterMap_append, ih (by omega), List.take_add_one]
    congr 1
    have : ((0 : Int) + (a : Int) * 1).toNat = a := by omega
    simp only [List.filterMap_cons, List.filterMap_nil, this, List.getElem?_toArray]
    cases xs[a]? <;> rfl

theorem getItem_tup {sl : Addr} {lo a n : Nat} {Q : Value → Shared → Prop} {us : List Value} (ht : Tup s.heap t vs) (hsz : vs.length < 1000)
    (hsl : ∃ o, s.heap.get? sl = some o ∧ o.cls = .type "slice")
    (hap : ∀ (Q' : Int × Int × Nat → Shared → Prop) (A' : Around), Q' ((lo : Int), 1, a) s → wpAny (model prog w) A' (Builtin.Slice.sliceApplied (.ref sl) (pure ((vs.toArray.size : Nat) : Int))) Q' E s)
    (hpick : ((List.range a).filterMap fun (k : Nat) => vs.toArray[((lo : Int) + (k : Int) * 1).toNat]?).toArray = us.toArray) (hwhole : lo = 0 → a = vs.length → us = vs) (hus : us.length < 1000)
    (h : ∀ r h', Keep s.heap h' → Tup h' r us → Q (.ref r) { s with heap := h' }) : wpAny (model prog w) A (getItem (.ref t) (.ref sl)) Q E s := by
  obtain ⟨os, hos, hcs⟩ := hsl
  have hTs : s.TypeIs (.ref sl) "slice" := ⟨os, hos, hcs⟩
  have hti := ht.is
  unfold getItem
  try with_reducible refine wpAny_holding ?_
  first | refine wpAny_bind (wpAny_pure ?_) | skip
  refine wpAny_bind (wpAny_sequenceKey hti.typeIs (by decide) ?_)
  refine wpAny_bind (wpAny_callSpecial?_slot (name := Str.ofString "__getitem__") hti.typeIs slot_tuple_getitem
    (wpAny_call_entry slot_tuple_getitem hti.typeIs entry_tuple_getitem ?_ (args_tuple_getitem _ _)))
  show wpAny _ _ (Builtin.Tuple.tupleItemsOf (.ref t) >>= _) _ _ s
  refine wpAny_bind (tupleItemsOf_ hti ?_)
  refine wpAny_bind (wpAny_typeOf hTs ?_)
  rw [if_pos (by decide)]
  refine wpAny_bind (hap _ _ ?_)
  show wpAny _ _ (if ((lo : Int) == 0 && (1 : Int) == 1 && a == vs.toArray.size) = true then _ else _) _ _ s
  have hdrop : sizeOk (.seq us.toArray) := by
    show us.toArray.size ≤ sizeLine
    rw [List.size_toArray, sizeLine_eq]; omega
  have hnew : wpAny (model prog w) A.in1 (Builtin.Tuple.tupleExact (List.filterMap (fun (k : Nat) => vs.toArray[((lo : Int) + (k : Int) * 1).toNat]?) (List.range a)).toArray >>= fun x => ret x)
      (fun fin s' => ∃ v, fin = .done (.ret v) ∧ Q v s') E s := by
    rw [hpick]
    exact wpAny_bind (m := Builtin.Tuple.tupleExact _) (wpAny_newObj_type (wpAny_pure ⟨_, rfl, h _ _ (keep_push _ _) (Tup.new _ _)⟩) hdrop)
  by_cases hc : ((lo : Int) == 0 && (1 : Int) == 1 && a == vs.toArray.size) = true
  · rw [if_pos hc]
    unfold Builtin.Tuple.tupleIsExact
    refine wpAny_bind (wpAny_bind (wpAny_typeOf hti.typeIs (wpAny_pure ?_)))
    rw [if_pos (by decide)]
    have e : us = vs := by
      simp only [Bool.and_eq_true, beq_iff_eq, List.size_toArray] at hc
      exact hwhole (by omega) hc.2
    subst e
    exact wpAny_bind (wpAny_rule (wpAny_pure ⟨_, rfl, wpAny_pure (h t s.heap (fun _ _ e => e) ht)⟩))
  · rw [if_neg hc]
    refine wpAny_mono hnew (fun fin s' q => ?_) fun _ _ e => e
    obtain ⟨v, rfl, q⟩ := q
    exact ⟨v, rfl, wpAny_pure q⟩

theorem slice_upto {value slice : Expr} {k : Nat} {u : Tok} {Q : Value → Shared → Prop} (ht : Tup s.heap t vs) (hsz : vs.length < 1000) (hk : k ≤ vs.length)
    (h : ∀ r h', Keep s.heap h' → Tup h' r (vs.take k) → Q (.ref r) { s with heap := h' })
    (hs : subscripted slice false (.ref t) (.ref s.heap.objs.size) = operate [.ref s.heap.objs.size, .ref t] (getItem (.ref t) (.ref s.heap.objs.size)) := by with_unfolding_all rfl)
    (hg : ∀ r, letTemporaryGo value (.ref t) r = pure () := by intro _; with_unfolding_all rfl) :
    wpAny (model prog w) A (subscriptTail value slice (.ref t) (.ref s.heap.objs.size)) Q E { s with heap := s.heap.push { cls := .type "slice", data := .fields #[.none, .int k u, .none] } } := by
  have ht' := ht.keep (keep_push s.heap { cls := .type "slice", data := .fields #[.none, .int k u, .none] })
  refine subscriptTail_ops (s := { s with heap := s.heap.push { cls := .type "slice", data := .fields #[.none, .int k u, .none] } }) ht'.is.typeIs slot_tuple_getitem.lookup
    (getItem_tup (lo := 0) (a := k) (n := 0) (us := vs.take k) ht' hsz ⟨_, Heap.get?_push_size _ rfl, rfl⟩ (fun Q' A' q => sliceApplied_upto (Heap.IsSliceOf.new ..) (by rw [List.size_toArray]; exact hk) q) (pick_upto vs k hk) (fun _ e => by rw [e, List.take_length]) (by rw [List.length_take]; omega) ?_) hs hg
  intro r h' k' x
  exact h r h' (Keep.trans (keep_push _ _) k') x
theorem slice_from {value slice : Expr} {k : Nat} {u : Tok} {Q : Value → Shared → Prop} (ht : Tup s.heap t vs) (hsz : vs.length < 1000) (hk : k ≤ vs.length)
    (h : ∀ r h', Keep s.heap h' → Tup h' r (vs.drop k) → Q (.ref r) { s with heap := h' })
    (hs : subscripted slice false (.ref t) (.ref s.heap.objs.size) = operate [.ref s.heap.objs.size, .ref t] (getItem (.ref t) (.ref s.heap.objs.size)) := by with_unfolding_all rfl)
    (hg : ∀ r, letTemporaryGo value (.ref t) r = pure () := by intro _; with_unfolding_all rfl) :
    wpAny (model prog w) A (subscriptTail value slice (.ref t) (.ref s.heap.objs.size)) Q E { s with heap := s.heap.push { cls := .type "slice", data := .fields #[.int k u, .none, .none] } } := by
  have ht' := ht.keep (keep_push s.heap { cls := .type "slice", data := .fields #[.int k u, .none, .none] })
  have hpk := pick_from vs.toArray k (by rw [List.size_toArray]; exact hk)
  refine subscriptTail_ops (s := { s with heap := s.heap.push { cls := .type "slice", data := .fields #[.int k u, .none, .none] } }) ht'.is.typeIs slot_tuple_getitem.lookup
    (getItem_tup (lo := k) (a := vs.toArray.size - k) (n := 0) (us := vs.drop k) ht' hsz ⟨_, Heap.get?_push_size _ rfl, rfl⟩ (fun Q' A' q => sliceApplied_from (Heap.IsSliceOf.new ..) (by rw [List.size_toArray]; exact hk) q) hpk (fun e _ => by rw [e, List.drop_zero]) (by rw [List.length_drop]; omega) ?_) hs hg
  intro r h' k' x
  exact h r h' (Keep.trans (keep_push _ _) k') x
end
section
variable {prog : Program} {w : World} {A : Around} {E : Value → Shared → Prop} {s : Shared}

theorem nextT_item {it l : Addr} {i : Nat} {items : Array Value} {x : Value} {Q : Value → Shared → Prop} (hit : s.heap.IsTupleIter it l i) (hl : s.heap.IsTuple l items) (hx : items[i]? = some x)
    (hQ : ∀ h', h'.IsTupleIter it l (i + 1) → Heap.SameBut it s.heap h' → Q x { s with heap := h' }) : wpAny (model prog w) A (Builtin.SmallTypes.nextOf (.ref it)) Q E s := by
  obtain ⟨o, ho, hc, hd⟩ := id hit
  obtain ⟨ol, hol, _, nl, hdl⟩ := hl
  unfold Builtin.SmallTypes.nextOf
  refine wpAny_bind (wpAny_callSpecial?_slot (name := Str.ofString "__next__") hit.typeIs PySem.F.slot_tuple_iterator_next
    (wpAny_call_entry PySem.F.slot_tuple_iterator_next hit.typeIs PySem.F.entry_tuple_iterator_next ?_ (PySem.F.args_tuple_iterator_next_1 _)))
  show wpAny _ _ (field (.ref it) 0 >>= _) _ _ s
  refine wpAny_bind (wpAny_field ho hd (x := .ref l) rfl ?_)
  show wpAny _ _ (if (Value.ref l == Value.none) = true then _ else _) _ _ s
  rw [if_neg (show ¬ ((Value.ref l == Value.none) = true) from Bool.false_ne_true)]
  show wpAny _ _ (field (.ref it) 1 >>= _) _ _ s
  refine wpAny_bind (wpAny_field ho hd (x := .int i 0) rfl ?_)
  show wpAny _ _ (seqItems? (.ref l) >>= _) _ _ s
  refine wpAny_bind (wpAny_seqItems hol hdl ?_)
  simp only [Int.toNat_natCast, hx]
  refine wpAny_bind (wpAny_setField ho hd (by simp) (wpAny_pure ⟨x, rfl, wpAny_pure (hQ _ ?_ (Heap.SameBut.update ..))⟩))
  exact ⟨_, Heap.get?_update_self _ ho (Obj.isFreed_of_fields (Obj.data_mapFields hd _)), (Obj.cls_mapFields ..).trans hc, by
    rw [Obj.data_mapFields hd]; simp [rawInt]⟩

theorem nextT_end {it l : Addr} {i : Nat} {items : Array Value} {Q : Value → Shared → Prop} (hh : A.handled = none) (hit : s.heap.IsTupleIter it l i) (hl : s.heap.IsTuple l items) (hx : items[i]? = none)
    (hE : ∀ h' e, Heap.ExtBut it s.heap h' → (∃ o, h'.get? e = some o ∧ o.cls = .type "StopIteration") → E (.ref e) { s with heap := h' }) :
    wpAny (model prog w) A (Builtin.SmallTypes.nextOf (.ref it)) Q E s := by
  obtain ⟨o, ho, hc, hd⟩ := id hit
  obtain ⟨ol, hol, _, nl, hdl⟩ := hl
  unfold Builtin.SmallTypes.nextOf
  refine wpAny_bind (wpAny_callSpecial?_slot (name := Str.ofString "__next__") hit.typeIs PySem.F.slot_tuple_iterator_next
    (wpAny_call_entry PySem.F.slot_tuple_iterator_next hit.typeIs PySem.F.entry_tuple_iterator_next ?_ (PySem.F.args_tuple_iterator_next_1 _)))
  show wpAny _ _ (field (.ref it) 0 >>= _) _ _ s
  refine wpAny_bind (wpAny_field ho hd (x := .ref l) rfl ?_)
  show wpAny _ _ (if (Value.ref l == Value.none) = true then _ else _) _ _ s
  rw [if_neg (show ¬ ((Value.ref l == Value.none) = true) from Bool.false_ne_true)]
  show wpAny _ _ (field (.ref it) 1 >>= _) _ _ s
  refine wpAny_bind (wpAny_field ho hd (x := .int i 0) rfl ?_)
  show wpAny _ _ (seqItems? (.ref l) >>= _) _ _ s
  refine wpAny_bind (wpAny_seqItems hol hdl ?_)
  simp only [Int.toNat_natCast, hx]
  refine wpAny_bind (wpAny_rule (wpAny_bind (wpAny_setField ho hd (by simp) ?_)))
  show wpAny _ _ (newExc (.type "StopIteration") [] >>= _) _ _ _
  refine wpAny_bind ?_
  simp only [newExc, newTuple]
  refine wpAny_bind (wpAny_newObj_type ?_ (by size_fits))
  refine wpAny_bind (m := firstArgMember _ _) (wpAny_of_eq (a := Value.none) (by first | rfl | (simp only [firstArgMember]; rfl)) ?_)
  refine wpAny_newObj_type ?_ (by size_fits)
  simp only [raiseNew]
  refine wpAny_bind (wpAny_handled ?_)
  first | rw [show A.in1.handled = none from hh] | rw [hh]
  refine wpAny_bind (wpAny_pure (wpAny_throw ?_))
  exact hE _ _ (((Heap.SameBut.update ..).extBut.push _).push _) ⟨_, Heap.get?_push_size _ rfl, rfl⟩

theorem enumT_item {e it l : Addr} {i : Nat} {items : Array Value} {x old : Value} {Q : Option Value → Shared → Prop}
    (he : IsEnum s.heap e it i old) (hit : s.heap.IsTupleIter it l i) (hl : s.heap.IsTuple l items) (hx : items[i]? = some x) (hne : e ≠ it)
    (hQ : ∀ h', IsEnumOut h' e it ((i : Int) + 1) x s.heap.objs.size → h'.IsTupleIter it l (i + 1) →
      h'.get? s.heap.objs.size = some { cls := .type "tuple", data := .seq #[.int i s.toks, x] } → h'.objs.size = s.heap.objs.size + 1 →
      (∀ b o, b ≠ e → b ≠ it → s.heap.get? b = some o → h'.get? b = some o) → Q (some (.ref s.heap.objs.size)) { s with heap := h', toks := s.toks + 1 }) :
    wpAny (model prog w) A (pyNext (.ref e)) Q E s := by
  have hT : s.TypeIs (.ref e) "enumerate" := ⟨_, he, rfl⟩
  unfold pyNext
  refine wpAny_bind (wpAny_attempt (wpAny_callSpecial?_slot (name := Str.ofString "__next__") hT PySem.F.slot_enumerate_next
    (wpAny_call_entry PySem.F.slot_enumerate_next hT PySem.F.entry_enumerate_next ?_ (PySem.F.args_enumerate_next_1 _))))
  obtain ⟨hp, g, d, tk, os⟩ := s
  show wpAny _ _ (field (.ref e) 2 >>= _) _ _ _
  refine wpAny_bind (wpAny_field he rfl (x := .ref it) rfl ?_)
  refine wpAny_bind (nextT_item hit hl hx fun h₁ hit₁ hs₁ => ?_)
  replace hs₁ : Heap.SameBut it hp h₁ := hs₁
  have he₁ : IsEnum h₁ e it i old := (hs₁.2 e hne).trans he
  show wpAny _ _ (field (.ref e) 3 >>= _) _ _ ⟨h₁, g, d, tk, os⟩
  refine wpAny_bind (wpAny_field he₁ rfl (x := rawInt i) rfl ?_)
  show wpAny _ _ (field (.ref e) 4 >>= _) _ _ ⟨h₁, g, d, tk, os⟩
  refine wpAny_bind (wpAny_field he₁ rfl (x := .none) rfl ?_)
  show wpAny _ _ (mkInt i >>= _) _ _ ⟨h₁, g, d, tk, os⟩
  refine wpAny_bind (wpAny_mkInt ?_)
  show wpAny _ _ (setField (.ref e) 3 (rawInt ((i : Int) + 1)) >>= _) _ _ ⟨h₁, g, d, tk + 1, os⟩
  refine wpAny_bind (wpAny_setField_rec he₁ (by simp) fun h₂ he₂ hs₂ => ?_)
  replace hs₂ : Heap.SameBut e h₁ h₂ := hs₂
  replace he₂ : IsEnum h₂ e it ((i : Int) + 1) old := he₂
  show wpAny _ _ (setField (.ref e) 4 .none >>= _) _ _ ⟨h₂, g, d, tk + 1, os⟩
  refine wpAny_bind (wpAny_setField_rec he₂ (by simp) fun h₃ he₃ hs₃ => ?_)
  replace hs₃ : Heap.SameBut e h₂ h₃ := hs₃
  replace he₃ : IsEnum h₃ e it ((i : Int) + 1) old := he₃
  show wpAny _ _ (newTuple [.int i tk, x] >>= _) _ _ ⟨h₃, g, d, tk + 1, os⟩
  refine wpAny_bind (wpAny_newTuple ?_)
  have he₄ : IsEnum (h₃.push { cls := .type "tuple", data := .seq #[.int i tk, x] }) e it ((i : Int) + 1) old := Heap.get?_push_of_some _ he₃
  have hsz : h₃.objs.size = hp.objs.size := by rw [hs₃.1, hs₂.1, hs₁.1]
  have hel : e < hp.objs.size := Heap.lt_size he
  have ht₄ : (h₃.push { cls := .type "tuple", data := .seq #[.int i tk, x] }).get? hp.objs.size = some { cls := .type "tuple", data := .seq #[.int i tk, x] } := by rw [← hsz]; exact Heap.get?_push_size _ rfl
  have hz₄ : (h₃.push { cls := .type "tuple", data := .seq #[.int i tk, x] }).objs.size = hp.objs.size + 1 := by rw [Heap.size_push, hsz]
  have hk₄ : ∀ b o, b ≠ e → b ≠ it → hp.get? b = some o → (h₃.push { cls := .type "tuple", data := .seq #[.int i tk, x] }).get? b = some o := fun b o hbe hbi hb =>
    Heap.get?_push_of_some _ (hs₃.extBut b o hbe (hs₂.extBut b o hbe (hs₁.extBut b o hbi hb)))
  have hit₄ : (h₃.push { cls := .type "tuple", data := .seq #[.int i tk, x] }).IsTupleIter it l (i + 1) := by
    obtain ⟨o, ho, r⟩ := (hit₁.extBut hs₂.extBut (Ne.symm hne)).extBut hs₃.extBut (Ne.symm hne); exact ⟨o, Heap.get?_push_of_some _ ho, r⟩
  generalize h₃.push { cls := .type "tuple", data := .seq #[.int i tk, x] } = h₄ at he₄ ht₄ hz₄ hk₄ hit₄
  show wpAny _ _ (Builtin.SmallTypes.ownedTupleIsFree (.ref e) >>= _) _ _ ⟨h₄, g, d, tk + 1, os⟩
  rw [hsz]
  clear he₃ hs₃ he₂ hs₂ he₁ hs₁ hit₁ hsz h₃ h₂ h₁
  refine wpAny_bind ?_
  unfold Builtin.SmallTypes.ownedTupleIsFree
  refine wpAny_bind (wpAny_field he₄ rfl (x := .none) rfl (wpAny_pure ?_))
  simp only [if_true]
  refine wpAny_bind (wpAny_rule ?_)
  refine wpAny_bind (wpAny_field he₄ rfl (x := old) rfl ?_)
  refine wpAny_bind (wpAny_setField_rec he₄ (by simp) fun h₅ he₅ hs₅ => ?_)
  replace hs₅ : Heap.SameBut e h₄ h₅ := hs₅
  replace he₅ : IsEnum h₅ e it ((i : Int) + 1) x := he₅
  show wpAny _ _ (Builtin.SmallTypes.ownedTupleHandOut (.ref e) (.ref hp.objs.size) >>= _) _ _ ⟨h₅, g, d, tk + 1, os⟩
  refine wpAny_bind ?_
  unfold Builtin.SmallTypes.ownedTupleHandOut
  refine wpAny_bind (wpAny_setField_rec he₅ (by simp) fun h₆ he₆ hs₆ => ?_)
  replace hs₆ : Heap.SameBut e h₅ h₆ := hs₆
  replace he₆ : IsEnumOut h₆ e it ((i : Int) + 1) x hp.objs.size := he₆
  refine wpAny_setField_rec he₆ (by simp) fun h₇ he₇ hs₇ => ?_
  replace hs₇ : Heap.SameBut e h₆ h₇ := hs₇
  replace he₇ : IsEnumOut h₇ e it ((i : Int) + 1) x hp.objs.size := he₇
  refine wpAny_bind (wpAny_letGo (wpAny_pure ⟨_, rfl, wpAny_pure (hQ h₇ he₇ ?_ ?_ ?_ ?_)⟩))
  · exact ((hit₄.extBut hs₅.extBut (Ne.symm hne)).extBut hs₆.extBut (Ne.symm hne)).extBut hs₇.extBut (Ne.symm hne)
  · exact hs₇.extBut _ _ (Nat.ne_of_gt hel) (hs₆.extBut _ _ (Nat.ne_of_gt hel) (hs₅.extBut _ _ (Nat.ne_of_gt hel) ht₄))
  · rw [hs₇.1, hs₆.1, hs₅.1, hz₄]
  · exact fun b o hbe hbi hb => hs₇.extBut b o hbe (hs₆.extBut b o hbe (hs₅.extBut b o hbe (hk₄ b o hbe hbi hb)))

theorem enumT_end {e it l : Addr} {i : Nat} {items : Array Value} {old : Value} {Q : Option Value → Shared → Prop} (hh : A.handled = none)
    (he : IsEnum s.heap e it i old) (hit : s.heap.IsTupleIter it l i) (hl : s.heap.IsTuple l items) (hx : items[i]? = none)
    (hQ : ∀ h', Heap.ExtBut it s.heap h' → Q none { s with heap := h' }) : wpAny (model prog w) A (pyNext (.ref e)) Q E s := by
  have hT : s.TypeIs (.ref e) "enumerate" := ⟨_, he, rfl⟩
  unfold pyNext
  refine wpAny_bind (wpAny_attempt (wpAny_callSpecial?_slot (name := Str.ofString "__next__") hT PySem.F.slot_enumerate_next
    (wpAny_call_entry PySem.F.slot_enumerate_next hT PySem.F.entry_enumerate_next ?_ (PySem.F.args_enumerate_next_1 _))))
  show wpAny _ _ (field (.ref e) 2 >>= _) _ _ _
  refine wpAny_bind (wpAny_field he rfl (x := .ref it) rfl ?_)
  refine wpAny_bind (nextT_end hh hit hl hx fun h' x he' hx' => ?_)
  obtain ⟨o, ho, hc⟩ := hx'
  refine wpAny_bind (wpAny_isInstance (T := "StopIteration") (b := true) ⟨o, ho, hc⟩ isSubtype_stop ?_)
  exact wpAny_pure (hQ _ he')
end

theorem meets_enumT_new (l : Addr) (items : Array Value) (n : Nat) :
    Meets (Builtin.«enumerate.__new__» ⟨[.type "enumerate", .ref l], []⟩) (fun _ R s => s.heap.get? l = some { cls := .type "tuple", dict := none, data := .seq items n, slots := #[] } ∧
      R (.ok (.ret (.ref (s.heap.push { cls := .type "tuple_iterator", data := .fields #[.ref l, .int 0 0] }).objs.size)))
        { s with heap := (s.heap.push { cls := .type "tuple_iterator", data := .fields #[.ref l, .int 0 0] }).push { cls := .type "enumerate", data := .fields #[.none, .bool false, .ref s.heap.objs.size, rawInt 0, .none, .none] } }) :=
  .of_wp fun prog w A R s h => by
    obtain ⟨hp, g, d, tk, os⟩ := s; obtain ⟨hl, h⟩ := h
    have hsub := sub_enumerate
    have hL : Heap.IsTuple (Shared.heap ⟨hp, g, d, tk, os⟩) l items := ⟨_, hl, rfl, n, rfl⟩
    wp_walk using AutoSeq1.wpAny_loadPart' hl
    refine wpAny_stack_any fun st => wpAny_pure ?_
    split
    · rename_i c _ _ _ _ _
      cases (c == Value.type "enumerate")
      · wp_walk using AutoSeq1.wpAny_loadPart' hl, wpAny_pyIter_tuple hL
        exact ⟨_, rfl, h⟩
      · wp_walk using AutoSeq1.wpAny_loadPart' hl, wpAny_pyIter_tuple hL
        exact ⟨_, rfl, h⟩
    · wp_walk using AutoSeq1.wpAny_loadPart' hl, wpAny_pyIter_tuple hL
      exact ⟨_, rfl, h⟩

theorem call_enumT {prog : Program} {w : World} {A : Around} {E : Value → Shared → Prop} {s : Shared} {l : Addr} {vs : List Value} {Q : Value → Shared → Prop} (hl : Tup s.heap l vs)
    (h : ∀ h', IsEnum h' (s.heap.objs.size + 1) s.heap.objs.size 0 .none → h'.IsTupleIter s.heap.objs.size l 0 → Keep s.heap h' → Q (.ref (s.heap.objs.size + 1)) { s with heap := h' }) :
    wpAny (model prog w) A (call (.type "enumerate") [.ref l]) Q E s := by
  obtain ⟨n, e⟩ := hl
  refine callType_new PySem.F.called_enumerate (by decide) (PySem.F.typeCall_enumerate_1 _) (PySem.F.newCall_enumerate_1 _) (fun obj => PySem.F.args_object_init_2 obj _) PySem.F.entry_enumerate_new
    (meets_enumT_new l vs.toArray n) ⟨e, ?_⟩
  have hz : (s.heap.push { cls := .type "tuple_iterator", data := .fields #[.ref l, .int 0 0] }).objs.size = s.heap.objs.size + 1 := Heap.size_push ..
  show _ ∧ _
  rw [hz]
  have he : IsEnum ((s.heap.push { cls := .type "tuple_iterator", data := .fields #[.ref l, .int 0 0] }).push
      { cls := .type "enumerate", data := .fields #[.none, .bool false, .ref s.heap.objs.size, rawInt 0, .none, .none] }) (s.heap.objs.size + 1) s.heap.objs.size 0 .none := by
    have := Heap.get?_push_size (s.heap.push { cls := .type "tuple_iterator", data := .fields #[.ref l, .int 0 0] })
      (o := { cls := .type "enumerate", data := .fields #[.none, .bool false, .ref s.heap.objs.size, rawInt 0, .none, .none] }) rfl
    rw [hz] at this; exact this
  exact ⟨⟨_, he, rfl⟩, h _ he ⟨_, Heap.get?_push_of_some _ (Heap.get?_push_size _ rfl), rfl, rfl⟩ fun b o x => Heap.get?_push_of_some _ (Heap.get?_push_of_some _ x)⟩
abbrev comp2 (elt t1 i1 t2 i2 : Expr) (scope : Scope) (pos : Pos) : Expr := .ListComp elt [⟨t1, i1, [], 0⟩, ⟨t2, i2, [], 0⟩] scope pos
theorem compTurn_out (elt t1 i1 t2 i2 : Expr) (scope : Scope) (pos : Pos) (it acc : Value) (env : Env) :
    compTurn (comp2 elt t1 i1 t2 i2 scope pos) 0 it acc env = (standAt i1.pos >>= fun _ => pyNext it >>= fun r => match r with
      | none => pure (.done .next)
      | some v => letOwnedTupleGo t1 it v >>= fun _ => assign t1 env v >>= fun _ =>
        (eval i2 env >>= fun x => standAt i2.pos >>= fun _ => foldedSetIterable i2 env x >>= fun x => holding [x] (pyIter x) >>= fun it2 => runOwn (.compStart (comp2 elt t1 i1 t2 i2 scope pos) 1 it2 acc env) env >>= fun _ =>
          again (.compLoop (comp2 elt t1 i1 t2 i2 scope pos) 0 it acc env))) := by rfl
theorem compTurn_in (elt t1 i1 t2 i2 : Expr) (scope : Scope) (pos : Pos) (it acc : Value) (env : Env) :
    compTurn (comp2 elt t1 i1 t2 i2 scope pos) 1 it acc env = (standAt i2.pos >>= fun _ => pyNext it >>= fun r => match r with
      | none => pure (.done .next)
      | some v => letOwnedTupleGo t2 it v >>= fun _ => assign t2 env v >>= fun _ =>
        (eval elt env >>= fun x => call (.builtin "list.append") [acc, x] >>= fun _ => pure ()) >>= fun _ =>
          again (.compLoop (comp2 elt t1 i1 t2 i2 scope pos) 1 it acc env)) := by rfl
section
variable {prog : Program} {w : World} {A : Around} {R : Result → Shared → Prop} {s : Shared} {elt t1 i1 t2 i2 : Expr} {scope : Scope} {pos : Pos} {it acc : Value} {env : Env}
theorem comp_start {d : Nat} (hd : d < 2)
    (h0 : codeAny (model prog w) A (.compLoop (comp2 elt t1 i1 t2 i2 scope pos) d it acc env) R s)
    (h : wpAny (model prog w) A (pyIter it) (fun it' s' => codeAny (model prog w) A (.compLoop (comp2 elt t1 i1 t2 i2 scope pos) d it' acc env) R s') (fun _ _ => False) s) :
    codeAny (model prog w) A (.compStart (comp2 elt t1 i1 t2 i2 scope pos) d it acc env) R s := by
  refine codeAny_of_tree ?_
  show wpAny _ _ ((compStart (comp2 elt t1 i1 t2 i2 scope pos) d it acc env).onRaise (fun x => do noteFrame x env; standAt theWindowsPlace)) _ _ s
  refine wpAny_notedAt ?_
  unfold compStart
  match d, hd with
  | 0, _ =>
    show wpAny _ _ (ask >>= _) _ _ s
    refine wpAny_bind (wpAny_askSetting (wpAny_ite ?_))
    split
    · exact wpAny_pure (And.intro rfl h0)
    · refine wpAny_bind (wpAny_rule ?_)
      show wpAny _ _ (standAt i1.pos >>= _) _ _ s
      exact wpAny_bind (wpAny_standAt (wpAny_bind (wpAny_mono h (fun it' s' h' => wpAny_pure (And.intro rfl h')) fun _ _ x => x.elim)))
  | 1, _ =>
    show wpAny _ _ (ask >>= _) _ _ s
    refine wpAny_bind (wpAny_askSetting (wpAny_ite ?_))
    split
    · exact wpAny_pure (And.intro rfl h0)
    · refine wpAny_bind (wpAny_rule ?_)
      show wpAny _ _ (standAt i2.pos >>= _) _ _ s
      exact wpAny_bind (wpAny_standAt (wpAny_bind (wpAny_mono h (fun it' s' h' => wpAny_pure (And.intro rfl h')) fun _ _ x => x.elim)))

theorem comp_in (I : Nat → Shared → Prop)
    (turn : ∀ n s, I n s → wpAny (model prog w) A (pyNext it) (fun r s₁ => match r with
      | none => R (.ok .next) s₁
      | some v => wpAny (model prog w) A (assign t2 env v) (fun _ s₂ => wpAny (model prog w) A (eval elt env) (fun x s₃ =>
          wpAny (model prog w) A (call (.builtin "list.append") [acc, x]) (fun _ s₄ => ∃ m, m < n ∧ I m s₄) (fun _ _ => False) s₃) (fun _ _ => False) s₂) (fun _ _ => False) s₁) (fun _ _ => False) s)
    (n : Nat) (h : I n s) (ht : ∀ v, letOwnedTupleGo t2 it v = pure ()) :
    codeAny (model prog w) A (.compLoop (comp2 elt t1 i1 t2 i2 scope pos) 1 it acc env) R s := by
  refine codeAny_loop rfl I (fun n s hI => ?_) n h
  show wpAny _ _ ((compTurn (comp2 elt t1 i1 t2 i2 scope pos) 1 it acc env).onRaise (fun x => do noteFrame x env; theTreesLotGoes x)) _ _ s
  refine wpAny_noted ?_
  rw [compTurn_in]
  refine wpAny_bind (wpAny_standAt (wpAny_bind (wpAny_mono (turn n s hI) (fun r s₁ h₁ => ?_) fun _ _ h' => h'.elim)))
  cases r with
  | none => exact wpAny_pure h₁
  | some v =>
    refine wpAny_bind (wpAny_of_eq (ht v) ?_)
    exact wpAny_bind (wpAny_mono h₁ (fun _ s₂ h₂ => wpAny_bind (wpAny_bind (wpAny_mono h₂ (fun x s₃ h₃ => wpAny_bind (wpAny_mono h₃
      (fun _ s₄ h₄ => wpAny_pure (wpAny_pure ⟨rfl, h₄⟩)) fun _ _ h' => h'.elim)) fun _ _ h' => h'.elim))) fun _ _ h' => h'.elim)
theorem comp_out (I : Nat → Shared → Prop)
    (turn : ∀ n s, I n s → wpAny (model prog w) A (pyNext it) (fun r s₁ => match r with
      | none => R (.ok .next) s₁
      | some v => wpAny (model prog w) A (assign t1 env v) (fun _ s₂ => wpAny (model prog w) A (eval i2 env) (fun x s₃ =>
          wpAny (model prog w) A (pyIter x) (fun it2 s₄ => codeAny (model prog w) A (.compStart (comp2 elt t1 i1 t2 i2 scope pos) 1 it2 acc env) (fun r s₅ => (∃ f, r = .ok f) ∧ ∃ m, m < n ∧ I m s₅) s₄) (fun _ _ => False) s₃) (fun _ _ => False) s₂) (fun _ _ => False) s₁) (fun _ _ => False) s)
    (n : Nat) (h : I n s) (ht : ∀ v, letOwnedTupleGo t1 it v = pure ()) (hs : ∀ x, foldedSetIterable i2 env x = pure x) :
    codeAny (model prog w) A (.compLoop (comp2 elt t1 i1 t2 i2 scope pos) 0 it acc env) R s := by
  refine codeAny_loop rfl I (fun n s hI => ?_) n h
  show wpAny _ _ ((compTurn (comp2 elt t1 i1 t2 i2 scope pos) 0 it acc env).onRaise (fun x => do noteFrame x env; theTreesLotGoes x)) _ _ s
  refine wpAny_noted ?_
  rw [compTurn_out]
  refine wpAny_bind (wpAny_standAt (wpAny_bind (wpAny_mono (turn n s hI) (fun r s₁ h₁ => ?_) fun _ _ h' => h'.elim)))
  cases r with
  | none => exact wpAny_pure h₁
  | some v =>
    refine wpAny_bind (wpAny_of_eq (ht v) ?_)
    refine wpAny_bind (wpAny_mono h₁ (fun _ s₂ h₂ => wpAny_bind (wpAny_mono h₂ (fun x s₃ h₃ => wpAny_bind (wpAny_standAt (wpAny_bind (wpAny_of_eq (hs x) (wpAny_bind (wpAny_holding (wpAny_mono h₃
      (fun it2 s₄ h₄ => ?_) fun _ _ h' => h'.elim))))))) fun _ _ h' => h'.elim)) fun _ _ h' => h'.elim)
    refine wpAny_bind (wpAny_runOwn (codeAny_mono h₄ fun r s₅ h₅ => ?_))
    obtain ⟨⟨f, rfl⟩, h₅⟩ := h₅
    exact wpAny_pure ⟨rfl, h₅⟩
end
/-! names in any function's frame -/
section
variable {M : Model} {A : Around} {E : Value → Shared → Prop} {s : Shared} {w : World} {mg mb m : Str → Option Value} {env : Env} {x : Str} {pos : Pos} {v : Value} {c : Addr} {Q : Value → Shared → Prop}
theorem nmL (hk : env.scope.kind = .function) (hl : env.kindOf x = some .local) (hn : s.heap.Ns env.locals m) (hv : m x = some v) (h : Q v s) (hd : (x == ("__debug__" : Str)) = false := by decide) : wpAny M A (eval (.Name x pos) env) Q E s :=
  wpAny_Name (wpAny_loadName_local hk hl hn hv h) hd
theorem nmC (hk : env.scope.kind = .function) (hl : env.kindOf x = some .cell) (hc : env.cells.lookup x = some c) (hv : s.heap.IsCell c (some v)) (h : Q v s) (hd : (x == ("__debug__" : Str)) = false := by decide) : wpAny M A (eval (.Name x pos) env) Q E s :=
  wpAny_Name (wpAny_loadName_cell hk hl hc hv h) hd
theorem nmG (B : Base w mg mb s.heap) (hk : env.scope.kind = .function) (hl : env.kindOf x = some .globalImplicit) (hg : env.globals = mainGlobals) (e : nsIn (hd.heap_39 w.params) mainGlobals x = some (some v)) (h : Q v s) (hd : (x == ("__debug__" : Str)) = false := by decide) :
    wpAny M A (eval (.Name x pos) env) Q E s :=
  Calls.Name_function_global hk hl (Calls.loadGlobal_global (env := env) (hg ▸ B.g) (mg_of B.X B.g e) h) hd
theorem nmB (B : Base w mg mb s.heap) (hk : env.scope.kind = .function) (hl : env.kindOf x = some .globalImplicit) (hg : env.globals = mainGlobals) (hb : env.builtins = builtinsNs) (e : nsIn (hd.heap_39 w.params) mainGlobals x = some none) (hv : bootBuiltins x = some v) (hn : x ≠ "__name__")
    (h : Q v s) (hd : (x == ("__debug__" : Str)) = false := by decide) : wpAny M A (eval (.Name x pos) env) Q E s :=
  Calls.Name_function_global hk hl (Calls.loadGlobal_builtin (env := env) (hg ▸ B.g) (mg_none_of B.X B.g e) (hb ▸ B.b) ((B.bs x hn).trans hv) h) hd
end
theorem cell_keep {h h' : Heap} {c : Addr} {v : Option Value} (x : h.IsCell c v) (k : Keep h h') : h'.IsCell c v := let ⟨o, a, b⟩ := x; ⟨o, k _ _ a, b⟩

/-! what is kept but for some addresses -/
def KeepS (S : List Addr) (h h' : Heap) : Prop := ∀ b o, b ∉ S → h.get? b = some o → h'.get? b = some o
theorem Keep.s {S : List Addr} {h h' : Heap} (k : Keep h h') : KeepS S h h' := fun b o _ e => k b o e
theorem KeepS.trans {S : List Addr} {h h' h'' : Heap} (x : KeepS S h h') (y : KeepS S h' h'') : KeepS S h h'' := fun b o n e => y b o n (x b o n e)
theorem KeepS.mono {S S' : List Addr} {h h' : Heap} (x : KeepS S h h') (y : ∀ b ∈ S, b ∈ S') : KeepS S' h h' := fun b o n e => x b o (fun q => n (y b q)) e
theorem same_s {a : Addr} {S : List Addr} {h h' : Heap} (x : Heap.SameBut a h h') (m : a ∈ S) : KeepS S h h' := fun b o n e => x.extBut b o (fun q => n (q ▸ m)) e
theorem KeepBut.s {a : Addr} {S : List Addr} {h h' : Heap} (x : KeepBut a h h') (m : a ∈ S) : KeepS S h h' := fun b o n e => x b o (fun q => n (q ▸ m)) e
/-- an object that is no tuple -/
def NoTup (h : Heap) (b : Addr) : Prop := ∀ o, h.get? b = some o → o.cls = .type "tuple" → ∀ xs n, o.data ≠ .seq xs n
theorem noTup_ns {h : Heap} {b : Addr} {m : Str → Option Value} (x : h.Ns b m) : NoTup h b := fun o e _ xs n q => by
  obtain ⟨o', es, ep, e', d, _⟩ := x
  rw [e] at e'; cases e'; rw [d] at q; cases q
theorem noTup_lst {h : Heap} {b : Addr} {vs : List Value} (x : Lst h b vs) : NoTup h b := fun o e c xs n q => by
  obtain ⟨k, e'⟩ := x
  rw [e] at e'; cases e'
  have c' : Value.type "list" = Value.type "tuple" := c
  injection c' with c''
  exact absurd c'' (by decide)
theorem noTup_cls {h : Heap} {b : Addr} {o : Obj} {t : String} (e : h.get? b = some o) (c : o.cls = .type t) (hne : t ≠ "tuple") : NoTup h b := fun o' e' c' => by
  rw [e] at e'; cases e'; rw [c] at c'; cases c'; exact absurd rfl hne
theorem noTup_none {h : Heap} {b : Addr} (e : h.get? b = none) : NoTup h b := fun o e' => by rw [e] at e'; cases e'
theorem Tup.keepS {S : List Addr} {h h' : Heap} {a : Addr} {vs : List Value} (x : Tup h a vs) (k : KeepS S h h') (no : ∀ b ∈ S, NoTup h b) : Tup h' a vs := by
  obtain ⟨n, e⟩ := x
  exact ⟨n, k _ _ (fun q => no a q _ e rfl _ _ rfl) e⟩
theorem ITup.keepS {S : List Addr} {h h' : Heap} {a : Addr} {ns : List Int} (x : ITup h a ns) (k : KeepS S h h') (no : ∀ b ∈ S, NoTup h b) : ITup h' a ns := let ⟨vs, t, i⟩ := x; ⟨vs, t.keepS k no, i⟩

/-- values that are tuples of ints -/
inductive Rows (h : Heap) : List Value → List (List Int) → Prop
  | nil : Rows h [] []
  | cons {a : Addr} {ns : List Int} {vs : List Value} {nss : List (List Int)} : ITup h a ns → Rows h vs nss → Rows h (.ref a :: vs) (ns :: nss)
theorem Rows.imp {h h' : Heap} {vs : List Value} {nss : List (List Int)} (x : Rows h vs nss) (f : ∀ a ns, ITup h a ns → ITup h' a ns) : Rows h' vs nss := by
  induction x with
  | nil => exact .nil
  | cons t _ ih => exact .cons (f _ _ t) ih
theorem Rows.keep {h h' : Heap} {vs : List Value} {nss : List (List Int)} (x : Rows h vs nss) (k : Keep h h') : Rows h' vs nss := x.imp fun _ _ t => t.keep k
theorem Rows.keepS {S : List Addr} {h h' : Heap} {vs : List Value} {nss : List (List Int)} (x : Rows h vs nss) (k : KeepS S h h') (no : ∀ b ∈ S, NoTup h b) : Rows h' vs nss := x.imp fun _ _ t => t.keepS k no
theorem Rows.length {h : Heap} {vs : List Value} {nss : List (List Int)} (x : Rows h vs nss) : vs.length = nss.length := by
  induction x with
  | nil => rfl
  | cons _ _ ih => simp [ih]
theorem Rows.append {h : Heap} {vs ws : List Value} {nss mss : List (List Int)} (x : Rows h vs nss) (y : Rows h ws mss) : Rows h (vs ++ ws) (nss ++ mss) := by
  induction x with
  | nil => exact y
  | cons t _ ih => exact .cons t ih
theorem Rows.snoc {h : Heap} {vs : List Value} {nss : List (List Int)} {a : Addr} {ns : List Int} (x : Rows h vs nss) (y : ITup h a ns) : Rows h (vs ++ [.ref a]) (nss ++ [ns]) := x.append (.cons y .nil)
theorem Rows.get {h : Heap} {vs : List Value} {nss : List (List Int)} (x : Rows h vs nss) : ∀ {i : Nat} {v : Value}, vs[i]? = some v → ∃ a ns, v = .ref a ∧ nss[i]? = some ns ∧ ITup h a ns := by
  induction x with
  | nil => intro i v e; simp at e
  | @cons a ns vs nss t _ ih =>
    intro i v e
    cases i with
    | zero => simp at e; exact ⟨a, ns, e.symm, by simp, t⟩
    | succ i =>
      rw [List.getElem?_cons_succ] at e ⊢
      exact ih e
theorem Rows.take {h : Heap} {vs : List Value} {nss : List (List Int)} (x : Rows h vs nss) (k : Nat) : Rows h (vs.take k) (nss.take k) := by
  induction x generalizing k with
  | nil => simp; exact .nil
  | cons t _ ih => cases k with
    | zero => exact .nil
    | succ k => exact .cons t (ih k)
theorem Rows.drop {h : Heap} {vs : List Value} {nss : List (List Int)} (x : Rows h vs nss) (k : Nat) : Rows h (vs.drop k) (nss.drop k) := by
  induction x generalizing k with
  | nil => simp; exact .nil
  | cons t r ih => cases k with
    | zero => exact .cons t r
    | succ k => exact ih k

/-! the orders, as plain lists -/
def spread (x : Int) (row : List Int) : List (List Int) := (List.range (row.length + 1)).map fun k => row.take k ++ x :: row.drop k
def stepO (rows : List (List Int)) (x : Int) : List (List Int) := rows.flatMap (spread x)
def orders (ns : List Int) : List (List Int) := ns.foldl stepO [[]]
theorem lst_append {prog : Program} {w : World} {A : Around} {E : Value → Shared → Prop} {s : Shared} {a : Addr} {vs : List Value} {x : Value} {Q : Value → Shared → Prop} (hl : Lst s.heap a vs) (hsz : vs.length < 1000)
    (h : ∀ h', Lst h' a (vs ++ [x]) → Heap.SameBut a s.heap h' → Q .none { s with heap := h' }) : wpAny (model prog w) A (call (.builtin "list.append") [.ref a, x]) Q E s :=
  wpAny_list_append_plain (items := vs.toArray) hl (fun h' ⟨n, e⟩ hs => h h' ⟨n, by rw [e]; simp⟩ hs) (by rw [List.size_toArray, sizeLine_eq]; omega)
/-- the frame of the comprehension that spreads a letter -/
structure CEnv (env : Env) (cL : Addr) : Prop where
  kind : env.scope.kind = .function
  glob : env.globals = mainGlobals
  blt : env.builtins = builtinsNs
  row : env.kindOf "row" = some .local
  k : env.kindOf "k" = some .local
  let_ : env.kindOf "letter" = some .cell
  cell : env.cells.lookup ("letter" : Str) = some cL
  range : env.kindOf "range" = some .globalImplicit
  len : env.kindOf "len" = some .globalImplicit
  hp : (env.scope.kind == .class || (env.scope.kind == .module && env.locals != env.globals)) = false

section
variable {w : World} {A : Around} {E : Value → Shared → Prop} {s : Shared} {mg mb m : Str → Option Value} {env : Env} {cL r : Addr} {x : Int} {tx tk : Tok} {ns : List Int} {j : Nat}
  {p1 p2 p3 p4 p5 p6 p7 p8 p9 p10 p11 p12 p13 p14 p15 p16 : Pos} {c0 c1 : Nat}
theorem elt_spread (V : CEnv env cL) (hn : s.heap.Ns env.locals m) (hr : m "row" = some (.ref r)) (hk : m "k" = some (.int (j : Nat) tk)) (ht : ITup s.heap r ns) (hc : s.heap.IsCell cL (some (.int x tx))) (hj : j ≤ ns.length) (hsz : ns.length < 400)
    {Q : Value → Shared → Prop} (hQ : ∀ a h' tk', Keep s.heap h' → ITup h' a (ns.take j ++ x :: ns.drop j) → Q (.ref a) { s with heap := h', toks := tk' }) :
    wpAny (model PySem.Challenge.rw_rs0001_01.row.prog w) A (eval (.BinOp (.BinOp (.Subscript (.Name "row" p1) (.Slice none (some (.Name "k" p2)) none p3) p4) .Add (.Tuple [.Name "letter" p5] c0 p6) p7) .Add
      (.Subscript (.Name "row" p8) (.Slice (some (.Name "k" p9)) none none p10) p11) p12) env) Q E s := by
  obtain ⟨vs, ht, hi⟩ := ht
  have hl := hi.length
  refine wpAny_BinOp (wpAny_BinOp (Subscript_ (nmL V.kind V.row hn hr ?_)))
  refine wpAny_Slice ?_
  simp only [evalPart_none, evalPart_some]
  refine wpAny_pure (nmL V.kind V.k hn hk (wpAny_pure ?_))
  refine slice_upto ht (by omega) (by omega) fun a1 h1 k1 t1 => ?_
  refine Tuple_ (spliced_more (nmC V.kind V.let_ V.cell (cell_keep hc k1) (spliced_none ?_)))
  refine wpAny_newTuple ?_ (by size_fits)
  have k2 : Keep s.heap (h1.push { cls := .type "tuple", data := .seq [Value.int x tx].toArray }) := Keep.trans k1 (keep_push _ _)
  refine add_tup (vs := vs.take j) (ws := [.int x tx]) (t1.keep (keep_push _ _)) (Tup.new _ _) (by simp; omega) fun a3 h3 k3 t3 => ?_
  have k4 := Keep.trans k2 k3
  refine Subscript_ (nmL V.kind V.row (hn.keeps k4) hr ?_)
  refine wpAny_Slice ?_
  simp only [evalPart_none, evalPart_some]
  refine nmL V.kind V.k (hn.keeps k4) hk (wpAny_pure (wpAny_pure ?_))
  refine slice_from (s := { s with heap := h3 }) (ht.keep k4) (by omega) (by omega) fun a5 h5 k5 t5 => ?_
  refine add_tup (t3.keep k5) t5 (by simp; omega) fun a6 h6 k6 t6 => ?_
  refine hQ a6 h6 _ (Keep.trans k4 (Keep.trans k5 k6)) ⟨_, t6, ?_⟩
  have e : vs.take j ++ [Value.int x tx] ++ vs.drop j = vs.take j ++ (Value.int x tx :: vs.drop j) := by simp
  rw [e]
  exact IntsAre.append (hi.take j) (.cons x tx (hi.drop j))
theorem rng_spread (B : Base w mg mb s.heap) (V : CEnv env cL) (hn : s.heap.Ns env.locals m) (hr : m "row" = some (.ref r)) (ht : ITup s.heap r ns) (hsz : ns.length < 400)
    {Q : Value → Shared → Prop} (hQ : ∀ R t u v h' tk', Keep s.heap h' → IsRange h' R 0 ((ns.length + 1 : Nat) : Int) 1 t u v → Q (.ref R) { s with heap := h', toks := tk' }) :
    wpAny (model PySem.Challenge.rw_rs0001_01.row.prog w) A (eval (.Call (.Name "range" p1) [.BinOp (.Call (.Name "len" p2) [.Name "row" p3] [] p4) .Add (.Constant (.int 1) c0 p5) p6] [] p7) env) Q E s := by
  obtain ⟨vs, ht, hi⟩ := ht
  have hl := hi.length
  refine Call_ (nmB B V.kind V.range V.glob V.blt rfl rfl (by decide) ?_)
  refine callWith_type1 (spliced_more ?_)
  refine wpAny_BinOp (Call_ (nmB B V.kind V.len V.glob V.blt rfl rfl (by decide) ?_))
  refine callWith_builtin1 (spliced_more (nmL V.kind V.row hn hr (spliced_none ?_)))
  refine len_tuple ht.is (by rw [List.size_toArray]; omega) ?_
  refine wpAny_Constant_int (add_int (spliced_none ?_))
  refine call_range_1 ?_
  have e : ((vs.toArray.size : Nat) : Int) + 1 = ((ns.length + 1 : Nat) : Int) := by rw [List.size_toArray]; omega
  rw [e]
  exact hQ _ _ _ _ _ _ (keep_push _ _) (IsRange.new ..)
end
theorem keep_of_s {S : List Addr} {g h h' : Heap} (k : Keep g h) (k' : KeepS S h h') (f : ∀ b ∈ S, g.get? b = none) : Keep g h' := fun b o e => k' b o (fun q => by rw [f b q] at e; cases e) (k b o e)
theorem fresh_of {g h : Heap} {b : Addr} (k : Keep g h) (e : h.objs.size ≤ b) : g.get? b = none := by
  cases q : g.get? b with
  | none => rfl
  | some o => exact absurd (Heap.lt_size (k b o q)) (Nat.not_lt.mpr e)
theorem flat_take {α β : Type} (f : α → List β) : ∀ (l : List α) (i : Nat) (a : α), l[i]? = some a → (l.take (i + 1)).flatMap f = (l.take i).flatMap f ++ f a := by
  intro l i a e
  rw [List.take_add_one, e, List.flatMap_append]
  simp
theorem map_take {β : Type} (n : Nat) (g : Nat → β) (j : Nat) (hj : j < n) : ((List.range n).map g).take (j + 1) = ((List.range n).map g).take j ++ [g j] := by
  rw [List.take_add_one, List.getElem?_map, List.getElem?_range hj]
  rfl

theorem cls_ne {h : Heap} {a : Addr} {o o' : Obj} (e : h.get? a = some o) (e' : h.get? a = some o') (hne : o.cls ≠ o'.cls) : False := by
  rw [e] at e'; cases e'; exact hne rfl
section
variable {w : World} {A : Around} {s : Shared} {mg mb m : Str → Option Value} {env : Env} {cL ax I0 D : Addr} {x : Int} {tx : Tok} {g : Heap} {items : List Value} {nss : List (List Int)}
  {p1 p2 p3 p4 p5 p6 p7 p8 p9 p10 p11 p12 q1 q2 r1 r2 r3 r4 r5 r6 r7 pos : Pos} {c0 c1 : Nat} {i1 : Expr} {scope : Scope} {R : Result → Shared → Prop}

theorem spread_in {r I1 : Addr} {ns : List Int} {vs : List Value} {pre : List (List Int)} (V : CEnv env cL) (hR : Room 3 A) (hc : g.IsCell cL (some (.int x tx))) (hrow : ITup g r ns)
    (kg : Keep g s.heap) (fC : g.get? env.locals = none) (fD : g.get? D = none) (fI : g.get? I1 = none)
    (hn : s.heap.Ns env.locals m) (hr : m "row" = some (.ref r)) (hD : Lst s.heap D vs) (hv : Rows s.heap vs pre) (hit : IsRangeIter s.heap I1 0 ((ns.length + 1 : Nat) : Int) 1) (hsz : ns.length < 400) (htot : vs.length + (ns.length + 1) < 1000)
    {elt i2 t1 t2 : Expr} (ht2 : t2 = .Name "k" q2)
    (he : elt = .BinOp (.BinOp (.Subscript (.Name "row" p1) (.Slice none (some (.Name "k" p2)) none p3) p4) .Add (.Tuple [.Name "letter" p5] c0 p6) p7) .Add (.Subscript (.Name "row" p8) (.Slice (some (.Name "k" p9)) none none p10) p11) p12)
    (hR' : ∀ h' tk m' vs', Keep g h' → h'.Ns env.locals m' → Lst h' D vs' → Rows h' vs' (pre ++ spread x ns) → KeepS [env.locals, D, I1] s.heap h' → R (.ok .next) { s with heap := h', toks := tk }) :
    codeAny (model PySem.Challenge.rw_rs0001_01.row.prog w) A (.compLoop (comp2 elt t1 i1 t2 i2 scope pos) 1 (.ref I1) (.ref D) env) R s := by
  subst he ht2
  have W := PyProof.Rows.LCg.range_walks (prog := PySem.Challenge.rw_rs0001_01.row.prog) (w := w) (A := A) (I := I1) hR.1 0 (ns.length + 1)
  have nDC : D ≠ env.locals := fun q => by
    obtain ⟨n, e⟩ := hD; obtain ⟨o, es, ep, e', d, _⟩ := hn
    rw [← q, e] at e'; cases e'; cases d
  have nDI : D ≠ I1 := fun q => by
    obtain ⟨n, e⟩ := hD
    rw [q] at e
    exact cls_ne e hit (by show Value.type "list" ≠ Value.type "range_iterator"; decide)
  have nCI : env.locals ≠ I1 := fun q => by
    obtain ⟨o, es, ep, e, d, _⟩ := hn
    have e' : s.heap.get? I1 = _ := hit
    rw [← q, e] at e'; cases e'; cases d
  refine comp_in (fun d s' => ∃ h tk m' vs' j, s' = { s with heap := h, toks := tk } ∧ Keep g h ∧ h.Ns env.locals m' ∧ m' "row" = some (.ref r) ∧ Lst h D vs' ∧ Rows h vs' (pre ++ (spread x ns).take j) ∧
      IsRangeIter h I1 (0 + ((j : Nat) : Int) * 1) (((ns.length + 1 : Nat) : Int) - (j : Nat)) 1 ∧ j ≤ ns.length + 1 ∧ vs'.length = vs.length + j ∧ d = ns.length + 2 - j ∧ KeepS [env.locals, D, I1] s.heap h) ?_ (ns.length + 2)
    ⟨s.heap, s.toks, m, vs, 0, rfl, kg, hn, hr, hD, by simpa using hv, by simpa using hit, by omega, rfl, rfl, fun _ _ _ e => e⟩ (fun _ => rfl)
  rintro d s' ⟨h, tk, m', vs', j, rfl, kh, hn', hr', hD', hv', hit', hj, hlen, rfl, ks⟩
  by_cases hlt : j < ns.length + 1
  · refine W.item j _ _ _ hlt hit' fun v h₁ tk₁ hP st₁ hk₁ => ?_
    obtain ⟨t, rfl⟩ := hP
    have k₁ : KeepS [I1] h h₁ := hk₁
    refine wpAny_assign_Name (wpAny_storeName_local V.k (hn'.at' fun o e => k₁ _ o (by simpa using nCI) e) (fun h₂ hn₂ hs₂ => ?_) V.hp)
    replace hs₂ : Heap.SameBut env.locals h₁ h₂ := hs₂
    have ks₂ : KeepS [env.locals, D, I1] h h₂ := KeepS.trans (k₁.mono (by simp)) (same_s hs₂ (by simp))
    have fr : ∀ b ∈ [env.locals, D, I1], g.get? b = none := by
      intro b hb
      simp at hb
      rcases hb with rfl | rfl | rfl <;> assumption
    have kg₂ : Keep g h₂ := keep_of_s kh ks₂ fr
    have e0 : ((0 : Int) + (j : Int)) = ((j : Nat) : Int) := by omega
    rw [e0] at hn₂
    refine elt_spread (j := j) V hn₂ (by rw [if_neg (by decide)]; exact hr') (if_pos rfl) (hrow.keep kg₂) (cell_keep hc kg₂) (by omega) hsz fun a h₃ tk₃ k₃ t₃ => ?_
    have no : ∀ b ∈ [env.locals, D, I1], NoTup h b := by
      intro b hb
      simp at hb
      rcases hb with rfl | rfl | rfl
      · exact noTup_ns hn'
      · exact noTup_lst hD'
      · exact noTup_cls hit' rfl (by decide)
    have hD₂ : Lst h₂ D vs' := by
      obtain ⟨n, e⟩ := hD'
      exact ⟨n, hs₂.extBut D _ nDC (k₁ D _ (by simpa using nDI) e)⟩
    have hD₃ := hD₂.keep k₃
    refine lst_append hD₃ (by omega) fun h₄ hD₄ hs₄ => ?_
    replace hs₄ : Heap.SameBut D h₃ h₄ := hs₄
    have ks₃ : KeepS [env.locals, D, I1] h₂ h₄ := KeepS.trans k₃.s (same_s hs₄ (by simp))
    have ks₄ := KeepS.trans ks₂ ks₃
    have no₃ : ∀ b ∈ [D], NoTup h₃ b := by
      intro b hb
      simp at hb
      subst hb
      exact noTup_lst hD₃
    refine ⟨ns.length + 2 - (j + 1), by omega, h₄, tk₃, _, vs' ++ [.ref a], j + 1, rfl, keep_of_s kh ks₄ fr, (hn₂.keeps k₃).sameBut hs₄ nDC.symm, ?_, hD₄, ?_, ?_, by omega, by simp; omega, rfl, KeepS.trans ks ks₄⟩
    · rw [if_neg (by decide)]; exact hr'
    · have e1 : (spread x ns).take (j + 1) = (spread x ns).take j ++ [ns.take j ++ x :: ns.drop j] := map_take (ns.length + 1) (fun k => ns.take k ++ x :: ns.drop k) j hlt
      rw [e1, ← List.append_assoc]
      exact Rows.snoc (hv'.keepS ks₄ no) (t₃.keepS (same_s (S := [D]) hs₄ (by simp)) no₃)
    · have st₂ := W.frame _ h₁ h₄ st₁ fun b hb o e => by
        simp at hb
        subst hb
        exact hs₄.extBut _ _ nDI.symm (k₃ _ _ (hs₂.extBut _ _ nCI.symm e))
      exact st₂
  · have hj' : j = ns.length + 1 := by omega
    subst hj'
    refine W.done _ _ _ hit' fun h₁ tk₁ hk₁ => ?_
    have k₁ : KeepS [env.locals, D, I1] h h₁ := KeepS.mono (S := [I1]) hk₁ (by simp)
    have fr : ∀ b ∈ [env.locals, D, I1], g.get? b = none := by
      intro b hb
      simp at hb
      rcases hb with rfl | rfl | rfl <;> assumption
    have no : ∀ b ∈ [env.locals, D, I1], NoTup h b := by
      intro b hb
      simp at hb
      rcases hb with rfl | rfl | rfl
      · exact noTup_ns hn'
      · exact noTup_lst hD'
      · exact noTup_cls hit' rfl (by decide)
    have e2 : (spread x ns).take (ns.length + 1) = spread x ns := List.take_of_length_le (by simp [spread])
    rw [e2] at hv'
    refine hR' h₁ tk₁ m' vs' (keep_of_s kh k₁ fr) (hn'.at' fun o e => hk₁ _ o (by simpa using nCI) e) ?_ (hv'.keepS k₁ no) (KeepS.trans ks k₁)
    obtain ⟨n, e⟩ := hD'
    exact ⟨n, hk₁ D _ (by simpa using nDI) e⟩

theorem spread_loop (V : CEnv env cL) (hR : Room 3 A) (B : Base w mg mb g) (hc : g.IsCell cL (some (.int x tx))) (hrows : Rows g items nss) (hl : g.IsList ax items.toArray)
    (kg : Keep g s.heap) (fC : g.get? env.locals = none) (fD : g.get? D = none) (fI : g.get? I0 = none)
    (hn : s.heap.Ns env.locals m) (hD : Lst s.heap D []) (hit : s.heap.IsListIter I0 ax 0) (hsz : ∀ ns ∈ nss, ns.length < 400) (htot : ∀ i, ((nss.take i).flatMap (spread x)).length + 400 < 1000)
    {elt i2 t1 t2 : Expr} (ht1 : t1 = .Name "row" q1) (ht2 : t2 = .Name "k" q2)
    (he : elt = .BinOp (.BinOp (.Subscript (.Name "row" p1) (.Slice none (some (.Name "k" p2)) none p3) p4) .Add (.Tuple [.Name "letter" p5] c0 p6) p7) .Add (.Subscript (.Name "row" p8) (.Slice (some (.Name "k" p9)) none none p10) p11) p12)
    (hi2 : i2 = .Call (.Name "range" r1) [.BinOp (.Call (.Name "len" r2) [.Name "row" r3] [] r4) .Add (.Constant (.int 1) c1 r5) r6] [] r7) (hfold : ∀ x, foldedSetIterable i2 env x = pure x)
    (hR' : ∀ h' tk m' vs', Keep g h' → h'.Ns env.locals m' → Lst h' D vs' → Rows h' vs' (stepO nss x) → R (.ok .next) { s with heap := h', toks := tk }) :
    codeAny (model PySem.Challenge.rw_rs0001_01.row.prog w) A (.compStart (comp2 elt t1 i1 t2 i2 scope pos) 0 (.ref I0) (.ref D) env) R s := by
  subst ht1
  have hlen := hrows.length
  have hneI : ax ≠ I0 := fun q => by
    obtain ⟨o, e, _⟩ := hl
    rw [q, fI] at e; cases e
  have W := Walks.list (prog := PySem.Challenge.rw_rs0001_01.row.prog) (w := w) hR.1 I0 ax hneI items.toArray
  have nDC : D ≠ env.locals := fun q => by
    obtain ⟨n, e⟩ := hD; obtain ⟨o, es, ep, e', d, _⟩ := hn
    rw [← q, e] at e'; cases e'; cases d
  have nDI : D ≠ I0 := fun q => by
    obtain ⟨n, e⟩ := hD
    obtain ⟨o, e', c, _⟩ := hit
    rw [q] at e
    exact cls_ne e e' (by rw [c]; show Value.type "list" ≠ Value.type "list_iterator"; decide)
  have nCI : env.locals ≠ I0 := fun q => by
    obtain ⟨o, es, ep, e, d, _⟩ := hn
    obtain ⟨o', e', c, d'⟩ := hit
    rw [← q, e] at e'; cases e'; rw [d] at d'; cases d'
  have loop : codeAny (model PySem.Challenge.rw_rs0001_01.row.prog w) A (.compLoop (comp2 elt (.Name "row" q1) i1 t2 i2 scope pos) 0 (.ref I0) (.ref D) env) R s := by
    refine comp_out (fun d s' => ∃ h tk m' vs' i, s' = { s with heap := h, toks := tk } ∧ Keep g h ∧ h.Ns env.locals m' ∧ Lst h D vs' ∧ Rows h vs' ((nss.take i).flatMap (spread x)) ∧
        h.IsListIter I0 ax i ∧ i ≤ nss.length ∧ d = nss.length + 1 - i) ?_ (nss.length + 1)
      ⟨s.heap, s.toks, m, [], 0, rfl, kg, hn, hD, by simpa using Rows.nil, hit, by omega, rfl⟩ (fun _ => rfl) hfold
    rintro d s' ⟨h, tk, m', vs', i, rfl, kh, hn', hD', hv', hit', hi, rfl⟩
    have fr : ∀ b ∈ [env.locals, D, I0], g.get? b = none := by
      intro b hb
      simp at hb
      rcases hb with rfl | rfl | rfl <;> assumption
    have no : ∀ b ∈ [env.locals, D, I0], NoTup h b := by
      intro b hb
      simp at hb
      rcases hb with rfl | rfl | rfl
      · exact noTup_ns hn'
      · exact noTup_lst hD'
      · obtain ⟨o, e, c, _⟩ := hit'
        exact noTup_cls e c (by decide)
    by_cases hlt : i < nss.length
    · have hiL : i < items.toArray.size := by rw [List.size_toArray]; omega
      refine W.item i _ _ _ hiL ⟨hit', stays_list kh hl⟩ fun v h₁ tk₁ hP st₁ hk₁ => ?_
      have k₁ : KeepS [I0] h h₁ := hk₁
      obtain ⟨r, ns, rfl, hns, hrow⟩ := hrows.get (by simpa using hP)
      refine wpAny_assign_Name (wpAny_storeName_local V.row (hn'.at' fun o e => k₁ _ o (by simpa using nCI) e) (fun h₂ hn₂ hs₂ => ?_) V.hp)
      replace hs₂ : Heap.SameBut env.locals h₁ h₂ := hs₂
      have ks₂ : KeepS [env.locals, D, I0] h h₂ := KeepS.trans (k₁.mono (by simp)) (same_s hs₂ (by simp))
      have kg₂ : Keep g h₂ := keep_of_s kh ks₂ fr
      have hnsz : ns.length < 400 := hsz ns (List.mem_of_getElem? hns)
      have hev : eval i2 env = eval (.Call (.Name "range" r1) [.BinOp (.Call (.Name "len" r2) [.Name "row" r3] [] r4) .Add (.Constant (.int 1) c1 r5) r6] [] r7) env := by rw [hi2]
      rw [hev]
      refine rng_spread (B.keep kg₂) V hn₂ (if_pos rfl) (hrow.keep kg₂) hnsz fun Rg t u v h₃ tk₃ k₃ hrg => ?_
      refine wpAny_pyIter_range hrg (small_one (by decide) (by decide) (by omega) (by omega)) ?_
      have k₃' : Keep h₂ (h₃.push { cls := .type "range_iterator", data := .fields #[rawInt 0, rawInt (Builtin.Range.rangeSize 0 ((ns.length + 1 : Nat) : Int) 1), rawInt 1] }) := Keep.trans k₃ (keep_push _ _)
      have hit1 : IsRangeIter (h₃.push { cls := .type "range_iterator", data := .fields #[rawInt 0, rawInt (Builtin.Range.rangeSize 0 ((ns.length + 1 : Nat) : Int) 1), rawInt 1] }) h₃.objs.size 0 ((ns.length + 1 : Nat) : Int) 1 := by
        have e : Builtin.Range.rangeSize 0 ((ns.length + 1 : Nat) : Int) 1 = ((ns.length + 1 : Nat) : Int) := by rw [rangeSize_one, if_pos (by omega)]; omega
        rw [e]
        exact Heap.get?_push_size _ rfl
      have fI1 : g.get? h₃.objs.size = none := fresh_of (Keep.trans kg₂ k₃) (Nat.le_refl _)
      have nI1 : h₃.objs.size ≠ I0 := fun q => by
        obtain ⟨o, e, _⟩ := st₁.1
        have := Heap.lt_size (k₃ _ _ (hs₂.extBut _ _ nCI.symm e))
        rw [q] at this
        exact Nat.lt_irrefl _ this
      generalize h₃.push { cls := .type "range_iterator", data := .fields #[rawInt 0, rawInt (Builtin.Range.rangeSize 0 ((ns.length + 1 : Nat) : Int) 1), rawInt 1] } = h₄ at k₃' hit1 ⊢
      have hD₂ : Lst h₂ D vs' := by
        obtain ⟨n, e⟩ := hD'
        exact ⟨n, hs₂.extBut D _ nDC (k₁ D _ (by simpa using nDI) e)⟩
      have inner : codeAny (model PySem.Challenge.rw_rs0001_01.row.prog w) A (.compLoop (comp2 elt (.Name "row" q1) i1 t2 i2 scope pos) 1 (.ref h₃.objs.size) (.ref D) env) (fun r s₅ => (∃ f, r = .ok f) ∧ ∃ m, m < nss.length + 1 - i ∧ ∃ h tk m' vs' i,
          s₅ = { s with heap := h, toks := tk } ∧ Keep g h ∧ h.Ns env.locals m' ∧ Lst h D vs' ∧ Rows h vs' ((nss.take i).flatMap (spread x)) ∧ h.IsListIter I0 ax i ∧ i ≤ nss.length ∧ m = nss.length + 1 - i) { s with heap := h₄, toks := tk₃ } := by
        refine spread_in (s := { s with heap := h₄, toks := tk₃ }) (r := r) (ns := ns) (vs := vs') (pre := (nss.take i).flatMap (spread x)) V hR hc hrow (Keep.trans kg₂ k₃') fC fD fI1 (hn₂.keeps k₃') (if_pos rfl) (hD₂.keep k₃') ((hv'.keepS ks₂ no).keep k₃') hit1 hnsz ?_ ht2 he fun h' tk' m'' vs'' kg' hn'' hD'' hv'' ks'' => ?_
        · have := htot i
          have e := (hv').length
          rw [e]; omega
        · refine ⟨⟨_, rfl⟩, nss.length + 1 - (i + 1), by omega, h', tk', m'', vs'', i + 1, rfl, kg', hn'', hD'', ?_, ?_, by omega, rfl⟩
          · rw [flat_take _ _ _ _ hns]; exact hv''
          · have st2 := W.frame _ h₁ h' st₁ fun b hb o e => by
              simp at hb
              rcases hb with hb | hb
              · rw [hb] at e ⊢
                refine ks'' _ _ ?_ (k₃' _ _ (hs₂.extBut _ _ nCI.symm e))
                simp
                exact ⟨nCI.symm, nDI.symm, nI1.symm⟩
              · rw [hb] at e ⊢
                have e2 : g.get? ax ≠ none := by obtain ⟨o', q, _⟩ := hl; rw [q]; simp
                obtain ⟨o', q, _⟩ := hl
                have e3 := kg₂ _ _ q
                have e4 : h₂.get? ax = some o := hs₂.extBut _ _ (fun z => by rw [z, fC] at q; cases q) e
                rw [e3] at e4; cases e4
                exact kg' _ _ q
            exact st2.1
      exact comp_start (by decide) inner (wpAny_pyIter_rangeiter hit1 inner)
    · have hi' : i = nss.length := by omega
      subst hi'
      have hsize : items.toArray.size = nss.length := by rw [List.size_toArray, hlen]
      refine W.done _ _ _ (by rw [hsize]; exact ⟨hit', stays_list kh hl⟩) fun h₁ tk₁ hk₁ => ?_
      have k₁ : KeepS [env.locals, D, I0] h h₁ := KeepS.mono (S := [I0]) hk₁ (by simp)
      rw [List.take_length] at hv'
      refine hR' h₁ tk₁ m' vs' (keep_of_s kh k₁ fr) (hn'.at' fun o e => hk₁ _ o (by simpa using nCI) e) ?_ (hv'.keepS k₁ no)
      obtain ⟨n, e⟩ := hD'
      exact ⟨n, hk₁ D _ (by simpa using nDI) e⟩
  exact comp_start (by decide) loop (wpAny_pyIter_listiter hit loop)
end
def RowsAt (h : Heap) (a : Addr) (nss : List (List Int)) : Prop := ∃ vs, Lst h a vs ∧ Rows h vs nss
theorem RowsAt.keep {h h' : Heap} {a : Addr} {nss : List (List Int)} (x : RowsAt h a nss) (k : Keep h h') : RowsAt h' a nss := let ⟨vs, l, r⟩ := x; ⟨vs, l.keep k, r.keep k⟩
section
variable {M : Model} {A : Around} {E : Value → Shared → Prop} {s : Shared} {vs : List Value} {Q : Value → Shared → Prop}
theorem newT (hsz : vs.length < 1000) (h : ∀ a h', Keep s.heap h' → s.heap.get? a = none → Tup h' a vs → Q (.ref a) { s with heap := h' }) : wpAny M A (newTuple vs) Q E s :=
  wpAny_newTuple (h _ _ (keep_push _ _) (fresh_of (fun _ _ e => e) (Nat.le_refl _)) (Tup.new _ _)) (by rw [sizeLine_eq]; omega)
theorem newL (hsz : vs.length < 1000) (h : ∀ a h', Keep s.heap h' → s.heap.get? a = none → Lst h' a vs → Q (.ref a) { s with heap := h' }) : wpAny M A (newList vs) Q E s :=
  wpAny_newList (h _ _ (keep_push _ _) (fresh_of (fun _ _ e => e) (Nat.le_refl _)) ⟨0, Heap.get?_push_size _ rfl⟩) (by rw [sizeLine_eq]; omega)
end
theorem ne_of_fresh {h : Heap} {a b : Addr} {o : Obj} (e : h.get? a = none) (e' : h.get? b = some o) : a ≠ b := fun q => by rw [q, e'] at e; cases e
theorem ints_get {vs : List Value} {ns : List Int} (x : IntsAre vs ns) : ∀ {i : Nat} {v : Value}, vs[i]? = some v → ∃ a t, v = .int a t ∧ ns[i]? = some a := by
  induction x with
  | nil => intro i v e; simp at e
  | cons a t _ ih =>
    intro i v e
    cases i with
    | zero => simp at e; exact ⟨a, t, e.symm, by simp⟩
    | succ i =>
      rw [List.getElem?_cons_succ] at e ⊢
      exact ih e
theorem orders_snoc (ns : List Int) (i : Nat) (x : Int) (e : ns[i]? = some x) : orders (ns.take (i + 1)) = stepO (orders (ns.take i)) x := by
  unfold orders
  rw [List.take_add_one, e, List.foldl_append]
  rfl

theorem orders_spec {w : World} {A : Around} {E : Value → Shared → Prop} {s : Shared} {mg mb : Str → Option Value} {a : Addr} {vs : List Value} {ns : List Int} {Q : Value → Shared → Prop}
    (B : Base w mg mb s.heap) (hR : Room 5 A) (hl : s.heap.IsList a vs.toArray) (hi : IntsAre vs ns)
    (hsz : ∀ i : Nat, ∀ r ∈ orders (ns.take i), r.length < 400) (htot : ∀ i x j, (((orders (ns.take i)).take j).flatMap (spread x)).length + 400 < 1000)
    (hQ : ∀ r h' tk, Keep s.heap h' → RowsAt h' r (orders ns) → Q (.ref r) { s with heap := h', toks := tk }) :
    wpAny (model PySem.Challenge.rw_rs0001_01.row.prog w) A (call (.ref 55) [.ref a] []) Q E s := by
  have X := B.X
  revert X; k_fill; intro X
  refine wpAny_call ?_
  refine' codeAny_call_cells (binds := [("letters", .ref a)]) hR.room (X _ _ (by k_is)) rfl B.lim (codeRec_of X (by k_is)) rfl rfl rfl ?kk ?_ rfl rfl rfl
  case kk =>
    intro x hx
    simp at hx
    subst hx
    exact .inl rfl
  intro s₁ hin
  obtain ⟨⟨⟨h₁, tk₁, rfl⟩, hns, hkp, _⟩, hcells, _, _⟩ := hin
  dsimp only at hns hkp hcells
  have hcell : h₁.IsCell (s.heap.objs.size + 1) none := hcells "letter" (s.heap.objs.size + 1) rfl
  clear hcells
  have hL : @LT.lt Nat _ s.heap.objs.size h₁.objs.size := hns.lt
  generalize hE : callEnvC _ s.heap.objs.size 55 = env at *
  have eL : env.locals = s.heap.objs.size := by rw [← hE]; rfl
  have eK : env.scope.kind = .function := by rw [← hE]; rfl
  have kl : env.kindOf "letters" = some .local := by rw [← hE]; rfl
  have kr : env.kindOf "rows" = some .local := by rw [← hE]; rfl
  have kc : env.kindOf "letter" = some .cell := by rw [← hE]; rfl
  have ec : env.cells.lookup ("letter" : Str) = some (s.heap.objs.size + 1) := by rw [← hE]; rfl
  have ep : (env.scope.kind == .class || (env.scope.kind == .module && env.locals != env.globals)) = false := by rw [← hE]; rfl
  have m1 : (bindL env.kindOf [("letters", Value.ref a)] fun _ => none) "letters" = some (.ref a) := by rw [← hE]; rfl
  generalize (bindL env.kindOf [("letters", Value.ref a)] fun _ => none) = m at hns m1
  -- rows = [()]
  refine wpAny_execs_cons (wpAny_Assign_Name (List_ (spliced_more (Tuple_ (spliced_none ?_)))) (by rw [← hE]; rfl))
  refine newT (by decide) fun tA h₂ k₂ f₂ t₂ => spliced_none (newL (by simp) fun lA h₃ k₃ f₃ l₃ => ?_)
  have k13 := Keep.trans k₂ k₃
  refine wpAny_storeName_local kr (hns.keeps k13) (fun h₄ hn₄ hs₄ => ?_) ep
  replace hs₄ : Heap.SameBut env.locals h₃ h₄ := hs₄
  dsimp only
  have hk4 : Keep s.heap h₄ := fun b o e => hs₄.extBut b o (by rw [eL]; exact Nat.ne_of_lt (Heap.lt_size e)) (k13 _ _ (hkp _ _ e))
  obtain ⟨oL, esL, epL, eoL, dL, _⟩ := hns.keeps k13
  have nlL : lA ≠ env.locals := fun q => by
    obtain ⟨n, e⟩ := l₃
    rw [q, eoL] at e; cases e; cases dL
  have l₄ : Lst h₄ lA [.ref tA] := by obtain ⟨n, e⟩ := l₃; exact ⟨n, hs₄.extBut _ _ nlL e⟩
  have r₄ : Rows h₄ [.ref tA] [[]] := .cons ⟨[], (t₂.keep k₃).keepS (same_s (S := [env.locals]) hs₄ (by simp)) (by
    intro b hb; simp at hb; subst hb; exact noTup_ns (hns.keeps k13)), .nil⟩ .nil
  have c₄ : h₄.IsCell (s.heap.objs.size + 1) none := by
    obtain ⟨o, e, d⟩ := hcell
    exact ⟨o, hs₄.extBut _ _ (by rw [eL]; exact Nat.succ_ne_self _) (k13 _ _ e), d⟩
  -- the loop over the letters
  refine wpAny_execs_cons (wpAny_For (nmL eK kl hn₄ (by rw [if_neg (by decide)]; exact m1) ?_) (by intro _; rw [← hE]; rfl))
  refine wpAny_pyIter_list (stays_list hk4 hl) ?_
  have hitI : (h₄.push { cls := .type "list_iterator", data := .fields #[.ref a, .int 0 0] }).IsListIter h₄.objs.size a 0 := ⟨_, Heap.get?_push_size _ rfl, rfl, rfl⟩
  have k5 : Keep h₄ (h₄.push { cls := .type "list_iterator", data := .fields #[.ref a, .int 0 0] }) := keep_push _ _
  have haI : a ≠ h₄.objs.size := by
    obtain ⟨o, e, _⟩ := hl
    exact Nat.ne_of_lt (Heap.lt_size (hk4 _ _ e))
  have fI : s.heap.get? h₄.objs.size = none := fresh_of hk4 (Nat.le_refl _)
  show codeAny _ _ (.forLoop _ (.ref h₄.objs.size) _ _ _) _ { s with heap := h₄.push { cls := .type "list_iterator", data := .fields #[.ref a, .int 0 0] }, toks := tk₁ + 1 }
  generalize h₄.push { cls := .type "list_iterator", data := .fields #[.ref a, .int 0 0] } = h₅ at hitI k5 ⊢
  generalize h₄.objs.size = I at hitI haI fI ⊢
  have W := Walks.list (prog := PySem.Challenge.rw_rs0001_01.row.prog) (w := w) (A := A.deeper env) hR.1 I a haI vs.toArray
  have hlen := hi.length
  have nIL : I ≠ env.locals := fun q => by
    obtain ⟨o, e, c, d⟩ := hitI
    obtain ⟨o', es, ep', e', d', _⟩ := hn₄.keeps k5
    rw [q, e'] at e; cases e; rw [d'] at d; cases d
  refine codeAny_forLoop (fun d s' => ∃ h tk m' i lR ws, s' = { s with heap := h, toks := tk } ∧ Keep s.heap h ∧ h.Ns env.locals m' ∧ m' "rows" = some (.ref lR) ∧ Lst h lR ws ∧ Rows h ws (orders (ns.take i)) ∧
      (∃ v, h.IsCell (s.heap.objs.size + 1) v) ∧ h.IsListIter I a i ∧ i ≤ ns.length ∧ d = ns.length + 1 - i) ?_ (ns.length + 1)
    ⟨h₅, tk₁ + 1, _, 0, lA, [.ref tA], rfl, Keep.trans hk4 k5, hn₄.keeps k5, if_pos rfl, l₄.keep k5, r₄.keep k5, ⟨_, cell_keep c₄ k5⟩, hitI, by omega, rfl⟩ (fun _ => rfl)
  rintro d s' ⟨h, tk, m', i, lR, ws, rfl, kh, hn, hmr, hlr, hws, ⟨cv, hcv⟩, hit, hile, rfl⟩
  by_cases hlt : i < ns.length
  · refine W.item i _ _ _ (by rw [List.size_toArray]; omega) ⟨hit, stays_list kh hl⟩ fun v h1 tk1 hP st1 hk1 => ?_
    have kI : KeepS [I] h h1 := hk1
    have ncI : s.heap.objs.size + 1 ≠ I := fun q => by
      obtain ⟨o, e, dd⟩ := hcv
      obtain ⟨o', e', c', d'⟩ := hit
      rw [q, e'] at e; cases e; rw [d'] at dd; cases dd
    have ncL : env.locals ≠ s.heap.objs.size + 1 := by rw [eL]; exact (Nat.succ_ne_self _).symm
    have hcv1 : h1.IsCell (s.heap.objs.size + 1) cv := by obtain ⟨o, e, dd⟩ := hcv; exact ⟨o, kI _ _ (by simpa using ncI) e, dd⟩
    obtain ⟨x, tx, rfl, hnx⟩ : ∃ x tx, v = .int x tx ∧ ns[i]? = some x := by
      have hP' : vs[i]? = some v := by simpa using hP
      exact ints_get hi hP'
    refine wpAny_assign_Name (wpAny_storeName_cell eK kc ec hcv1 fun h2 hc2 hs2 => ?_)
    replace hs2 : Heap.SameBut (s.heap.objs.size + 1) h1 h2 := hs2
    have ks2 : KeepS [I, s.heap.objs.size + 1] h h2 := KeepS.trans (kI.mono (by simp)) (same_s hs2 (by simp))
    have fr2 : ∀ b ∈ [I, s.heap.objs.size + 1], s.heap.get? b = none := by
      intro b hb
      simp at hb
      rcases hb with rfl | rfl
      · exact fI
      · exact fresh_of (fun _ _ e => e) (Nat.le_succ _)
    have kh2 : Keep s.heap h2 := keep_of_s kh ks2 fr2
    have hn2 : h2.Ns env.locals m' := hn.at' fun o e => ks2 _ o (by simp; exact ⟨nIL.symm, ncL⟩) e
    have no2 : ∀ b ∈ [I, s.heap.objs.size + 1], NoTup h b := by
      intro b hb
      simp at hb
      rcases hb with hb | hb
      · obtain ⟨o, e, c, _⟩ := hit
        rw [hb]; exact noTup_cls e c (by decide)
      · obtain ⟨o, e, dd⟩ := hcv
        rw [hb]; intro o' e' _ xs n q; rw [e] at e'; cases e'; rw [dd] at q; cases q
    have hws2 := hws.keepS ks2 no2
    have hlr2 : Lst h2 lR ws := by
      obtain ⟨n, e⟩ := hlr
      refine ⟨n, ks2 _ _ ?_ e⟩
      simp
      refine ⟨fun q => ?_, fun q => ?_⟩
      · obtain ⟨o, e', c, _⟩ := hit
        rw [q] at e
        exact cls_ne e e' (by rw [c]; show Value.type "list" ≠ Value.type "list_iterator"; decide)
      · obtain ⟨o, e', dd⟩ := hcv
        rw [q, e'] at e; cases e; cases dd
    have hit2 : h2.IsListIter I a (i + 1) := st1.1.at fun o e => hs2.extBut _ _ ncI.symm e
    refine wpAny_execs_cons ?_
    rw [exec_Assign_Name_used (env := env) _ _ _ _ (by rw [← hE]; rfl)]
    refine wpAny_bind (wpAny_standAt (wpAny_bind ?_))
    show wpAny _ _ (comprehension _ _ env _ (newList []) false (eval _ env) (some _) >>= fun _ => pure ()) _ _ _
    refine wpAny_bind ?_
    refine wpAny_comprehension_free (cl := [("letter", s.heap.objs.size + 1)]) (use := some _) rfl (by intro _; rw [← hE]; rfl) (by rw [← hE]; rfl) rfl (by decide) ?_
    refine nmL eK kr hn2 hmr ?_
    refine wpAny_pyIter_list hlr2.is ?_
    show wpAny _ _ (newList []) _ _ { s with heap := h2.push { cls := .type "list_iterator", data := .fields #[.ref lR, .int 0 0] }, toks := tk1 }
    have hit0 : (h2.push { cls := .type "list_iterator", data := .fields #[.ref lR, .int 0 0] }).IsListIter h2.objs.size lR 0 := ⟨_, Heap.get?_push_size _ rfl, rfl, rfl⟩
    have k0 : Keep h2 (h2.push { cls := .type "list_iterator", data := .fields #[.ref lR, .int 0 0] }) := keep_push _ _
    have f0 : h2.get? h2.objs.size = none := fresh_of (fun _ _ e => e) (Nat.le_refl _)
    show wpAny _ _ (newList []) (fun acc s₃ => wpAny _ _ (newFunctionEnv _ env.globals _ [] env.qual none .none (some env)) (fun cenv s₄ => codeAny _ _ (.compStart _ 0 (.ref h2.objs.size) acc _) _ s₄) _ s₃) _ _
    generalize h2.push { cls := .type "list_iterator", data := .fields #[.ref lR, .int 0 0] } = h3 at hit0 k0 ⊢
    generalize h2.objs.size = I0 at hit0 f0 ⊢
    refine newL (by simp) fun D h4 k4 f4 l4 => ?_
    refine wpAny_newFunctionEnv (by decide) (by intro y hy; simp at hy) (fun h6 hn6 hs6 => ?_) rfl
    have k46 : Keep h4 h6 := fun b o e => hs6.extBut b o (Nat.ne_of_lt (Heap.lt_size e)) (Heap.get?_push_of_some _ e)
    have fC : h4.get? h4.objs.size = none := fresh_of (fun _ _ e => e) (Nat.le_refl _)
    have hn6' : h6.Ns h4.objs.size (fun x => List.lookup x ([] : List (Str × Value)).reverse) := hn6
    have k26 := Keep.trans (Keep.trans k0 k4) k46
    have fC2 : h2.get? h4.objs.size = none := fresh_of (Keep.trans k0 k4) (Nat.le_refl _)
    have fD2 : h2.get? D = none := by
      cases q : h2.get? D with
      | none => rfl
      | some o => have := k0 _ _ q; rw [f4] at this; cases this
    refine spread_loop (g := h2) (cL := s.heap.objs.size + 1) (ax := lR) (I0 := I0) (D := D) (items := ws) (nss := orders (ns.take i)) (x := x) (tx := tx) ?V ((hR.deeper env).le (by decide)) (B.keep kh2) hc2 hws2 hlr2.is k26 fC2 fD2 f0 hn6' (l4.keep k46) ((hit0.at fun o e => k4 _ _ e).at fun o e => k46 _ _ e)
      (hsz i) (htot i x) rfl rfl rfl rfl ?fold ?_
    case V =>
      subst hE
      exact ⟨rfl, rfl, rfl, rfl, rfl, rfl, rfl, rfl, rfl, rfl⟩
    case fold => intro _; rfl
    intro h7 tk7 m7 ws7 k7 hn7 l7 r7
    show wpAny _ _ (assign (.Name "rows" _) env (.ref D)) _ _ _
    have hn7L : h7.Ns env.locals m' := hn2.keeps k7
    refine wpAny_assign_Name (wpAny_storeName_local kr hn7L (fun h8 hn8 hs8 => ?_) ep)
    replace hs8 : Heap.SameBut env.locals h7 h8 := hs8
    have nCL : h4.objs.size ≠ env.locals := fun q => by
      obtain ⟨o, es, ep', e, d, _⟩ := hn2
      rw [q, e] at fC2; cases fC2
    have nDL : D ≠ env.locals := fun q => by
      obtain ⟨o, es, ep', e, d, _⟩ := hn2
      rw [q, e] at fD2; cases fD2
    have nDC : D ≠ h4.objs.size := fun q => by
      obtain ⟨n, e⟩ := l4
      rw [q, fC] at e; cases e
    refine ⟨m7, hn7.sameBut hs8 nCL, fun h9 hs9 => ?_⟩
    replace hs9 : Heap.SameBut h4.objs.size h8 h9 := hs9
    refine wpAny_pure (wpAny_pure (wpAny_execs_nil ?_))
    have ks9 : KeepS [env.locals, h4.objs.size] h7 h9 := KeepS.trans (same_s hs8 (by simp)) (same_s hs9 (by simp))
    have no9 : ∀ b ∈ [env.locals, h4.objs.size], NoTup h7 b := by
      intro b hb
      simp at hb
      rcases hb with hb | hb
      · rw [hb]; exact noTup_ns hn7L
      · rw [hb]; exact noTup_ns hn7
    have fr9 : ∀ b ∈ [env.locals, h4.objs.size], s.heap.get? b = none := by
      intro b hb
      simp at hb
      rcases hb with hb | hb
      · rw [hb, eL]; exact fresh_of (fun _ _ e => e) (Nat.le_refl _)
      · rw [hb]; exact fresh_of (Keep.trans kh2 (Keep.trans k0 k4)) (Nat.le_refl _)
    refine ⟨ns.length + 1 - (i + 1), by omega, h9, _, _, i + 1, D, ws7, rfl, keep_of_s (Keep.trans kh2 k7) ks9 fr9, hn8.sameBut hs9 nCL.symm, if_pos rfl, ?_, ?_, ?_, ?_, by omega, rfl⟩
    · obtain ⟨n, e⟩ := l7
      exact ⟨n, ks9 _ _ (by simp; exact ⟨nDL, nDC⟩) e⟩
    · rw [orders_snoc ns i x hnx]; exact r7.keepS ks9 no9
    · obtain ⟨o, e, dd⟩ := hc2
      refine ⟨_, o, ks9 _ _ (by simp; exact ⟨ncL.symm, fun q => by rw [← q, e] at fC2; cases fC2⟩) (k7 _ _ e), dd⟩
    · obtain ⟨o, e, dd⟩ := hit2
      refine ⟨o, ks9 _ _ (by simp; exact ⟨nIL, fun q => by rw [← q, e] at fC2; cases fC2⟩) (k7 _ _ e), dd⟩
  · have hi' : i = ns.length := by omega
    subst hi'
    have hsize : vs.toArray.size = ns.length := by rw [List.size_toArray, hlen]
    refine W.done _ _ _ (by rw [hsize]; exact ⟨hit, stays_list kh hl⟩) fun h1 tk1 hk1 => ?_
    have kI : KeepS [I] h h1 := hk1
    refine wpAny_execs_nil ?_
    have hn1 : h1.Ns env.locals m' := hn.at' fun o e => kI _ o (by simpa using nIL.symm) e
    refine wpAny_execs_cons (wpAny_Return_some (nmL eK kr hn1 hmr ?_))
    have noI : ∀ b ∈ [I], NoTup h b := by
      intro b hb
      simp at hb
      obtain ⟨o, e, c, _⟩ := hit
      rw [hb]; exact noTup_cls e c (by decide)
    rw [List.take_length] at hws
    refine hQ lR h1 _ (keep_of_s kh kI (by intro b hb; simp at hb; rw [hb]; exact fI)) ⟨ws, ?_, hws.keepS kI noI⟩
    obtain ⟨n, e⟩ := hlr
    refine ⟨n, kI _ _ ?_ e⟩
    simp
    intro q
    obtain ⟨o, e', c, _⟩ := hit
    rw [q] at e
    exact cls_ne e e' (by rw [c]; show Value.type "list" ≠ Value.type "list_iterator"; decide)
/-! the tree of questions of a sort, answered by an order -/
def tw {α : Type} (n : Nat) (c : Nat → Nat → Bool) : KasT α → (α → Prop) → Prop
  | .ret a, Q => Q a
  | .ask i j k, Q => i < n ∧ j < n ∧ tw n c (k (c i j)) Q
theorem tw_bind {α β : Type} {n : Nat} {c : Nat → Nat → Bool} {f : α → KasT β} {Q : β → Prop} : ∀ (t : KasT α), tw n c t (fun a => tw n c (f a) Q) → tw n c (t.bind f) Q
  | .ret _, h => h
  | .ask _ _ k, h => ⟨h.1, h.2.1, tw_bind (k _) h.2.2⟩
theorem tw_mono {α : Type} {n : Nat} {c : Nat → Nat → Bool} {Q Q' : α → Prop} (hq : ∀ a, Q a → Q' a) : ∀ (t : KasT α), tw n c t Q → tw n c t Q'
  | .ret _, h => hq _ h
  | .ask _ _ k, h => ⟨h.1, h.2.1, tw_mono hq (k _) h.2.2⟩
structure Ord (c : Nat → Nat → Bool) : Prop where
  asymm : ∀ i j, c i j = true → c j i = false
  trans : ∀ i j k, c j i = false → c k j = false → c k i = false
theorem Ord.refl {c : Nat → Nat → Bool} (o : Ord c) (i : Nat) : c i i = false := by
  cases h : c i i with
  | false => rfl
  | true => rw [o.asymm i i h] at h; cases h
abbrev Kp (p : Array Nat) (i : Nat) : Nat := p.getD i 0
def SortedTo (c : Nat → Nat → Bool) (p : Array Nat) (k : Nat) : Prop := ∀ a b, a ≤ b → b < k → c (Kp p b) (Kp p a) = false
def NonInc (c : Nat → Nat → Bool) (p : Array Nat) (k : Nat) : Prop := ∀ a b, a ≤ b → b < k → c (Kp p a) (Kp p b) = false
def PermN (n : Nat) (p : Array Nat) : Prop := p.Perm (List.range n).toArray
theorem PermN.size {n : Nat} {p : Array Nat} (h : PermN n p) : p.size = n := by have := h.size_eq; simpa using this
theorem PermN.lt {n : Nat} {p : Array Nat} (h : PermN n p) {i : Nat} (hi : i < n) : Kp p i < n := by
  have hs := h.size
  have hm : Kp p i ∈ p := by
    have : i < p.size := by omega
    simp [Kp, Array.getD, this]
  have := (h.mem_iff).mp hm
  simpa using this
theorem Kp_of {p q : Array Nat} {i j : Nat} (h : p[i]? = q[j]?) : Kp p i = Kp q j := by
  simp only [Kp, Array.getD_eq_getD_getElem?, h]
section
variable {n : Nat} {c : Nat → Nat → Bool} (o : Ord c)
include o
theorem tw_asc {p : Array Nat} (hp : PermN n p) {Q : Nat → Prop} : ∀ (f m : Nat), 1 ≤ m → m + f ≤ n → SortedTo c p m →
    (∀ r, m ≤ r → r ≤ m + f → SortedTo c p r → (r < m + f → c (Kp p r) (Kp p (r - 1)) = true) → Q r) → tw n c (kas_asc p f m) Q
  | 0, m, h1, hn, hs, hQ => hQ m (Nat.le_refl _) (by omega) hs (fun h => by omega)
  | f + 1, m, h1, hn, hs, hQ => by
    refine ⟨hp.lt (by omega), hp.lt (by omega), ?_⟩
    cases hc : c (Kp p m) (Kp p (m - 1)) with
    | true =>
      simp only [hc, if_true]
      exact hQ m (Nat.le_refl _) (by omega) hs (fun _ => hc)
    | false =>
      simp only [hc, Bool.false_eq_true, if_false]
      refine tw_asc hp f (m + 1) (by omega) (by omega) (fun a b hab hb => ?_) (fun r h2 h3 h4 h5 => hQ r (by omega) (by omega) h4 (fun h => h5 (by omega)))
      rcases Nat.lt_or_ge b m with hbm | hbm
      · exact hs a b hab hbm
      · have : b = m := by omega
        subst this
        rcases Nat.lt_or_ge a b with h6 | h6
        · exact o.trans _ _ _ (hs a (b - 1) (by omega) (by omega)) hc
        · have : a = b := by omega
          subst this
          exact o.refl _
omit o in
theorem rev_perm {p : Array Nat} (hp : PermN n p) (i j : Nat) : PermN n (kas_rev p i j) := (mirror_perm _ _ _ _).trans hp
omit o in
theorem Kp_rev {p : Array Nat} {i j : Nat} (hj : j ≤ p.size) (k : Nat) : Kp (kas_rev p i j) k = if i ≤ k ∧ k < j then Kp p (i + j - 1 - k) else Kp p k := by
  by_cases h : i ≤ k ∧ k < j
  · rw [if_pos h]
    exact Kp_of (by unfold kas_rev; rw [getElem?_mirror_all hj, if_pos h])
  · rw [if_neg h]
    exact Kp_of (by unfold kas_rev; rw [getElem?_mirror_all hj, if_neg h])
/-- a run that falls, its last q + 1 alike -/
def Falls (c : Nat → Nat → Bool) (p : Array Nat) (m q : Nat) : Prop := NonInc c p m ∧ q + 1 ≤ m ∧ ∀ a, m - 1 - q ≤ a → a < m → c (Kp p (m - 1)) (Kp p a) = false
theorem falls_rev {p : Array Nat} {m q : Nat} (hm : m ≤ p.size) (h : Falls c p m q) : NonInc c (kas_rev p (m - (q + 1)) m) m ∧ ∀ b, m ≤ b → Kp (kas_rev p (m - (q + 1)) m) b = Kp p b := by
  obtain ⟨h1, h2, h3⟩ := h
  have hr := fun k => Kp_rev (p := p) (i := m - (q + 1)) (j := m) hm k
  refine ⟨fun a b hab hb => ?_, fun b hb => by rw [hr, if_neg (by omega)]⟩
  have eqv : ∀ a, a < m → c (Kp (kas_rev p (m - (q + 1)) m) a) (Kp p a) = false ∧ c (Kp p a) (Kp (kas_rev p (m - (q + 1)) m) a) = false := by
    intro a ha
    rw [hr]
    by_cases hin : m - (q + 1) ≤ a ∧ a < m
    · rw [if_pos hin]
      have e1 := h3 a (by omega) ha
      have e2 := h3 (m - (q + 1) + m - 1 - a) (by omega) (by omega)
      have e3 := h1 a (m - 1) (by omega) (by omega)
      have e4 := h1 (m - (q + 1) + m - 1 - a) (m - 1) (by omega) (by omega)
      exact ⟨o.trans _ _ _ e1 e4, o.trans _ _ _ e2 e3⟩
    · rw [if_neg hin]; exact ⟨o.refl _, o.refl _⟩
  have ea := eqv a (by omega)
  have eb := eqv b hb
  exact o.trans _ _ _ eb.2 (o.trans _ _ _ (h1 a b hab hb) ea.1)
theorem nonInc_snoc {p : Array Nat} {m : Nat} (hm : 1 ≤ m) (h : NonInc c p m) (hc : c (Kp p (m - 1)) (Kp p m) = false) : NonInc c p (m + 1) := fun a b hab hb => by
  rcases Nat.lt_or_ge b m with hbm | hbm
  · exact h a b hab hbm
  · have : b = m := by omega
    subst this
    rcases Nat.lt_or_ge a b with h6 | h6
    · exact o.trans _ _ _ hc (h a (b - 1) (by omega) (by omega))
    · have : a = b := by omega
      subst this
      exact o.refl _
theorem tw_desc {Q : Array Nat × Nat × Nat → Prop} : ∀ (f : Nat) (p : Array Nat) (m q : Nat), PermN n p → m + f ≤ n → Falls c p m q →
    (∀ p' m' q', PermN n p' → m ≤ m' → m' ≤ m + f → Falls c p' m' q' → Q (p', m', q')) → tw n c (kas_desc f p m q) Q
  | 0, p, m, q, hp, hn, hf, hQ => hQ p m q hp (Nat.le_refl _) (by omega) hf
  | f + 1, p, m, q, hp, hn, hf, hQ => by
    have hm1 : 1 ≤ m := by have := hf.2.1; omega
    refine ⟨hp.lt (by omega), hp.lt (by omega), ?_⟩
    cases hc : c (Kp p m) (Kp p (m - 1)) with
    | true =>
      simp only [hc, if_true]
      by_cases hq : q > 0
      · rw [if_pos hq]
        have hsz : m ≤ p.size := by rw [hp.size]; omega
        have hr := falls_rev o hsz hf
        have e1 : Kp (kas_rev p (m - (q + 1)) m) (m - 1) = Kp p (m - (q + 1)) := by
          have h2 := hf.2.1
          rw [Kp_rev hsz, if_pos (by omega)]
          congr 1
          omega
        have hstep : c (Kp (kas_rev p (m - (q + 1)) m) (m - 1)) (Kp (kas_rev p (m - (q + 1)) m) m) = false := by
          have h2 := hf.2.1
          rw [hr.2 m (Nat.le_refl _), e1]
          exact o.trans _ _ _ (o.asymm _ _ hc) (hf.1 (m - (q + 1)) (m - 1) (by omega) (by omega))
        refine tw_desc f _ (m + 1) 0 (rev_perm hp _ _) (by omega) ⟨nonInc_snoc o hm1 hr.1 hstep, by omega, fun a ha hb => ?_⟩ (fun p' m' q' a1 a2 a3 a4 => hQ p' m' q' a1 (by omega) (by omega) a4)
        have : a = m := by omega
        subst this
        exact o.refl _
      · rw [if_neg hq]
        refine tw_desc f p (m + 1) 0 hp (by omega) ⟨nonInc_snoc o hm1 hf.1 (o.asymm _ _ hc), by omega, fun a ha hb => ?_⟩ (fun p' m' q' a1 a2 a3 a4 => hQ p' m' q' a1 (by omega) (by omega) a4)
        have : a = m := by omega
        subst this
        exact o.refl _
    | false =>
      simp only [hc, Bool.false_eq_true, if_false]
      refine ⟨hp.lt (by omega), hp.lt (by omega), ?_⟩
      cases hd : c (Kp p (m - 1)) (Kp p m) with
      | true =>
        simp only [hd, if_true]
        exact hQ p m q hp (Nat.le_refl _) (by omega) hf
      | false =>
        simp only [hd, Bool.false_eq_true, if_false]
        refine tw_desc f p (m + 1) (q + 1) hp (by omega) ⟨nonInc_snoc o hm1 hf.1 hd, by have := hf.2.1; omega, fun a ha hb => ?_⟩ (fun p' m' q' a1 a2 a3 a4 => hQ p' m' q' a1 (by omega) (by omega) a4)
        show c (Kp p (m + 1 - 1)) (Kp p a) = false
        rw [Nat.add_sub_cancel]
        rcases Nat.lt_or_ge a m with h6 | h6
        · exact o.trans _ _ _ (hf.2.2 a (by omega) h6) hc
        · have : a = m := by omega
          subst this
          exact o.refl _
theorem tw_tail3 {p : Array Nat} {m : Nat} (hp : PermN n p) (h1 : 1 ≤ m) (hm : m ≤ n) (hf : NonInc c p m) {Q : Nat × Array Nat → Prop} (hQ : ∀ r p', 1 ≤ r → r ≤ n → PermN n p' → SortedTo c p' r → Q (r, p')) : tw n c (kas_tail3 m n p) Q := by
  unfold kas_tail3
  refine tw_bind _ (tw_asc o (rev_perm hp _ _) _ _ h1 (by omega) (fun a b hab hb => ?_) fun r h2 h3 h4 _ => ?_)
  · have hsz : m ≤ p.size := by rw [hp.size]; omega
    rw [Kp_rev hsz, Kp_rev hsz, if_pos (by omega), if_pos (by omega)]
    exact hf _ _ (by omega) (by omega)
  · exact hQ r _ (by omega) (by omega) (rev_perm hp _ _) h4
theorem tw_descPart {p : Array Nat} {m : Nat} (hp : PermN n p) (h1 : 1 ≤ m) (hm : m < n) (hf : NonInc c p (m + 1)) {Q : Nat × Array Nat → Prop} (hQ : ∀ r p', 1 ≤ r → r ≤ n → PermN n p' → SortedTo c p' r → Q (r, p')) : tw n c (kas_descPart m n p) Q := by
  unfold kas_descPart
  refine tw_bind _ (tw_desc o _ p (m + 1) 0 hp (by omega) ⟨hf, by omega, fun a ha hb => ?_⟩ fun p' m' q' a1 a2 a3 a4 => ?_)
  · have : a = m := by omega
    subst this
    exact o.refl _
  · dsimp only
    have hsz : m' ≤ p'.size := by rw [a1.size]; omega
    by_cases hq : q' > 0
    · rw [if_pos hq]
      exact tw_tail3 o (rev_perm a1 _ _) (by omega) (by omega) (falls_rev o hsz a4).1 hQ
    · rw [if_neg hq]
      exact tw_tail3 o a1 (by omega) (by omega) a4.1 hQ
theorem tw_count {p : Array Nat} (hp : PermN n p) (h1 : 1 ≤ n) {Q : Nat × Array Nat → Prop} (hQ : ∀ r p', 1 ≤ r → r ≤ n → PermN n p' → SortedTo c p' r → Q (r, p')) : tw n c (kas_count n p) Q := by
  unfold kas_count
  refine tw_bind _ (tw_asc o hp _ _ (Nat.le_refl _) (by omega) (fun a b hab hb => ?_) fun r h2 h3 h4 h5 => ?_)
  · have : a = b := by omega
    subst this
    exact o.refl _
  · by_cases hr : r = n
    · rw [if_pos (by simpa using hr)]
      exact hQ r p h2 (by omega) hp h4
    · rw [if_neg (by simpa using hr)]
      have hlt := h5 (by omega)
      by_cases hr1 : r > 1
      · rw [if_pos hr1]
        refine ⟨hp.lt (by omega), hp.lt (by omega), ?_⟩
        cases hc : c (Kp p 0) (Kp p (r - 1)) with
        | true =>
          simp only [hc, if_true]
          exact hQ r p h2 (by omega) hp h4
        | false =>
          simp only [hc, Bool.false_eq_true, if_false]
          have hsz : r ≤ p.size := by rw [hp.size]; omega
          have hall : ∀ a b, a < r → b < r → c (Kp p a) (Kp p b) = false := fun a b ha hb =>
            o.trans _ _ _ (h4 b (r - 1) (by omega) (by omega)) (o.trans _ _ _ hc (h4 0 a (by omega) ha))
          refine tw_descPart o (rev_perm hp _ _) (by omega) (by omega) (nonInc_snoc o (by omega) (fun a b hab hb => ?_) ?_) hQ
          · rw [Kp_rev hsz, Kp_rev hsz, if_pos (by omega), if_pos (by omega)]
            exact hall _ _ (by omega) (by omega)
          · rw [Kp_rev hsz, Kp_rev hsz, if_pos (by omega), if_neg (by omega)]
            exact o.trans _ _ _ (o.asymm _ _ hlt) (hall _ _ (by omega) (by omega))
      · rw [if_neg hr1]
        have : r = 1 := by omega
        subst this
        exact tw_descPart o hp (by omega) (by omega) (nonInc_snoc o (by omega) (fun a b hab hb => by
          have : a = b := by omega
          subst this
          exact o.refl _) (o.asymm _ _ hlt)) hQ

theorem tw_place {p : Array Nat} {k : Nat} (hp : PermN n p) (hk : k < n) (hs : SortedTo c p k) {Q : Nat → Prop} : ∀ (f l r : Nat), l ≤ r → r ≤ k → r - l ≤ f → (∀ a, a < l → c (Kp p k) (Kp p a) = false) → (∀ a, r ≤ a → a < k → c (Kp p k) (Kp p a) = true) →
    (∀ l', l' ≤ k → (∀ a, a < l' → c (Kp p k) (Kp p a) = false) → (∀ a, l' ≤ a → a < k → c (Kp p k) (Kp p a) = true) → Q l') → tw n c (kas_place p k f l r) Q
  | 0, l, r, h1, h2, h3, h4, h5, hQ => hQ l (by omega) h4 (fun a ha hb => h5 a (by omega) hb)
  | f + 1, l, r, h1, h2, h3, h4, h5, hQ => by
    unfold kas_place
    by_cases hlr : l ≥ r
    · rw [if_pos hlr]
      exact hQ l (by omega) h4 (fun a ha hb => h5 a (by omega) hb)
    · rw [if_neg hlr]
      refine ⟨hp.lt hk, hp.lt (by omega), ?_⟩
      cases hc : c (Kp p k) (Kp p ((l + r) / 2)) with
      | true =>
        simp only [if_true]
        refine tw_place hp hk hs f l ((l + r) / 2) (by omega) (by omega) (by omega) h4 (fun a ha hb => ?_) hQ
        cases hx : c (Kp p k) (Kp p a) with
        | true => rfl
        | false =>
          have := o.trans _ _ _ (hs ((l + r) / 2) a ha hb) hx
          rw [hc] at this; cases this
      | false =>
        simp only [Bool.false_eq_true, if_false]
        refine tw_place hp hk hs f ((l + r) / 2 + 1) r (by omega) h2 (by omega) (fun a ha => ?_) h5 hQ
        exact o.trans _ _ _ (hs a ((l + r) / 2) (by omega) (by omega)) hc
theorem tw_bin {Q : Array Nat → Prop} : ∀ (f : Nat) (p : Array Nat) (k : Nat), PermN n p → k + f = n → SortedTo c p k → (∀ p', PermN n p' → SortedTo c p' n → Q p') → tw n c (kas_bin f p k) Q
  | 0, p, k, hp, hk, hs, hQ => hQ p hp (by rw [← hk]; exact hs)
  | f + 1, p, k, hp, hk, hs, hQ => by
    unfold kas_bin
    refine tw_bind _ (tw_place o hp (by omega) hs k 0 k (by omega) (Nat.le_refl _) (by omega) (fun a ha => by omega) (fun a ha hb => by omega) fun l hl h1 h2 => ?_)
    refine tw_bin f _ (k + 1) ((bubble_perm _ _ _).trans hp) (by omega) (fun a b hab hb => ?_) hQ
    have hsz : k < p.size := by rw [hp.size]; omega
    have hK : ∀ j, Kp (bubble p k (k - l)) j = if j = l then Kp p k else if l < j ∧ j ≤ k then Kp p (j - 1) else Kp p j := by
      intro j
      have e := getElem?_bubble hsz (k - l) (by omega) j
      have e1 : k - (k - l) = l := by omega
      rw [e1] at e
      by_cases hj : j = l
      · rw [if_pos hj] at e ⊢; exact Kp_of e
      · rw [if_neg hj] at e ⊢
        by_cases hj2 : l < j ∧ j ≤ k
        · rw [if_pos hj2] at e ⊢; exact Kp_of e
        · rw [if_neg hj2] at e ⊢; exact Kp_of e
    rw [hK, hK]
    by_cases ha : a = l
    · rw [if_pos ha]
      by_cases hb' : b = l
      · rw [if_pos hb']; exact o.refl _
      · rw [if_neg hb', if_pos (by omega)]
        exact o.asymm _ _ (h2 (b - 1) (by omega) (by omega))
    · rw [if_neg ha]
      by_cases hb' : b = l
      · rw [if_pos hb', if_neg (by omega)]
        exact h1 a (by omega)
      · rw [if_neg hb']
        by_cases hal : l < a ∧ a ≤ k
        · rw [if_pos hal, if_pos (by omega)]
          exact hs _ _ (by omega) (by omega)
        · rw [if_neg hal]
          by_cases hbl : l < b ∧ b ≤ k
          · rw [if_pos hbl]
            exact hs _ _ (by omega) (by omega)
          · rw [if_neg hbl]
            exact hs _ _ hab (by omega)
theorem tw_sort (h1 : 1 ≤ n) {Q : Array Nat → Prop} (hQ : ∀ p, PermN n p → SortedTo c p n → Q p) : tw n c (kas_sort n) Q := by
  unfold kas_sort
  refine tw_bind _ (tw_count o (Array.Perm.refl _) h1 fun r p' h2 h3 h4 h5 => ?_)
  dsimp only
  by_cases hr : r < n
  · rw [if_pos hr]
    have e : max r 1 = r := by omega
    rw [e]
    exact tw_bin o _ _ _ h4 (by omega) h5 hQ
  · rw [if_neg hr]
    have : r = n := by omega
    subst this
    exact hQ p' h4 h5
end
theorem kas_of_tw {α : Type} {cmp : Nat → Nat → (Bool → Shared → Prop) → Shared → Prop} {n : Nat} {c : Nat → Nat → Bool} {s : Shared} (hc : ∀ i j (C : Bool → Shared → Prop), i < n → j < n → C (c i j) s → cmp i j C s) :
    ∀ (t : KasT α) (Q : α → Shared → Prop), tw n c t (fun a => Q a s) → t.kasWp cmp Q s
  | .ret _, _, h => h
  | .ask i j k, Q, h => hc i j _ h.1 h.2.1 (kas_of_tw hc (k (c i j)) Q h.2.2)
/-! the order of rows is an order -/
theorem llt_irrefl : ∀ a : List Int, llt a a = false
  | [] => rfl
  | x :: r => by unfold llt; rw [if_pos (by simp)]; exact llt_irrefl r
theorem llt_asymm : ∀ a b : List Int, llt a b = true → llt b a = false
  | [], [], h => by cases h
  | [], _ :: _, _ => rfl
  | _ :: _, [], h => by cases h
  | x :: r, y :: t, h => by
    unfold llt at h ⊢
    by_cases e : x = y
    · subst e
      rw [if_pos (by simp)] at h ⊢
      exact llt_asymm r t h
    · rw [if_neg (by simpa using e)] at h
      rw [if_neg (by simpa using fun q : y = x => e q.symm)]
      simp only [decide_eq_true_eq] at h
      simp only [decide_eq_false_iff_not]; omega
theorem llt_trans : ∀ a b c : List Int, llt b a = false → llt c b = false → llt c a = false
  | [], _, [], _, _ => rfl
  | [], [], _ :: _, _, h => h
  | [], _ :: _, _ :: _, h, _ => by unfold llt; rfl
  | _ :: _, [], _, h, _ => by cases h
  | _ :: _, _ :: _, [], _, h => by cases h
  | x :: a, y :: b, z :: c, h1, h2 => by
    unfold llt at h1 h2 ⊢
    by_cases e1 : y = x
    · subst e1
      rw [if_pos (by simp)] at h1
      by_cases e2 : z = y
      · subst e2
        rw [if_pos (by simp)] at h2 ⊢
        exact llt_trans a b c h1 h2
      · rw [if_neg (by simpa using e2)] at h2 ⊢
        exact h2
    · rw [if_neg (by simpa using e1)] at h1
      simp only [decide_eq_false_iff_not] at h1
      by_cases e2 : z = y
      · subst e2
        rw [if_neg (by simpa using e1)]
        simp only [decide_eq_false_iff_not]; omega
      · rw [if_neg (by simpa using e2)] at h2
        simp only [decide_eq_false_iff_not] at h2
        have e3 : z ≠ x := by omega
        rw [if_neg (by simpa using e3)]
        simp only [decide_eq_false_iff_not]; omega
theorem ord_of (nss : List (List Int)) : Ord fun i j => llt (nss.getD i []) (nss.getD j []) :=
  ⟨fun _ _ h => llt_asymm _ _ h, fun _ _ _ h1 h2 => llt_trans _ _ _ h1 h2⟩

section
variable {prog : Program} {w : World} {A : Around} {E : Value → Shared → Prop} {s : Shared}
theorem katLex_ints {b : Bool} {Q : Bool → Shared → Prop} : ∀ {xs ys : List Value} {ns ms : List Int} (i : Nat), IntsAre xs ns → IntsAre ys ms → ns.length = ms.length → Q (llt ns ms) s → KatLex prog w A b false Q (xs.zip ys) i s := by
  intro xs ys ns ms i hx
  induction hx generalizing ys ms i with
  | nil =>
    intro hy hl h
    cases hy with
    | nil => exact kat_nil h
    | cons _ _ _ => simp at hl
  | cons a t hx ih =>
    intro hy hl h
    cases hy with
    | nil => simp at hl
    | cons a2 t2 hy =>
      rw [List.zip_cons_cons]
      refine kat_cons (wpAny_eqBool_int ?_)
      unfold llt at h
      cases he : (a == a2) with
      | true =>
        rw [he, if_pos rfl] at h
        exact kat_yes (ih (i + 1) hy (by simpa using hl) h)
      | false =>
        rw [he, if_neg (by simp)] at h
        refine kat_no ?_
        cases (b && i == 0) with
        | true => exact oneLt_int h
        | false => exact kat_one _ _ (lt_int h)
theorem ask_rows {b : Bool} {vs : List Value} {nss : List (List Int)} (hr : Rows s.heap vs nss) (h4 : ∀ ns ∈ nss, ns.length = 4) {i j : Nat} (hi : i < vs.length) (hj : j < vs.length) {C : Bool → Shared → Prop} (h : C (llt (nss.getD i []) (nss.getD j [])) s) :
    kas_ask prog w A (tuples' b) vs i j C s := by
  obtain ⟨x, ns, ex, en, ⟨xs, ⟨n1, e1⟩, i1⟩⟩ := hr.get (i := i) (v := vs[i]) (by simp [hi])
  obtain ⟨y, ms, ey, em, ⟨ys, ⟨n2, e2⟩, i2⟩⟩ := hr.get (i := j) (v := vs[j]) (by simp [hj])
  have l1 : ns.length = 4 := h4 _ (List.mem_of_getElem? en)
  have l2 : ms.length = 4 := h4 _ (List.mem_of_getElem? em)
  unfold kas_ask
  have g1 : vs.getD i Value.none = .ref x := by rw [List.getD_eq_getElem?_getD]; simp [hi, ex]
  have g2 : vs.getD j Value.none = .ref y := by rw [List.getD_eq_getElem?_getD]; simp [hj, ey]
  rw [g1, g2]
  refine kat_lt e1 rfl e2 rfl ?_
  have hsz : decide (xs.toArray.size < ys.toArray.size) = false := by
    rw [List.size_toArray, List.size_toArray, i1.length, i2.length, l1, l2]; rfl
  rw [hsz]
  have e3 : nss.getD i [] = ns := by rw [List.getD_eq_getElem?_getD, en]; rfl
  have e4 : nss.getD j [] = ms := by rw [List.getD_eq_getElem?_getD, em]; rfl
  rw [e3, e4] at h
  exact katLex_ints 0 i1 i2 (by omega) h

theorem katTups_of {vs : List Value} {nss : List (List Int)} {h : Heap} (hr : Rows h vs nss) (h4 : ∀ ns ∈ nss, ns.length = 4) : ∃ fs, KatTups h vs fs ∧ fs.length = vs.length ∧ ∀ v ∈ fs, ∃ a t, v = Value.int a t := by
  induction hr with
  | nil => exact ⟨[], KatTups.nil, rfl, fun v hv => by cases hv⟩
  | @cons a ns vs nss ht _ ih =>
    obtain ⟨fs, k, l, f⟩ := ih fun ns hn => h4 ns (List.mem_cons_of_mem _ hn)
    obtain ⟨xs, ⟨n, e⟩, i⟩ := ht
    cases i with
    | nil => have := h4 [] (List.mem_cons_self ..); simp at this
    | @cons a1 t1 xs' ns' i =>
      refine ⟨.int a1 t1 :: fs, KatTups.cons e rfl rfl (by simp) k, by simp [l], fun v hv => ?_⟩
      rcases List.mem_cons.mp hv with rfl | hv
      · exact ⟨_, _, rfl⟩
      · exact f v hv
theorem list_sort_tups {a : Addr} {vs : List Value} {nss : List (List Int)} {n : Nat} {P : PySem.Fin → Shared → Prop} (ho : s.heap.get? a = some (seqObj "list" vs.toArray n)) (hr : Rows s.heap vs nss) (h4 : ∀ ns ∈ nss, ns.length = 4)
    (h2 : 2 ≤ vs.length) (h64 : vs.length < 64)
    (h : ∀ p : Array Nat, PermN vs.length p → SortedTo (fun i j => llt (nss.getD i []) (nss.getD j [])) p vs.length → P (.done (.ret .none)) { s with heap := sortedHeap s.heap a vs (p.toList.map fun i => vs.getD i Value.none).toArray }) :
    wpAny (model prog w) A (Builtin.«list.sort» ⟨[.ref a], []⟩) P E s := by
  rw [list_sort_plain]
  have ha : a < s.heap.objs.size := Heap.lt_size ho
  refine wpAny_bind (listItems_at ho rfl ?_)
  refine wpAny_bind (listUpdate_at ho rfl ?_ (by rw [List.size_toArray, sizeLine_eq]; omega) (Nat.zero_le _))
  obtain ⟨e1, ho1⟩ : ∃ e1, (s.heap.update a (Obj.mapSeq fun _ => #[])).get? a = some (seqObj "list" #[] e1) := ⟨_, get?_update_seq ho (fun _ => #[])⟩
  refine wpAny_bind (seqEpoch_at ho1 rfl ?_)
  refine wpAny_bind (wpAny_newTuple ?_ (by show vs.length ≤ _; rw [sizeLine_eq]; omega))
  refine wpAny_bind (wpAny_newList ?_ (Nat.zero_le _))
  refine wpAny_holding ?_
  have ho6 : (((s.heap.update a (Obj.mapSeq fun _ => #[])).push (seqObj "tuple" vs.toArray 0)).push (seqObj "list" #[] 0)).get? a = some (seqObj "list" #[] e1) := by
    rw [Heap.get?_push_ne _ _ _ (by rw [size_push', Heap.size_update]; exact Nat.ne_of_lt (Nat.lt_succ_of_lt ha)), Heap.get?_push_ne _ _ _ (by rw [Heap.size_update]; exact Nat.ne_of_lt ha)]
    exact ho1
  have ks : KeepS [a] s.heap (((s.heap.update a (Obj.mapSeq fun _ => #[])).push (seqObj "tuple" vs.toArray 0)).push (seqObj "list" #[] 0)) := fun b o nb e => by
    have nb' : b ≠ a := by simpa using nb
    exact Heap.get?_push_of_some _ (Heap.get?_push_of_some _ ((Heap.get?_update_ne _ _ _ _ nb').trans e))
  have hr6 := hr.keepS ks (by
    intro b hb
    simp at hb
    rw [hb]
    exact noTup_cls ho rfl (by decide))
  show wpAny (model prog w) A _ P E { s with heap := ((s.heap.update a (Obj.mapSeq fun _ => #[])).push (seqObj "tuple" vs.toArray 0)).push (seqObj "list" #[] 0) }
  dsimp only
  have hn2 : ¬ vs.toArray.size < 2 := by rw [List.size_toArray]; omega
  rw [if_neg hn2, if_neg hn2]
  obtain ⟨fs, kt, kl, kf⟩ := katTups_of hr6 h4
  refine wpAny_bind (kat_kind (s := { s with heap := ((s.heap.update a (Obj.mapSeq fun _ => #[])).push (seqObj "tuple" vs.toArray 0)).push (seqObj "list" #[] 0) }) (T := .type "int") kt (by omega) (fun v hv => ?_) rfl ?_)
  · obtain ⟨x, t, rfl⟩ := kf v hv
    exact Looks.of_pure rfl
  have hsort : (kas_sort vs.length).kasWp (kas_ask prog w A (tuples' (Value.type "int" != Value.type "tuple")) vs) (fun p s' => PermN vs.length p ∧ SortedTo (fun i j => llt (nss.getD i []) (nss.getD j [])) p vs.length ∧ s' = { s with heap := ((s.heap.update a (Obj.mapSeq fun _ => #[])).push (seqObj "tuple" vs.toArray 0)).push (seqObj "list" #[] 0) })
      { s with heap := ((s.heap.update a (Obj.mapSeq fun _ => #[])).push (seqObj "tuple" vs.toArray 0)).push (seqObj "list" #[] 0) } :=
    kas_of_tw (n := vs.length) (c := fun i j => llt (nss.getD i []) (nss.getD j [])) (fun i j C hi hj hC => ask_rows hr6 h4 hi hj hC) _ _ (tw_sort (ord_of nss) (by omega) fun p h1 h2 => ⟨h1, h2, rfl⟩)
  refine wpAny_bind (wpAny_mono (kat_run (Q := fun st' s' => ∃ p : Array Nat, p.size = vs.length ∧ arrOf st' = p.map (kas_item (vs.toArray.zip vs.toArray)) ∧ failedOf st' = none ∧ PermN vs.length p ∧ SortedTo (fun i j => llt (nss.getD i []) (nss.getD j [])) p vs.length ∧
    s' = { s with heap := ((s.heap.update a (Obj.mapSeq fun _ => #[])).push (seqObj "tuple" vs.toArray 0)).push (seqObj "list" #[] 0) }) rfl h2 h64 (fun p' st' s' a1 a2 a3 a4 => ⟨p', a1, a2, a3, a4⟩) hsort) ?_ fun _ _ e => e)
  rintro ⟨⟨⟩, st'⟩ s' ⟨p, hp, har, hf, hperm, hsrt, rfl⟩
  dsimp only
  rw [kat_snds rfl har]
  refine wpAny_bind (seqEpoch_at ho6 rfl ?_)
  refine wpAny_bind (listUpdate_at ho6 rfl ?_ (Nat.zero_le _) (by rw [List.size_toArray, List.length_map, Array.length_toList, hp, sizeLine_eq]; omega))
  rw [hf]
  simp only [bne_self_eq_false, Bool.false_eq_true, if_false]
  exact wpAny_pure (h p hperm hsrt)

theorem getD_range {α : Type} (d : α) : ∀ l : List α, (List.range l.length).map (fun i => l.getD i d) = l := by
  intro l
  apply List.ext_getElem
  · simp
  · intro i h1 h2
    simp at h1
    simp [h1]
theorem perm_getD {α : Type} (d : α) (l : List α) {p : Array Nat} (h : PermN l.length p) : (p.toList.map fun i => l.getD i d).Perm l := by
  have h' : p.toList.Perm (List.range l.length) := by
    have := h.toList
    simpa using this
  have := h'.map fun i => l.getD i d
  rwa [getD_range] at this
theorem rows_getD {h : Heap} {vs : List Value} {nss : List (List Int)} (hr : Rows h vs nss) : ∀ (is : List Nat), (∀ i ∈ is, i < vs.length) → Rows h (is.map fun i => vs.getD i Value.none) (is.map fun i => nss.getD i [])
  | [], _ => .nil
  | i :: is, hi => by
    have hi0 := hi i (List.mem_cons_self ..)
    obtain ⟨x, ns, ex, en, ht⟩ := hr.get (i := i) (v := vs[i]) (by simp [hi0])
    have g1 : vs.getD i Value.none = .ref x := by rw [List.getD_eq_getElem?_getD]; simp [hi0, ex]
    have g2 : nss.getD i [] = ns := by rw [List.getD_eq_getElem?_getD, en]; rfl
    rw [List.map_cons, List.map_cons, g1, g2]
    exact .cons ht (rows_getD hr is fun k hk => hi k (List.mem_cons_of_mem _ hk))
def SortedL (mss : List (List Int)) : Prop := mss.Pairwise fun a b => llt b a = false
theorem sorted_getD {nss : List (List Int)} {p : Array Nat} {n : Nat} (hs : p.size = n) (h : SortedTo (fun i j => llt (nss.getD i []) (nss.getD j [])) p n) : SortedL (p.toList.map fun i => nss.getD i []) := by
  unfold SortedL
  rw [List.pairwise_map, List.pairwise_iff_getElem]
  intro i j hi hj hij
  have h1 := h i j (Nat.le_of_lt hij) (by simp at hj; omega)
  simp at hi hj
  have e1 : Kp p i = p[i] := by simp [Kp, hi]
  have e2 : Kp p j = p[j] := by simp [Kp, hj]
  rw [e1, e2] at h1
  simpa using h1
theorem sorted_tups {l : Addr} {vs : List Value} {nss : List (List Int)} {Q : Value → Shared → Prop} (hl : s.heap.IsList l vs.toArray) (hr : Rows s.heap vs nss) (h4 : ∀ ns ∈ nss, ns.length = 4) (h2 : 2 ≤ vs.length) (h64 : vs.length < 64)
    (hQ : ∀ D h' ws mss, Keep s.heap h' → s.heap.get? D = none → Lst h' D ws → Rows h' ws mss → mss.Perm nss → SortedL mss → Q (.ref D) { s with heap := h' }) :
    wpAny (model prog w) A (call (.builtin "sorted") [.ref l]) Q E s := by
  refine Calls.call_function_entry kind_sorted plain_sorted entry_sorted (args_sorted1 _) ?_
  unfold Builtin.«sorted»
  refine wpAny_bind (m := checkCount "sorted" 1 1 _) (wpAny_pure ?_)
  refine wpAny_bind (collect_list hl ?_ (by rw [sizeLine_eq]; omega))
  refine wpAny_bind (wpAny_newList ?_ (by rw [sizeLine_eq]; omega))
  have hsz : ((s.heap.push (seqObj "list" #[] 0)).update s.heap.objs.size (Obj.mapSeq (· ++ vs.toArray))).objs.size = s.heap.objs.size + 1 := by
    rw [Heap.size_update, size_push']
  have hoL : (((s.heap.push (seqObj "list" #[] 0)).update s.heap.objs.size (Obj.mapSeq (· ++ vs.toArray))).push (seqObj "list" vs.toArray 0)).get? (s.heap.objs.size + 1) = some (seqObj "list" vs.toArray 0) := by
    rw [← hsz]; exact Heap.get?_push_size _ rfl
  have keep : Keep s.heap (((s.heap.push (seqObj "list" #[] 0)).update s.heap.objs.size (Obj.mapSeq (· ++ vs.toArray))).push (seqObj "list" vs.toArray 0)) := fun b o q => by
    have hlt : b < s.heap.objs.size := Heap.lt_size q
    rw [Heap.get?_push_ne _ _ _ (by rw [hsz]; exact Nat.ne_of_lt (Nat.lt_succ_of_lt hlt)), Heap.get?_update_ne _ _ _ _ (Nat.ne_of_lt hlt), Heap.get?_push_ne _ _ _ (Nat.ne_of_lt hlt)]
    exact q
  show wpAny _ _ _ _ _ { s with heap := ((s.heap.push (seqObj "list" #[] 0)).update s.heap.objs.size (Obj.mapSeq (· ++ vs.toArray))).push (seqObj "list" vs.toArray 0) }
  rw [hsz]
  refine wpAny_bind (wpAny_holding (wpAny_call_entry slot_list_sort ⟨_, hoL, rfl⟩ entry_list_sort (list_sort_tups hoL (hr.keep keep) h4 h2 h64 fun p hp hs => ⟨_, rfl, ?_⟩) (args_list_sort _)))
  have old : Keep s.heap (sortedAll s.heap vs (p.toList.map fun i => vs.getD i Value.none).toArray) := fun b o e => sortedAll_old e
  obtain ⟨e, he⟩ := sortedAll_at s.heap vs (p.toList.map fun i => vs.getD i Value.none).toArray
  refine wpAny_pure ⟨_, rfl, hQ (s.heap.objs.size + 1) _ _ _ old (fresh_of (fun _ _ e => e) (Nat.le_succ _)) ⟨e, he⟩ ((rows_getD hr p.toList fun i hi => ?_).keep old) (perm_getD [] nss (hr.length ▸ hp)) (sorted_getD hp.size hs)⟩
  have : i ∈ (List.range vs.length) := by
    have h' : p.toList.Perm (List.range vs.length) := by
      have := hp.toList
      simpa using this
    exact h'.mem_iff.mp hi
  simpa using this
end
/-- a list of ints -/
def ILst (h : Heap) (a : Addr) (ns : List Int) : Prop := ∃ vs, Lst h a vs ∧ IntsAre vs ns
theorem ILst.keep {h h' : Heap} {a : Addr} {ns : List Int} (x : ILst h a ns) (k : Keep h h') : ILst h' a ns := let ⟨vs, l, i⟩ := x; ⟨vs, l.keep k, i⟩
section
variable {prog : Program} {w : World} {A : Around} {E : Value → Shared → Prop} {s : Shared}
theorem slice_lst {value slice : Expr} {l : Addr} {items : Array Value} {vl vu vk : Value} {lo hi st : Option Int} {ops : List Value} {Q : Value → Shared → Prop} (hl : s.heap.IsList l items) (pl : IsPart vl lo) (pu : IsPart vu hi) (pk : IsPart vk st) (h0 : st ≠ some 0)
    (hsz : items.size < 1000) (h : ∀ D h', Keep s.heap h' → s.heap.get? D = none → Lst h' D (slicePick items lo hi st).toList → Q (.ref D) { s with heap := h' })
    (hs : subscripted slice false (.ref l) (.ref s.heap.objs.size) = operate ops (getItem (.ref l) (.ref s.heap.objs.size)) := by with_unfolding_all rfl)
    (ht : ∀ r, letTemporaryGo value (.ref l) r = pure () := by intro _; with_unfolding_all rfl) :
    wpAny (model prog w) A (subscriptTail value slice (.ref l) (.ref s.heap.objs.size)) Q E { s with heap := s.heap.push { cls := .type "slice", data := .fields #[vl, vu, vk] } } := by
  have hl' : (s.heap.push { cls := .type "slice", data := .fields #[vl, vu, vk] }).IsList l items := stays_list (keep_push _ _) hl
  refine subscriptTail_ops (Heap.IsList.typeIs (s := { s with heap := s.heap.push { cls := .type "slice", data := .fields #[vl, vu, vk] } }) hl') list_getitem_lookup
    (wpAny_getItem_list_slice hl' (Heap.IsSliceOf.new ..) pl pu pk h0 ?_ (by rw [sizeLine_eq]; omega)) hs ht
  have k : Keep s.heap ((s.heap.push { cls := .type "slice", data := .fields #[vl, vu, vk] }).push { cls := .type "list", data := .seq (slicePick items lo hi st) }) := Keep.trans (keep_push _ _) (keep_push _ _)
  refine h _ _ k (fresh_of (keep_push s.heap { cls := .type "slice", data := .fields #[vl, vu, vk] }) (Nat.le_refl _)) ⟨0, ?_⟩
  rw [Array.toArray_toList]
  exact Heap.get?_push_size _ rfl
theorem sum_any {l : Addr} {ns : List Int} {Q : Value → Shared → Prop} (hh : A.handled = none) (hl : ILst s.heap l ns) (h : ∀ v h' tk t, Keep s.heap h' → Q (.int v t) { s with heap := h', toks := tk }) : wpAny (model prog w) A (call (.builtin "sum") [.ref l]) Q E s := by
  obtain ⟨vs, hl, hi⟩ := hl
  refine call_sum_walkG (wpAny_pyIter_list hl.is ?_)
  have hne : l ≠ s.heap.objs.size := by obtain ⟨n, e⟩ := hl; exact Nat.ne_of_lt (Heap.lt_size e)
  refine ⟨s.heap.objs.size, _, _, _, _, _, fun i => ns.getD i 0, rfl, Walks.list (A := A.in1) hh s.heap.objs.size l hne vs.toArray, ⟨⟨_, Heap.get?_push_size _ rfl, rfl, rfl⟩, stays_list (keep_push _ _) hl.is⟩, ?_, ?_, ?_⟩
  · intro b hb
    rw [Heap.size_push]
    simp at hb
    rcases hb with rfl | rfl
    · exact Nat.lt_succ_self _
    · obtain ⟨n, e⟩ := hl; exact Nat.lt_succ_of_lt (Heap.lt_size e)
  · intro i v hv
    obtain ⟨a, t, rfl, e⟩ := ints_get hi (by simpa using hv)
    refine ⟨t, ?_⟩
    show Value.int a t = Value.int (ns.getD i 0) t
    rw [List.getD_eq_getElem?_getD, e]; rfl
  · intro h' tk t' hk
    refine h _ _ _ _ fun b o e => hk b o ?_ (keep_push _ _ b o e)
    simp
    exact Nat.ne_of_lt (Heap.lt_size e)
end
/-- the frame of the comprehension that draws -/
structure DEnv (env : Env) (cN : Addr) : Prop where
  kind : env.scope.kind = .function
  glob : env.globals = mainGlobals
  blt : env.builtins = builtinsNs
  k : env.kindOf "k" = some .local
  first : env.kindOf "first" = some .local
  sum : env.kindOf "sum" = some .globalImplicit
  nums : env.kindOf "nums" = some .cell
  cell : env.cells.lookup ("nums" : Str) = some cN
  hp : (env.scope.kind == .class || (env.scope.kind == .module && env.locals != env.globals)) = false
section
variable {w : World} {A : Around} {E : Value → Shared → Prop} {s : Shared} {mg mb m : Str → Option Value} {env : Env} {cN a : Addr} {k : Nat} {f : Int} {tk tf : Tok} {ns : List Int}
  {p1 p2 p3 p4 p5 p6 p7 p8 p9 p10 p11 p12 p13 p14 p15 : Pos} {c0 c1 : Nat}
theorem drawn_elt (hR : Room 3 A) (B : Base w mg mb s.heap) (V : DEnv env cN) (hn : s.heap.Ns env.locals m) (hf : m "first" = some (.int f tf)) (hk : m "k" = some (.int (k : Nat) tk)) (hc : s.heap.IsCell cN (some (.ref a))) (hl : ILst s.heap a ns) (hsz : ns.length < 100)
    {Q : Value → Shared → Prop} (hQ : ∀ v h' tk t, Keep s.heap h' → Q (.int v t) { s with heap := h', toks := tk }) :
    wpAny (model PySem.Challenge.rw_rs0001_01.row.prog w) A (eval (.BinOp (.Name "first" p1) .Add (.Call (.Name "sum" p2) [.ListComp (.BinOp (.Name "x" p3) .Mod (.Constant (.int 5040) c0 p4) p5)
      [⟨.Name "x" p6, .Subscript (.Name "nums" p7) (.Slice (some (.Name "k" p8)) none (some (.Constant (.int 5) c1 p9)) p10) p11, [], 0⟩]
      { kind := .function, names := [(".0", .local), ("x", .local)], isGenerator := false, isCoroutine := false } p12] [] p13) p14) env) Q E s := by
  obtain ⟨vs, hl, hi⟩ := hl
  have hlen := hi.length
  refine wpAny_BinOp (nmL V.kind V.first hn hf ?_)
  refine Call_ (nmB B V.kind V.sum V.glob V.blt rfl rfl (by decide) ?_)
  refine callWith_builtin1 (spliced_more ?_)
  refine wpAny_ListComp_free (cl := []) (fun _ => true) (fun _ y => ∃ b t, y = Value.int b t) (closureFor_none (by decide)) (by decide) rfl (by decide) rfl ?_ (by intro _; rfl)
  refine Subscript_ (nmC V.kind V.nums V.cell hc ?_)
  refine wpAny_Slice ?_
  simp only [evalPart_none, evalPart_some]
  refine nmL V.kind V.k hn hk (wpAny_pure (wpAny_Constant_int ?_))
  refine slice_lst (s := { s with toks := s.toks + 1 }) (lo := some (k : Int)) (hi := none) (st := some 5) hl.is (.int _ _) .none (.int _ _) (by decide) (by rw [List.size_toArray]; omega) fun D h₁ k₁ f₁ l₁ => ?_
  refine wpAny_pyIter_list l₁.is ?_
  have hpick : IntsAre (slicePick vs.toArray (some (k : Int)) none (some 5)).toList (pickNums ns (some (k : Int)) none (some 5)) := hi.pick _ _ _
  have hple := length_pickNums_le hi (some (k : Int)) none (some 5)
  have hne : D ≠ h₁.objs.size := by obtain ⟨n, e⟩ := l₁; exact Nat.ne_of_lt (Heap.lt_size e)
  refine ⟨h₁.objs.size, _, _, _, _, _, rfl, Walks.list hR.1 h₁.objs.size D hne (slicePick vs.toArray (some (k : Int)) none (some 5)), ?_, ⟨⟨_, Heap.get?_push_size _ rfl, rfl, rfl⟩, ?_⟩, ?_, ?_, ?_⟩
  · have := hpick.length
    rw [Array.length_toList] at this
    rw [this, sizeLine_eq]; omega
  · have := stays_list (keep_push h₁ { cls := .type "list_iterator", data := .fields #[.ref D, .int 0 0] }) l₁.is
    rwa [Array.toArray_toList] at this
  · intro b hb
    show @LT.lt Nat _ b (h₁.push _).objs.size
    rw [Heap.size_push]
    simp at hb
    rcases hb with rfl | rfl
    · exact Nat.lt_succ_self _
    · obtain ⟨n, e⟩ := l₁; exact Nat.lt_succ_of_lt (Heap.lt_size e)
  · refine ⟨fun C i v s₃ m₃ E' _ _ _ _ _ _ => ?_, fun C i v s₃ m₃ E' _ hv _ hn₃ hm₃ hk₃ _ => ?_⟩
    · exact wpAny_pure ⟨rfl, s₃.heap, s₃.toks, rfl, fun _ _ e => e⟩
    · obtain ⟨b, t, rfl, _⟩ := ints_get hpick (i := i) (v := v) (by simpa using hv)
      refine wpAny_BinOp (nmL rfl rfl hn₃ hm₃ (wpAny_Constant_int (mod_int' (by decide) ?_)))
      exact ⟨⟨_, _, rfl⟩, s₃.heap, _, rfl, fun _ _ e => e⟩
  · intro D₂ h₂ tk₂ ys vs₂ f₂ hl₂ hpl₂ hvl hP hF hk₂
    have k₂ : Keep h₁ h₂ := fun b o e => hk₂ b o (by simp; exact Nat.ne_of_lt (Heap.lt_size e)) (keep_push _ _ b o e)
    refine spliced_none ?_
    have hints : ∃ ns', IntsAre ys.toList ns' := by
      have : ∀ (l1 l2 : List Value), Paired (fun _ y => ∃ b t, y = Value.int b t) l1 l2 → ∃ ns', IntsAre l2 ns' := by
        intro l1 l2 hp
        induction hp with
        | nil => exact ⟨[], .nil⟩
        | cons h _ ih =>
          obtain ⟨b, t, rfl⟩ := h
          obtain ⟨ns', hns⟩ := ih
          exact ⟨b :: ns', .cons b t hns⟩
      exact this _ _ hF
    obtain ⟨ns', hns⟩ := hints
    obtain ⟨n2, e2⟩ := hpl₂
    refine sum_any hR.1 (ns := ns') ⟨ys.toList, ⟨n2, by rw [Array.toArray_toList]; exact e2⟩, hns⟩ fun v h₃ tk₃ t₃ k₃ => ?_
    refine add_int ?_
    exact hQ _ _ _ _ (Keep.trans k₁ (Keep.trans k₂ k₃))
end
theorem ne_cls {h : Heap} {a b : Addr} {o o' : Obj} (e : h.get? a = some o) (e' : h.get? b = some o') (hne : o.cls ≠ o'.cls) : a ≠ b := fun q => by
  rw [q, e'] at e; cases e; exact hne rfl
theorem ne_lst_ns {h : Heap} {a b : Addr} {vs : List Value} {m : Str → Option Value} (x : Lst h a vs) (y : h.Ns b m) : a ≠ b := fun q => by
  obtain ⟨n, e⟩ := x; obtain ⟨o, es, ep, e', d, _⟩ := y
  rw [q, e'] at e; cases e; cases d
theorem ne_ns_fields {h : Heap} {a b : Addr} {o : Obj} {xs : Array Value} {m : Str → Option Value} (y : h.Ns b m) (x : h.get? a = some o) (d : o.data = .fields xs) : a ≠ b := fun q => by
  obtain ⟨o', es, ep, e', d', _⟩ := y
  rw [q, e'] at x; cases x; rw [d'] at d; cases d
section
variable {prog : Program} {w : World} {A : Around} {R : Result → Shared → Prop} {s : Shared} {elt target iter : Expr} {scope : Scope} {pos : Pos} {it acc : Value} {env : Env}
theorem comp1T (I : Nat → Shared → Prop)
    (turn : ∀ n s, I n s → wpAny (model prog w) A (pyNext it) (fun r s₁ => match r with
      | none => R (.ok .next) s₁
      | some v => wpAny (model prog w) A (letOwnedTupleGo target it v) (fun _ s₁' => wpAny (model prog w) A (assign target env v) (fun _ s₂ => wpAny (model prog w) A (eval elt env) (fun x s₃ =>
          wpAny (model prog w) A (call (.builtin "list.append") [acc, x]) (fun _ s₄ => ∃ m, m < n ∧ I m s₄) (fun _ _ => False) s₃) (fun _ _ => False) s₂) (fun _ _ => False) s₁') (fun _ _ => False) s₁) (fun _ _ => False) s)
    (n : Nat) (h : I n s) :
    codeAny (model prog w) A (.compLoop (.ListComp elt [⟨target, iter, [], 0⟩] scope pos) 0 it acc env) R s := by
  refine codeAny_loop rfl I (fun n s hI => ?_) n h
  show wpAny _ _ ((compTurn (.ListComp elt [⟨target, iter, [], 0⟩] scope pos) 0 it acc env).onRaise (fun x => do noteFrame x env; theTreesLotGoes x)) _ _ s
  refine wpAny_noted ?_
  rw [compTurn_list1]
  refine wpAny_bind (wpAny_standAt (wpAny_bind (wpAny_mono (turn n s hI) (fun r s₁ h₁ => ?_) fun _ _ h' => h'.elim)))
  cases r with
  | none => exact wpAny_pure h₁
  | some v =>
    refine wpAny_bind (wpAny_mono h₁ (fun _ s₁' h₁' => ?_) fun _ _ h' => h'.elim)
    exact wpAny_bind (wpAny_mono h₁' (fun _ s₂ h₂ => wpAny_bind (wpAny_bind (wpAny_mono h₂ (fun x s₃ h₃ => wpAny_bind (wpAny_mono h₃
      (fun _ s₄ h₄ => wpAny_pure (wpAny_pure ⟨rfl, h₄⟩)) fun _ _ h' => h'.elim)) fun _ _ h' => h'.elim))) fun _ _ h' => h'.elim)
end
theorem isTupleIter_at {h h' : Heap} {a l : Addr} {i : Nat} (x : h.IsTupleIter a l i) (e : ∀ o, h.get? a = some o → h'.get? a = some o) : h'.IsTupleIter a l i := let ⟨o, ho, r⟩ := x; ⟨o, e _ ho, r⟩
section
variable {w : World} {A : Around} {R : Result → Shared → Prop} {s : Shared} {mg mb m : Str → Option Value} {env : Env} {cN a e it t D : Addr} {ns fs : List Int} {vs : List Value} {g : Heap}
  {p1 p2 p3 p4 p5 p6 p7 p8 p9 p10 p11 p12 p13 p14 q1 q2 q3 pos : Pos} {c0 c1 : Nat} {x1 : Nat} {iter : Expr} {scope : Scope}
theorem drawn_loop (V : DEnv env cN) (hR : Room 3 A) (B : Base w mg mb g) (hc : g.IsCell cN (some (.ref a))) (hl : ILst g a ns) (hns : ns.length < 100) (ht : Tup g t vs) (hfs : IntsAre vs fs) (hvs : vs.length < 100)
    (kg : Keep g s.heap) (fC : g.get? env.locals = none) (fD : g.get? D = none) (fe : g.get? e = none) (fi : g.get? it = none)
    (hn : s.heap.Ns env.locals m) (hD : Lst s.heap D []) (he : IsEnum s.heap e it 0 .none) (hit : s.heap.IsTupleIter it t 0)
    {elt target : Expr} (htg : target = .Tuple [.Name "k" q1, .Name "first" q2] x1 q3)
    (helt : elt = .BinOp (.Name "first" p1) .Add (.Call (.Name "sum" p2) [.ListComp (.BinOp (.Name "x" p3) .Mod (.Constant (.int 5040) c0 p4) p5)
      [⟨.Name "x" p6, .Subscript (.Name "nums" p7) (.Slice (some (.Name "k" p8)) none (some (.Constant (.int 5) c1 p9)) p10) p11, [], 0⟩]
      { kind := .function, names := [(".0", .local), ("x", .local)], isGenerator := false, isCoroutine := false } p12] [] p13) p14)
    (hR' : ∀ h' tk m' vs' ns', Keep g h' → h'.Ns env.locals m' → Lst h' D vs' → IntsAre vs' ns' → ns'.length = vs.length → R (.ok .next) { s with heap := h', toks := tk }) :
    codeAny (model PySem.Challenge.rw_rs0001_01.row.prog w) A (.compStart (.ListComp elt [⟨target, iter, [], 0⟩] scope pos) 0 (.ref e) (.ref D) env) R s := by
  have nDC : D ≠ env.locals := ne_lst_ns hD hn
  have neC : e ≠ env.locals := ne_ns_fields hn he rfl
  have niC : it ≠ env.locals := by obtain ⟨o, q, _, d⟩ := hit; exact ne_ns_fields hn q d
  have neD : e ≠ D := by obtain ⟨n, q⟩ := hD; exact ne_cls he q (by show Value.type "enumerate" ≠ Value.type "list"; decide)
  have niD : it ≠ D := by obtain ⟨n, q⟩ := hD; obtain ⟨o, q', c, _⟩ := hit; exact ne_cls q' q (by rw [c]; show Value.type "tuple_iterator" ≠ Value.type "list"; decide)
  have nei : e ≠ it := by obtain ⟨o, q', c, _⟩ := hit; exact ne_cls he q' (by rw [c]; show Value.type "enumerate" ≠ Value.type "tuple_iterator"; decide)
  have loop : codeAny (model PySem.Challenge.rw_rs0001_01.row.prog w) A (.compLoop (.ListComp elt [⟨target, iter, [], 0⟩] scope pos) 0 (.ref e) (.ref D) env) R s := by
    refine comp1T (fun d s' => ∃ h tk m' vs' ns' i old, s' = { s with heap := h, toks := tk } ∧ Keep g h ∧ h.Ns env.locals m' ∧ Lst h D vs' ∧ IntsAre vs' ns' ∧ ns'.length = i ∧
        IsEnum h e it ((i : Nat) : Int) old ∧ h.IsTupleIter it t i ∧ i ≤ vs.length ∧ d = vs.length + 1 - i) ?_ (vs.length + 1)
      ⟨s.heap, s.toks, m, [], [], 0, .none, rfl, kg, hn, hD, .nil, rfl, he, hit, by omega, rfl⟩
    rintro d s' ⟨h, tk, m', vs', ns', i, old, rfl, kh, hn', hD', hv', hlen, he', hit', hi, rfl⟩
    have htu : h.IsTuple t vs.toArray := by obtain ⟨n, q⟩ := ht; exact ⟨_, kh _ _ q, rfl, _, rfl⟩
    have fr : ∀ b ∈ [env.locals, D, e, it], g.get? b = none := by
      intro b hb
      simp at hb
      rcases hb with rfl | rfl | rfl | rfl <;> assumption
    by_cases hlt : i < vs.length
    · obtain ⟨f, tf, hvf, hff⟩ := ints_get hfs (i := i) (List.getElem?_eq_getElem hlt)
      refine enumT_item he' hit' htu (x := .int f tf) (by rw [List.getElem?_toArray, List.getElem?_eq_getElem hlt, hvf]) nei fun h₁ he₁ hit₁ hp₁ hz₁ hk₁ => ?_
      dsimp only
      subst htg
      have heH : @LT.lt Nat _ e h.objs.size := Heap.lt_size he'
      have hDH : @LT.lt Nat _ D h.objs.size := by obtain ⟨n, q⟩ := hD'; exact Heap.lt_size q
      have hiH : @LT.lt Nat _ it h.objs.size := by obtain ⟨o, q, _⟩ := hit'; exact Heap.lt_size q
      have hCH : @LT.lt Nat _ env.locals h.objs.size := hn'.lt
      refine wpAny_letOwnedTupleGo_enum he₁ fun h₂ he₂ hs₂ => ?_
      replace hs₂ : Heap.SameBut e h₁ h₂ := hs₂
      have ht₂ : h₂.IsTuple h.objs.size #[.int i tk, .int f tf] := ⟨_, (hs₂.2 _ (Nat.ne_of_gt heH)).trans hp₁, rfl, _, rfl⟩
      have hz₂ : h₂.objs.size = h.objs.size + 1 := hs₂.1.trans hz₁
      refine wpAny_assign_Tuple hR.1 ht₂ rfl rfl fun h₃ hx₃ => ?_
      replace hx₃ : Heap.ExtBut h₂.objs.size h₂ h₃ := hx₃
      have k23 : Keep h₂ h₃ := fun b o q => hx₃ b o (Nat.ne_of_lt (Heap.lt_size q)) q
      have ks3 : KeepS [e, it] h h₃ := fun b o hb q => by
        simp at hb
        exact k23 _ _ (hs₂.extBut b o hb.1 (hk₁ b o hb.1 hb.2 q))
      have hn₃ : h₃.Ns env.locals m' := hn'.at' fun o q => ks3 _ o (by simp; exact ⟨neC.symm, niC.symm⟩) q
      show wpAny _ A (do holding [.int f tf] (assign (.Name "k" q1) env (.int i tk)); do holding [] (assign (.Name "first" q2) env (.int f tf)); pure ()) _ _ _
      refine wpAny_bind (wpAny_holding (wpAny_assign_Name (wpAny_storeName_local V.k hn₃ (fun h₄ hn₄ hs₄ => ?_) V.hp)))
      replace hs₄ : Heap.SameBut env.locals h₃ h₄ := hs₄
      refine wpAny_bind (wpAny_holding (wpAny_assign_Name (wpAny_storeName_local V.first hn₄ (fun h₅ hn₅ hs₅ => wpAny_pure ?_) V.hp)))
      replace hs₅ : Heap.SameBut env.locals h₄ h₅ := hs₅
      have ks5 : KeepS [env.locals, D, e, it] h h₅ := KeepS.trans (ks3.mono (by simp)) (KeepS.trans (same_s hs₄ (by simp)) (same_s hs₅ (by simp)))
      have kg5 : Keep g h₅ := keep_of_s kh ks5 fr
      rw [helt]
      show wpAny _ A _ _ _ { s with heap := h₅, toks := tk + 1 + 1 + 1 }
      refine drawn_elt (s := { s with heap := h₅, toks := tk + 1 + 1 + 1 }) (k := i) (f := f) (tf := tf) (tk := tk) hR (B.keep kg5) V hn₅ (if_pos rfl) (by rw [if_neg (by decide), if_pos rfl]) (cell_keep hc kg5) (hl.keep kg5) hns fun v h₆ tk₆ t₆ k₆ => ?_
      have hD5 : Lst h₅ D vs' := by
        obtain ⟨n, q⟩ := hD'
        exact ⟨n, hs₅.extBut _ _ nDC (hs₄.extBut _ _ nDC (ks3 _ _ (by simp; exact ⟨neD.symm, niD.symm⟩) q))⟩
      have hl' := hv'.length
      refine lst_append (hD5.keep k₆) (by omega) fun h₇ hl₇ hs₇ => ?_
      replace hs₇ : Heap.SameBut D h₆ h₇ := hs₇
      refine ⟨vs.length + 1 - (i + 1), by omega, h₇, _, _, vs' ++ [.int v t₆], ns' ++ [v], i + 1, .int f tf, rfl, ?_, (hn₅.keeps k₆).sameBut hs₇ nDC.symm, hl₇, ?_, by simp [hlen], ?_, ?_, by omega, rfl⟩
      · exact keep_of_s (Keep.trans kg5 k₆) (same_s (S := [D]) hs₇ (by simp)) (by intro b hb; simp at hb; rw [hb]; exact fD)
      · exact hv'.append (.cons v t₆ .nil)
      · have : ((i + 1 : Nat) : Int) = (i : Int) + 1 := by omega
        rw [this]
        exact hs₇.extBut _ _ neD (k₆ _ _ (hs₅.extBut _ _ neC (hs₄.extBut _ _ neC (k23 _ _ he₂))))
      · refine isTupleIter_at hit₁ fun o q => hs₇.extBut _ _ niD (k₆ _ _ (hs₅.extBut _ _ niC (hs₄.extBut _ _ niC (k23 _ _ (hs₂.extBut _ _ nei.symm q)))))
    · have hi' : i = vs.length := by omega
      refine enumT_end hR.1 he' hit' htu (by rw [List.getElem?_toArray]; simp; omega) fun h₁ hx₁ => ?_
      replace hx₁ : Heap.ExtBut it h h₁ := hx₁
      have k1 : KeepS [it] h h₁ := fun b o hb q => hx₁ b o (by simpa using hb) q
      refine hR' h₁ tk m' vs' ns' (keep_of_s kh k1 (by intro b hb; simp at hb; rw [hb]; exact fi)) (hn'.at' fun o q => hx₁ _ o niC.symm q) ?_ hv' (by omega)
      obtain ⟨n, q⟩ := hD'
      exact ⟨n, hx₁ _ _ niD.symm q⟩
  exact codeAny_compStart_list loop (wpAny_pyIter_enum he loop)
end
/-! insertion into sorted lists, over any strict weak order -/
structure Weak {α : Type} (lt : α → α → Bool) : Prop where
  asymm : ∀ a b, lt a b = true → lt b a = false
  trans : ∀ a b c, lt b a = false → lt c b = false → lt c a = false
theorem Weak.tt {α : Type} {lt : α → α → Bool} (W : Weak lt) {a b c : α} (h1 : lt a b = true) (h2 : lt b c = true) : lt a c = true := by
  cases h : lt a c with
  | true => rfl
  | false =>
    have := W.trans c a b h (W.asymm b c h2 ▸ ?_)
    · exact absurd (W.asymm _ _ h2) (by simp_all)
    · have := W.trans b c a (W.asymm _ _ h2) h
      rw [h1] at this; cases this
def insR {α : Type} (lt : α → α → Bool) (x : α) : List α → List α
  | [] => [x]
  | y :: ys => bif lt x y then x :: y :: ys else y :: insR lt x ys
def insL {α : Type} (lt : α → α → Bool) (x : α) : List α → List α
  | [] => [x]
  | y :: ys => bif lt y x then y :: insL lt x ys else x :: y :: ys
def SortedBy {α : Type} (lt : α → α → Bool) (l : List α) : Prop := l.Pairwise fun a b => lt b a = false
section
variable {α : Type} {lt : α → α → Bool}
theorem insR_perm (x : α) : ∀ l, (insR lt x l).Perm (x :: l)
  | [] => .refl _
  | y :: ys => by
    rw [insR]
    cases lt x y with
    | true => exact .refl _
    | false => exact ((insR_perm x ys).cons y).trans (.swap x y ys)
theorem insL_perm (x : α) : ∀ l, (insL lt x l).Perm (x :: l)
  | [] => .refl _
  | y :: ys => by
    rw [insL]
    cases lt y x with
    | false => exact .refl _
    | true => exact ((insL_perm x ys).cons y).trans (.swap x y ys)
theorem insR_sorted (W : Weak lt) (x : α) : ∀ l, SortedBy lt l → SortedBy lt (insR lt x l)
  | [], _ => by simp [insR, SortedBy]
  | y :: ys, h => by
    rw [insR]
    have h' := List.pairwise_cons.mp h
    cases e : lt x y with
    | true =>
      refine List.pairwise_cons.mpr ⟨fun z hz => ?_, h⟩
      rcases List.mem_cons.mp hz with rfl | hz
      · exact W.asymm _ _ e
      · exact W.trans _ _ _ (W.asymm _ _ e) (h'.1 z hz)
    | false =>
      refine List.pairwise_cons.mpr ⟨fun z hz => ?_, insR_sorted W x ys h'.2⟩
      rcases List.mem_cons.mp ((insR_perm x ys).mem_iff.mp hz) with rfl | hz
      · exact e
      · exact h'.1 z hz
theorem insL_sorted (W : Weak lt) (x : α) : ∀ l, SortedBy lt l → SortedBy lt (insL lt x l)
  | [], _ => by simp [insL, SortedBy]
  | y :: ys, h => by
    rw [insL]
    have h' := List.pairwise_cons.mp h
    cases e : lt y x with
    | false =>
      refine List.pairwise_cons.mpr ⟨fun z hz => ?_, h⟩
      rcases List.mem_cons.mp hz with rfl | hz
      · exact e
      · exact W.trans _ _ _ e (h'.1 z hz)
    | true =>
      refine List.pairwise_cons.mpr ⟨fun z hz => ?_, insL_sorted W x ys h'.2⟩
      rcases List.mem_cons.mp ((insL_perm x ys).mem_iff.mp hz) with rfl | hz
      · exact W.asymm _ _ e
      · exact h'.1 z hz
theorem cutR (W : Weak lt) (x : α) : ∀ l, SortedBy lt l → ∃ k, k ≤ l.length ∧ insR lt x l = l.take k ++ x :: l.drop k ∧ ∀ i y, l[i]? = some y → lt x y = decide (k ≤ i)
  | [], _ => ⟨0, Nat.le_refl _, rfl, fun i y e => by simp at e⟩
  | y :: ys, h => by
    have h' := List.pairwise_cons.mp h
    cases e : lt x y with
    | true =>
      refine ⟨0, Nat.zero_le _, by simp [insR, e], fun i z q => ?_⟩
      cases i with
      | zero => simp at q; subst q; simp [e]
      | succ i =>
        rw [List.getElem?_cons_succ] at q
        have hz := List.mem_of_getElem? q
        cases e2 : lt x z with
        | true => simp
        | false =>
          have := W.trans _ _ _ (h'.1 z hz) e2
          rw [e] at this; cases this
    | false =>
      obtain ⟨k, hk, e1, e2⟩ := cutR W x ys h'.2
      refine ⟨k + 1, by simp; omega, by simp [insR, e, e1], fun i z q => ?_⟩
      cases i with
      | zero => simp at q; subst q; simp [e]
      | succ i => rw [List.getElem?_cons_succ] at q; rw [e2 i z q]; simp
theorem cutL (W : Weak lt) (x : α) : ∀ l, SortedBy lt l → ∃ k, k ≤ l.length ∧ insL lt x l = l.take k ++ x :: l.drop k ∧ ∀ i y, l[i]? = some y → lt y x = decide (i < k)
  | [], _ => ⟨0, Nat.le_refl _, rfl, fun i y e => by simp at e⟩
  | y :: ys, h => by
    have h' := List.pairwise_cons.mp h
    cases e : lt y x with
    | false =>
      refine ⟨0, Nat.zero_le _, by simp [insL, e], fun i z q => ?_⟩
      cases i with
      | zero => simp at q; subst q; simp [e]
      | succ i =>
        rw [List.getElem?_cons_succ] at q
        have hz := List.mem_of_getElem? q
        simp
        exact W.trans _ _ _ e (h'.1 z hz)
    | true =>
      obtain ⟨k, hk, e1, e2⟩ := cutL W x ys h'.2
      refine ⟨k + 1, by simp; omega, by simp [insL, e, e1], fun i z q => ?_⟩
      cases i with
      | zero => simp at q; subst q; simp [e]
      | succ i => rw [List.getElem?_cons_succ] at q; rw [e2 i z q]; simp
theorem ins_comm (W : Weak lt) (x y : α) : ∀ l, insR lt x (insL lt y l) = insL lt y (insR lt x l)
  | [] => by simp only [insL, insR]
  | z :: zs => by
    have ih := ins_comm W x y zs
    cases e1 : lt z y with
    | true =>
      cases e2 : lt x z with
      | true =>
        have e3 := W.tt e2 e1
        simp [insL, insR, e1, e2, e3]
      | false => simp [insL, insR, e1, e2, ih]
    | false =>
      cases e2 : lt x z with
      | true =>
        cases e3 : lt x y <;> simp [insL, insR, e1, e2, e3]
      | false =>
        have e3 : lt x y = false := W.trans _ _ _ e1 e2
        simp [insL, insR, e1, e2, e3]
def lineR (lt : α → α → Bool) (l : List α) : List α := l.foldl (fun acc x => insR lt x acc) []
theorem lineR_snoc (l : List α) (x : α) : lineR lt (l ++ [x]) = insR lt x (lineR lt l) := by simp [lineR, List.foldl_append]
theorem insR_foldr (W : Weak lt) (x : α) (acc : List α) : ∀ l : List α, insR lt x (l.foldr (insL lt) acc) = l.foldr (insL lt) (insR lt x acc)
  | [] => rfl
  | y :: ys => by rw [List.foldr_cons, List.foldr_cons, ins_comm W, insR_foldr W x acc ys]
theorem lineL_eq (W : Weak lt) (l : List α) : l.foldr (insL lt) [] = lineR lt l := by
  have : ∀ r : List α, r.reverse.foldr (insL lt) [] = lineR lt r.reverse := by
    intro r
    induction r with
    | nil => rfl
    | cons x xs ih =>
      rw [List.reverse_cons, lineR_snoc, ← ih, insR_foldr W, List.foldr_append]
      rfl
  simpa using this l.reverse
theorem lineR_perm (l : List α) : (lineR lt l).Perm l := by
  have : ∀ r : List α, (lineR lt r.reverse).Perm r.reverse := by
    intro r
    induction r with
    | nil => exact .refl _
    | cons x xs ih =>
      rw [List.reverse_cons, lineR_snoc]
      exact (insR_perm x _).trans ((ih.cons x).trans (List.perm_append_comm (l₁ := [x])))
  simpa using this l.reverse
theorem lineR_sorted (W : Weak lt) (l : List α) : SortedBy lt (lineR lt l) := by
  have : ∀ r : List α, SortedBy lt (lineR lt r.reverse) := by
    intro r
    induction r with
    | nil => simp [lineR, SortedBy]
    | cons x xs ih =>
      rw [List.reverse_cons, lineR_snoc]
      exact insR_sorted W x _ ih
  simpa using this l.reverse
/-- sorted lists with the same members are the same -/
theorem sorted_unique (anti : ∀ a b, a ∈ l → b ∈ l → lt a b = false → lt b a = false → a = b) : ∀ {l' : List α}, l.Perm l' → SortedBy lt l → SortedBy lt l' → l = l' := by
  intro l' hp h1 h2
  exact hp.eq_of_pairwise (le := fun a b => lt b a = false) (fun a b ha hb h3 h4 => anti a b ha (hp.mem_iff.mpr hb) h4 h3) h1 h2
end
/-! the sweep, plainly -/
def stepsG {α : Type} (wt : α → Nat) (m : Nat) : Nat → List α → List (α × Nat)
  | _, [] => []
  | p, x :: xs => (x, (p + wt x) % m) :: stepsG wt m ((p + wt x) % m) xs
def pairLt {α : Type} (u v : α × Nat) : Bool := decide (u.2 < v.2)
def sweepG {α : Type} (wt : α → Nat) (m : Nat) (row : List α) : List α := (lineR pairLt (stepsG wt m 0 row)).map (·.1)
def spreadG {α : Type} (x : α) (row : List α) : List (List α) := (List.range (row.length + 1)).map fun k => row.take k ++ x :: row.drop k
def stepG {α : Type} (rows : List (List α)) (x : α) : List (List α) := rows.flatMap (spreadG x)
def ordersG {α : Type} (ns : List α) : List (List α) := ns.foldl stepG [[]]
theorem insR_map {α β : Type} (f : α → β) (lt : α → α → Bool) (lt' : β → β → Bool) (h : ∀ u v, lt' (f u) (f v) = lt u v) (x : α) : ∀ l, insR lt' (f x) (l.map f) = (insR lt x l).map f
  | [] => rfl
  | y :: ys => by
    rw [List.map_cons, insR, insR, h]
    cases lt x y with
    | true => rfl
    | false => simp [insR_map f lt lt' h x ys]
theorem lineR_map {α β : Type} (f : α → β) (lt : α → α → Bool) (lt' : β → β → Bool) (h : ∀ u v, lt' (f u) (f v) = lt u v) (l : List α) : lineR lt' (l.map f) = (lineR lt l).map f := by
  have : ∀ r : List α, lineR lt' (r.reverse.map f) = (lineR lt r.reverse).map f := by
    intro r
    induction r with
    | nil => rfl
    | cons x xs ih => rw [List.reverse_cons, List.map_append, List.map_cons, List.map_nil, lineR_snoc, lineR_snoc, ih, insR_map f lt lt' h]
  simpa using this l.reverse
theorem stepsG_map {α β : Type} (f : α → β) (wt : β → Nat) (m : Nat) : ∀ (p : Nat) (l : List α), stepsG wt m p (l.map f) = (stepsG (fun x => wt (f x)) m p l).map fun u => (f u.1, u.2)
  | _, [] => rfl
  | p, x :: xs => by rw [List.map_cons, stepsG, stepsG, List.map_cons, stepsG_map f wt m _ xs]
theorem sweepG_map {α β : Type} (f : α → β) (wt : β → Nat) (m : Nat) (l : List α) : sweepG wt m (l.map f) = (sweepG (fun x => wt (f x)) m l).map f := by
  unfold sweepG
  rw [stepsG_map, lineR_map (fun u : α × Nat => (f u.1, u.2)) pairLt pairLt (fun _ _ => rfl)]
  simp
theorem stepsG_congr {α : Type} (wt wt' : α → Nat) (m : Nat) : ∀ (p : Nat) (l : List α), (∀ x ∈ l, wt x = wt' x) → stepsG wt m p l = stepsG wt' m p l
  | _, [], _ => rfl
  | p, x :: xs, h => by rw [stepsG, stepsG, h x (by simp), stepsG_congr wt wt' m _ xs fun y hy => h y (by simp [hy])]
theorem spreadG_map {α β : Type} (f : α → β) (x : α) (row : List α) : spreadG (f x) (row.map f) = (spreadG x row).map (List.map f) := by simp [spreadG]
theorem stepG_map {α β : Type} (f : α → β) (rows : List (List α)) (x : α) : stepG (rows.map (List.map f)) (f x) = (stepG rows x).map (List.map f) := by
  simp [stepG, List.flatMap_map, List.map_flatMap, spreadG_map]
theorem ordersG_map {α β : Type} (f : α → β) (l : List α) : ordersG (l.map f) = (ordersG l).map (List.map f) := by
  have : ∀ (l : List α) (rows : List (List α)), (l.map f).foldl stepG (rows.map (List.map f)) = (l.foldl stepG rows).map (List.map f) := by
    intro l
    induction l with
    | nil => intro rows; rfl
    | cons x xs ih => intro rows; rw [List.map_cons, List.foldl_cons, List.foldl_cons, stepG_map, ih]
  exact this l [[]]

/-! four letters: the line as a number -/
def bitc (p q : Nat) : Nat := 1 - (p - q)
theorem bitc_le {p q : Nat} (h : p ≤ q) : bitc p q = 1 := by unfold bitc; omega
theorem bitc_gt {p q : Nat} (h : ¬ p ≤ q) : bitc p q = 0 := by unfold bitc; omega
def code4 (a b c d p q r s : Nat) : Nat :=
  (a <<< (2 * (bitc p q + bitc p r + bitc p s))) + (b <<< (2 * ((1 - bitc p q) + bitc q r + bitc q s))) + (c <<< (2 * ((1 - bitc p r) + (1 - bitc q r) + bitc r s))) + (d <<< (2 * ((1 - bitc p s) + (1 - bitc q s) + (1 - bitc r s))))
def dec4 (n : Nat) : List Nat := [n / 64 % 4, n / 16 % 4, n / 4 % 4, n % 4]
theorem code_ok {a b c d : Nat} (ha : a < 4) (hb : b < 4) (hc : c < 4) (hd : d < 4) (p q r s : Nat) : (lineR pairLt [(a, p), (b, q), (c, r), (d, s)]).map (·.1) = dec4 (code4 a b c d p q r s) := by
  have key : ∀ u v : Nat, ¬ u ≤ v ↔ v < u := fun u v => Nat.not_le
  by_cases h1 : p ≤ q <;> by_cases h2 : p ≤ r <;> by_cases h3 : p ≤ s <;> by_cases h4 : q ≤ r <;> by_cases h5 : q ≤ s <;> by_cases h6 : r ≤ s <;>
    first
    | (exfalso; omega)
    | (simp only [code4, bitc_le, bitc_gt, h1, h2, h3, h4, h5, h6, not_false_eq_true]
       simp only [← Nat.not_le, lineR, List.foldl_cons, List.foldl_nil, insR, pairLt, h1, h2, h3, h4, h5, h6, decide_true, decide_false, not_true_eq_false, not_false_eq_true, cond_true, cond_false, List.map_cons, List.map_nil, dec4, Nat.shiftLeft_eq, List.cons.injEq, and_true]
       simp
       omega)
def one4 (m a b c d x y z u : Nat) : Nat := code4 a b c d (x % m) ((x + y) % m) ((x + y + z) % m) ((x + y + z + u) % m)
def rf (a b c d : Nat) : Nat → Nat
  | 0 => a | 1 => b | 2 => c | _ => d
def perms4 : List (List Nat) := [[0,1,2,3],[0,1,3,2],[0,2,1,3],[0,2,3,1],[0,3,1,2],[0,3,2,1],[1,0,2,3],[1,0,3,2],[1,2,0,3],[1,2,3,0],[1,3,0,2],[1,3,2,0],[2,0,1,3],[2,0,3,1],[2,1,0,3],[2,1,3,0],[2,3,0,1],[2,3,1,0],[3,0,1,2],[3,0,2,1],[3,1,0,2],[3,1,2,0],[3,2,0,1],[3,2,1,0]]
def codes4 (m a b c d : Nat) : List Nat := [one4 m 0 1 2 3 a b c d,one4 m 0 1 3 2 a b d c,one4 m 0 2 1 3 a c b d,one4 m 0 2 3 1 a c d b,one4 m 0 3 1 2 a d b c,one4 m 0 3 2 1 a d c b,one4 m 1 0 2 3 b a c d,one4 m 1 0 3 2 b a d c,one4 m 1 2 0 3 b c a d,one4 m 1 2 3 0 b c d a,one4 m 1 3 0 2 b d a c,one4 m 1 3 2 0 b d c a,one4 m 2 0 1 3 c a b d,one4 m 2 0 3 1 c a d b,one4 m 2 1 0 3 c b a d,one4 m 2 1 3 0 c b d a,one4 m 2 3 0 1 c d a b,one4 m 2 3 1 0 c d b a,one4 m 3 0 1 2 d a b c,one4 m 3 0 2 1 d a c b,one4 m 3 1 0 2 d b a c,one4 m 3 1 2 0 d b c a,one4 m 3 2 0 1 d c a b,one4 m 3 2 1 0 d c b a]
def allB : Nat → (Nat → Bool) → Bool
  | 0, _ => true
  | n + 1, f => f n && allB n f
theorem allB_get {f : Nat → Bool} : ∀ {n : Nat}, allB n f = true → ∀ i, i < n → f i = true
  | 0, _, i, h => absurd h (by omega)
  | n + 1, e, i, h => by
    rw [allB, Bool.and_eq_true] at e
    by_cases q : i = n
    · rw [q]; exact e.1
    · exact allB_get e.2 i (by omega)
def chk (m a b c d : Nat) : Bool := Nat.beq (Nat.lor (2 ^ one4 m 0 1 2 3 a b c d) (Nat.lor (2 ^ one4 m 0 1 3 2 a b d c) (Nat.lor (2 ^ one4 m 0 2 1 3 a c b d) (Nat.lor (2 ^ one4 m 0 2 3 1 a c d b) (Nat.lor (2 ^ one4 m 0 3 1 2 a d b c) (Nat.lor (2 ^ one4 m 0 3 2 1 a d c b) (Nat.lor (2 ^ one4 m 1 0 2 3 b a c d) (Nat.lor (2 ^ one4 m 1 0 3 2 b a d c) (Nat.lor (2 ^ one4 m 1 2 0 3 b c a d) (Nat.lor (2 ^ one4 m 1 2 3 0 b c d a) (Nat.lor (2 ^ one4 m 1 3 0 2 b d a c) (Nat.lor (2 ^ one4 m 1 3 2 0 b d c a) (Nat.lor (2 ^ one4 m 2 0 1 3 c a b d) (Nat.lor (2 ^ one4 m 2 0 3 1 c a d b) (Nat.lor (2 ^ one4 m 2 1 0 3 c b a d) (Nat.lor (2 ^ one4 m 2 1 3 0 c b d a) (Nat.lor (2 ^ one4 m 2 3 0 1 c d a b) (Nat.lor (2 ^ one4 m 2 3 1 0 c d b a) (Nat.lor (2 ^ one4 m 3 0 1 2 d a b c) (Nat.lor (2 ^ one4 m 3 0 2 1 d a c b) (Nat.lor (2 ^ one4 m 3 1 0 2 d b a c) (Nat.lor (2 ^ one4 m 3 1 2 0 d b c a) (Nat.lor (2 ^ one4 m 3 2 0 1 d c a b) (2 ^ (one4 m 3 2 1 0 d c b a))))))))))))))))))))))))) 485386001420549718337049463747045353598230354166587285496597388984320
def chkAt (m d : Nat) : Bool := allB (d + 1) fun c => allB (c + 1) fun b => allB (b + 1) fun a => chk m a b c d
theorem chk_1_at_0 : chkAt 1 0 = true := by decide +kernel
theorem chk_1 : ∀ d, d < 1 → chkAt 1 d = true := fun d h => match d, h with
  | 0, _ => chk_1_at_0
  | d + 1, h => absurd h (by omega)
theorem chk_2_at_0 : chkAt 2 0 = true := by decide +kernel
theorem chk_2_at_1 : chkAt 2 1 = true := by decide +kernel
theorem chk_2 : ∀ d, d < 2 → chkAt 2 d = true := fun d h => match d, h with
  | 0, _ => chk_2_at_0
  | 1, _ => chk_2_at_1
  | d + 2, h => absurd h (by omega)
theorem chk_3_at_0 : chkAt 3 0 = true := by decide +kernel
theorem chk_3_at_1 : chkAt 3 1 = true := by decide +kernel
theorem chk_3_at_2 : chkAt 3 2 = true := by decide +kernel
theorem chk_3 : ∀ d, d < 3 → chkAt 3 d = true := fun d h => match d, h with
  | 0, _ => chk_3_at_0
  | 1, _ => chk_3_at_1
  | 2, _ => chk_3_at_2
  | d + 3, h => absurd h (by omega)
theorem chk_4_at_0 : chkAt 4 0 = true := by decide +kernel
theorem chk_4_at_1 : chkAt 4 1 = true := by decide +kernel
theorem chk_4_at_2 : chkAt 4 2 = true := by decide +kernel
theorem chk_4_at_3 : chkAt 4 3 = true := by decide +kernel
theorem chk_4 : ∀ d, d < 4 → chkAt 4 d = true := fun d h => match d, h with
  | 0, _ => chk_4_at_0
  | 1, _ => chk_4_at_1
  | 2, _ => chk_4_at_2
  | 3, _ => chk_4_at_3
  | d + 4, h => absurd h (by omega)
theorem chk_5_at_0 : chkAt 5 0 = true := by decide +kernel
theorem chk_5_at_1 : chkAt 5 1 = true := by decide +kernel
theorem chk_5_at_2 : chkAt 5 2 = true := by decide +kernel
theorem chk_5_at_3 : chkAt 5 3 = true := by decide +kernel
theorem chk_5_at_4 : chkAt 5 4 = true := by decide +kernel
theorem chk_5 : ∀ d, d < 5 → chkAt 5 d = true := fun d h => match d, h with
  | 0, _ => chk_5_at_0
  | 1, _ => chk_5_at_1
  | 2, _ => chk_5_at_2
  | 3, _ => chk_5_at_3
  | 4, _ => chk_5_at_4
  | d + 5, h => absurd h (by omega)
theorem chk_6_at_0 : chkAt 6 0 = true := by decide +kernel
theorem chk_6_at_1 : chkAt 6 1 = true := by decide +kernel
theorem chk_6_at_2 : chkAt 6 2 = true := by decide +kernel
theorem chk_6_at_3 : chkAt 6 3 = true := by decide +kernel
theorem chk_6_at_4 : chkAt 6 4 = true := by decide +kernel
theorem chk_6_at_5 : chkAt 6 5 = true := by decide +kernel
theorem chk_6 : ∀ d, d < 6 → chkAt 6 d = true := fun d h => match d, h with
  | 0, _ => chk_6_at_0
  | 1, _ => chk_6_at_1
  | 2, _ => chk_6_at_2
  | 3, _ => chk_6_at_3
  | 4, _ => chk_6_at_4
  | 5, _ => chk_6_at_5
  | d + 6, h => absurd h (by omega)
theorem chk_7_at_0 : chkAt 7 0 = true := by decide +kernel
theorem chk_7_at_1 : chkAt 7 1 = true := by decide +kernel
theorem chk_7_at_2 : chkAt 7 2 = true := by decide +kernel
theorem chk_7_at_3 : chkAt 7 3 = true := by decide +kernel
theorem chk_7_at_4 : chkAt 7 4 = true := by decide +kernel
theorem chk_7_at_5 : chkAt 7 5 = true := by decide +kernel
theorem chk_7_at_6 : chkAt 7 6 = true := by decide +kernel
theorem chk_7 : ∀ d, d < 7 → chkAt 7 d = true := fun d h => match d, h with
  | 0, _ => chk_7_at_0
  | 1, _ => chk_7_at_1
  | 2, _ => chk_7_at_2
  | 3, _ => chk_7_at_3
  | 4, _ => chk_7_at_4
  | 5, _ => chk_7_at_5
  | 6, _ => chk_7_at_6
  | d + 7, h => absurd h (by omega)
theorem chk_8_at_0 : chkAt 8 0 = true := by decide +kernel
theorem chk_8_at_1 : chkAt 8 1 = true := by decide +kernel
theorem chk_8_at_2 : chkAt 8 2 = true := by decide +kernel
theorem chk_8_at_3 : chkAt 8 3 = true := by decide +kernel
theorem chk_8_at_4 : chkAt 8 4 = true := by decide +kernel
theorem chk_8_at_5 : chkAt 8 5 = true := by decide +kernel
theorem chk_8_at_6 : chkAt 8 6 = true := by decide +kernel
theorem chk_8_at_7 : chkAt 8 7 = true := by decide +kernel
theorem chk_8 : ∀ d, d < 8 → chkAt 8 d = true := fun d h => match d, h with
  | 0, _ => chk_8_at_0
  | 1, _ => chk_8_at_1
  | 2, _ => chk_8_at_2
  | 3, _ => chk_8_at_3
  | 4, _ => chk_8_at_4
  | 5, _ => chk_8_at_5
  | 6, _ => chk_8_at_6
  | 7, _ => chk_8_at_7
  | d + 8, h => absurd h (by omega)
theorem chk_9_at_0 : chkAt 9 0 = true := by decide +kernel
theorem chk_9_at_1 : chkAt 9 1 = true := by decide +kernel
theorem chk_9_at_2 : chkAt 9 2 = true := by decide +kernel
theorem chk_9_at_3 : chkAt 9 3 = true := by decide +kernel
theorem chk_9_at_4 : chkAt 9 4 = true := by decide +kernel
theorem chk_9_at_5 : chkAt 9 5 = true := by decide +kernel
theorem chk_9_at_6 : chkAt 9 6 = true := by decide +kernel
theorem chk_9_at_7 : chkAt 9 7 = true := by decide +kernel
theorem chk_9_at_8 : chkAt 9 8 = true := by decide +kernel
theorem chk_9 : ∀ d, d < 9 → chkAt 9 d = true := fun d h => match d, h with
  | 0, _ => chk_9_at_0
  | 1, _ => chk_9_at_1
  | 2, _ => chk_9_at_2
  | 3, _ => chk_9_at_3
  | 4, _ => chk_9_at_4
  | 5, _ => chk_9_at_5
  | 6, _ => chk_9_at_6
  | 7, _ => chk_9_at_7
  | 8, _ => chk_9_at_8
  | d + 9, h => absurd h (by omega)
theorem chk_10_at_0 : chkAt 10 0 = true := by decide +kernel
theorem chk_10_at_1 : chkAt 10 1 = true := by decide +kernel
theorem chk_10_at_2 : chkAt 10 2 = true := by decide +kernel
theorem chk_10_at_3 : chkAt 10 3 = true := by decide +kernel
theorem chk_10_at_4 : chkAt 10 4 = true := by decide +kernel
theorem chk_10_at_5 : chkAt 10 5 = true := by decide +kernel
theorem chk_10_at_6 : chkAt 10 6 = true := by decide +kernel
theorem chk_10_at_7 : chkAt 10 7 = true := by decide +kernel
theorem chk_10_at_8 : chkAt 10 8 = true := by decide +kernel
theorem chk_10_at_9 : chkAt 10 9 = true := by decide +kernel
theorem chk_10 : ∀ d, d < 10 → chkAt 10 d = true := fun d h => match d, h with
  | 0, _ => chk_10_at_0
  | 1, _ => chk_10_at_1
  | 2, _ => chk_10_at_2
  | 3, _ => chk_10_at_3
  | 4, _ => chk_10_at_4
  | 5, _ => chk_10_at_5
  | 6, _ => chk_10_at_6
  | 7, _ => chk_10_at_7
  | 8, _ => chk_10_at_8
  | 9, _ => chk_10_at_9
  | d + 10, h => absurd h (by omega)
theorem chk_11_at_0 : chkAt 11 0 = true := by decide +kernel
theorem chk_11_at_1 : chkAt 11 1 = true := by decide +kernel
theorem chk_11_at_2 : chkAt 11 2 = true := by decide +kernel
theorem chk_11_at_3 : chkAt 11 3 = true := by decide +kernel
theorem chk_11_at_4 : chkAt 11 4 = true := by decide +kernel
theorem chk_11_at_5 : chkAt 11 5 = true := by decide +kernel
theorem chk_11_at_6 : chkAt 11 6 = true := by decide +kernel
theorem chk_11_at_7 : chkAt 11 7 = true := by decide +kernel
theorem chk_11_at_8 : chkAt 11 8 = true := by decide +kernel
theorem chk_11_at_9 : chkAt 11 9 = true := by decide +kernel
theorem chk_11_at_10 : chkAt 11 10 = true := by decide +kernel
theorem chk_11 : ∀ d, d < 11 → chkAt 11 d = true := fun d h => match d, h with
  | 0, _ => chk_11_at_0
  | 1, _ => chk_11_at_1
  | 2, _ => chk_11_at_2
  | 3, _ => chk_11_at_3
  | 4, _ => chk_11_at_4
  | 5, _ => chk_11_at_5
  | 6, _ => chk_11_at_6
  | 7, _ => chk_11_at_7
  | 8, _ => chk_11_at_8
  | 9, _ => chk_11_at_9
  | 10, _ => chk_11_at_10
  | d + 11, h => absurd h (by omega)
theorem chk_12_at_0 : chkAt 12 0 = true := by decide +kernel
theorem chk_12_at_1 : chkAt 12 1 = true := by decide +kernel
theorem chk_12_at_2 : chkAt 12 2 = true := by decide +kernel
theorem chk_12_at_3 : chkAt 12 3 = true := by decide +kernel
theorem chk_12_at_4 : chkAt 12 4 = true := by decide +kernel
theorem chk_12_at_5 : chkAt 12 5 = true := by decide +kernel
theorem chk_12_at_6 : chkAt 12 6 = true := by decide +kernel
theorem chk_12_at_7 : chkAt 12 7 = true := by decide +kernel
theorem chk_12_at_8 : chkAt 12 8 = true := by decide +kernel
theorem chk_12_at_9 : chkAt 12 9 = true := by decide +kernel
theorem chk_12_at_10 : chkAt 12 10 = true := by decide +kernel
theorem chk_12_at_11 : chkAt 12 11 = true := by decide +kernel
theorem chk_12 : ∀ d, d < 12 → chkAt 12 d = true := fun d h => match d, h with
  | 0, _ => chk_12_at_0
  | 1, _ => chk_12_at_1
  | 2, _ => chk_12_at_2
  | 3, _ => chk_12_at_3
  | 4, _ => chk_12_at_4
  | 5, _ => chk_12_at_5
  | 6, _ => chk_12_at_6
  | 7, _ => chk_12_at_7
  | 8, _ => chk_12_at_8
  | 9, _ => chk_12_at_9
  | 10, _ => chk_12_at_10
  | 11, _ => chk_12_at_11
  | d + 12, h => absurd h (by omega)
def lorL : List Nat → Nat
  | [] => 0
  | [x] => 2 ^ x
  | x :: y :: l => Nat.lor (2 ^ x) (lorL (y :: l))
theorem mem_of_lorL {i : Nat} : ∀ l : List Nat, (lorL l).testBit i = true → i ∈ l
  | [], h => by simp [lorL] at h
  | [x], h => by
    rw [lorL, Nat.testBit_two_pow] at h
    simp at h
    simp [h]
  | x :: y :: l, h => by
    rw [lorL] at h
    change (2 ^ x ||| lorL (y :: l)).testBit i = true at h
    rw [Nat.testBit_or, Nat.testBit_two_pow, Bool.or_eq_true] at h
    rcases h with h | h
    · simp at h; simp [h]
    · exact List.mem_cons_of_mem _ (mem_of_lorL _ h)
theorem chk_eq (m a b c d : Nat) : chk m a b c d = Nat.beq (lorL (codes4 m a b c d)) 485386001420549718337049463747045353598230354166587285496597388984320 := by rfl
theorem perm_of_sub {α : Type} [BEq α] [LawfulBEq α] : ∀ (l l' : List α), l.Nodup → (∀ x ∈ l, x ∈ l') → l'.length ≤ l.length → l.Perm l'
  | [], l', _, _, h => by
    have : l' = [] := List.length_eq_zero_iff.mp (by simpa using h)
    rw [this]
  | x :: xs, l', hn, hs, hl => by
    have hx : x ∈ l' := hs x (by simp)
    have hn' := List.nodup_cons.mp hn
    refine (List.Perm.cons x (perm_of_sub xs (l'.erase x) hn'.2 (fun y hy => ?_) ?_)).trans (List.perm_cons_erase hx).symm
    · refine (List.mem_erase_of_ne fun q => ?_).mpr (hs y (by simp [hy]))
      rw [q] at hy; exact hn'.1 hy
    · rw [List.length_erase_of_mem hx]; simp at hl; omega
def full4 : List Nat := perms4.map fun p => p.foldl (fun acc x => 4 * acc + x) 0
theorem codes_perm {m a b c d : Nat} (h : chk m a b c d = true) : (codes4 m a b c d).Perm full4 := by
  refine (perm_of_sub full4 (codes4 m a b c d) (by decide +kernel) (fun x hx => mem_of_lorL _ ?_) (by simp [codes4, full4, perms4])).symm
  rw [chk_eq] at h
  rw [Nat.eq_of_beq_eq_true h]
  revert x
  decide +kernel
theorem sweep4 (wt : Nat → Nat) (m : Nat) {i j k l : Nat} (hi : i < 4) (hj : j < 4) (hk : k < 4) (hl : l < 4) : sweepG wt m [i, j, k, l] = dec4 (one4 m i j k l (wt i) (wt j) (wt k) (wt l)) := by
  unfold one4
  rw [← code_ok hi hj hk hl]
  simp [sweepG, stepsG]
theorem sweep_codes (m a b c d : Nat) : perms4.map (sweepG (rf a b c d) m) = (codes4 m a b c d).map dec4 := by
  simp [perms4, codes4, sweep4, rf]
theorem full_dec : full4.map dec4 = perms4 := by decide +kernel
theorem perms_sweep {m a b c d : Nat} (h : chk m a b c d = true) : (perms4.map (sweepG (rf a b c d) m)).Perm perms4 := by
  have := (codes_perm h).map dec4
  rwa [full_dec, ← sweep_codes] at this
theorem chk_any {m : Nat} (h1 : 1 ≤ m) (h2 : m ≤ 12) : ∀ d, d < m → chkAt m d = true := by
  have : m = 1 ∨ m = 2 ∨ m = 3 ∨ m = 4 ∨ m = 5 ∨ m = 6 ∨ m = 7 ∨ m = 8 ∨ m = 9 ∨ m = 10 ∨ m = 11 ∨ m = 12 := by omega
  rcases this with rfl | rfl | rfl | rfl | rfl | rfl | rfl | rfl | rfl | rfl | rfl | rfl
  · exact chk_1
  · exact chk_2
  · exact chk_3
  · exact chk_4
  · exact chk_5
  · exact chk_6
  · exact chk_7
  · exact chk_8
  · exact chk_9
  · exact chk_10
  · exact chk_11
  · exact chk_12
theorem chk_get {m : Nat} (hm : 1 ≤ m) (hm' : m ≤ 12) {a b c d : Nat} (h1 : a ≤ b) (h2 : b ≤ c) (h3 : c ≤ d) (h4 : d < m) : chk m a b c d = true :=
  allB_get (allB_get (allB_get (chk_any hm hm' d h4) c (by omega)) b (by omega)) a (by omega)
/-! from places to letters -/
def pick {α : Type} (a b c d : α) : Nat → α
  | 0 => a | 1 => b | 2 => c | _ => d
theorem orders_pick {α : Type} (a b c d : α) (i j k l : Nat) : ordersG [pick a b c d i, pick a b c d j, pick a b c d k, pick a b c d l] = (ordersG [i, j, k, l]).map (List.map (pick a b c d)) := ordersG_map (pick a b c d) [i, j, k, l]
theorem orders4 : (ordersG [0, 1, 2, 3]).Perm perms4 := by decide +kernel
section
variable {α : Type} (wt : α → Nat) (m : Nat)
def Law4 (a b c d : α) : Prop := ((ordersG [a, b, c, d]).map (sweepG wt m)).Perm (ordersG [a, b, c, d])
theorem law4_sorted {a b c d : α} (hm : 1 ≤ m) (hm' : m ≤ 12) (h1 : wt a ≤ wt b) (h2 : wt b ≤ wt c) (h3 : wt c ≤ wt d) (h4 : wt d < m) : Law4 wt m a b c d := by
  have e : ordersG [a, b, c, d] = (ordersG [0, 1, 2, 3]).map (List.map (pick a b c d)) := orders_pick a b c d 0 1 2 3
  have ew : (fun i => wt (pick a b c d i)) = rf (wt a) (wt b) (wt c) (wt d) := by
    funext i
    match i with
    | 0 => rfl
    | 1 => rfl
    | 2 => rfl
    | _ + 3 => rfl
  unfold Law4
  rw [e, List.map_map]
  have e2 : sweepG wt m ∘ List.map (pick a b c d) = List.map (pick a b c d) ∘ sweepG (rf (wt a) (wt b) (wt c) (wt d)) m := by
    funext p
    show sweepG wt m (p.map (pick a b c d)) = _
    rw [sweepG_map, ew]; rfl
  rw [e2, ← List.map_map]
  refine List.Perm.map _ ?_
  exact ((orders4.map _).trans (perms_sweep (chk_get hm hm' h1 h2 h3 h4))).trans orders4.symm
theorem law4_swap {a b c d a' b' c' d' : α} (h : (ordersG [a', b', c', d']).Perm (ordersG [a, b, c, d])) (x : Law4 wt m a b c d) : Law4 wt m a' b' c' d' :=
  ((h.map _).trans x).trans h.symm
theorem sw01 (a b c d : α) : (ordersG [b, a, c, d]).Perm (ordersG [a, b, c, d]) := by
  have e : ordersG [b, a, c, d] = _ := orders_pick a b c d 1 0 2 3
  have e' : ordersG [a, b, c, d] = _ := orders_pick a b c d 0 1 2 3
  rw [e, e']
  exact List.Perm.map _ (by decide +kernel)
theorem sw12 (a b c d : α) : (ordersG [a, c, b, d]).Perm (ordersG [a, b, c, d]) := by
  have e : ordersG [a, c, b, d] = _ := orders_pick a b c d 0 2 1 3
  have e' : ordersG [a, b, c, d] = _ := orders_pick a b c d 0 1 2 3
  rw [e, e']
  exact List.Perm.map _ (by decide +kernel)
theorem sw23 (a b c d : α) : (ordersG [a, b, d, c]).Perm (ordersG [a, b, c, d]) := by
  have e : ordersG [a, b, d, c] = _ := orders_pick a b c d 0 1 3 2
  have e' : ordersG [a, b, c, d] = _ := orders_pick a b c d 0 1 2 3
  rw [e, e']
  exact List.Perm.map _ (by decide +kernel)
theorem law4 (hm : 1 ≤ m) (hm' : m ≤ 12) (hw : ∀ x, wt x < m) (a b c d : α) : Law4 wt m a b c d := by
  have q3 : ∀ a b c d : α, wt b ≤ wt c → wt c ≤ wt d → Law4 wt m a b c d := by
    intro a b c d h1 h2
    by_cases e1 : wt a ≤ wt b
    · exact law4_sorted wt m hm hm' e1 h1 h2 (hw d)
    refine law4_swap wt m (sw01 b a c d) ?_
    by_cases e2 : wt a ≤ wt c
    · exact law4_sorted wt m hm hm' (by omega) e2 h2 (hw d)
    refine law4_swap wt m (sw12 b c a d) ?_
    by_cases e3 : wt a ≤ wt d
    · exact law4_sorted wt m hm hm' h1 (by omega) e3 (hw d)
    refine law4_swap wt m (sw23 b c d a) ?_
    exact law4_sorted wt m hm hm' h1 h2 (by omega) (hw a)
  have q2 : ∀ a b c d : α, wt c ≤ wt d → Law4 wt m a b c d := by
    intro a b c d h2
    by_cases e2 : wt b ≤ wt c
    · exact q3 a b c d e2 h2
    refine law4_swap wt m (sw12 a c b d) ?_
    by_cases e3 : wt b ≤ wt d
    · exact q3 a c b d (by omega) e3
    refine law4_swap wt m (sw23 a c d b) ?_
    exact q3 a c d b h2 (by omega)
  by_cases e3 : wt c ≤ wt d
  · exact q2 a b c d e3
  refine law4_swap wt m (sw23 a b d c) ?_
  exact q2 a b d c (by omega)
end
/-- steps are ordered by their place -/
def kLt (u v : List Int) : Bool := decide (u.getD 1 0 < v.getD 1 0)
theorem kLt_weak : Weak kLt := ⟨fun a b h => by simp [kLt] at h ⊢; omega, fun a b c h1 h2 => by simp [kLt] at h1 h2 ⊢; omega⟩
theorem llt_weak : Weak llt := ⟨llt_asymm, llt_trans⟩
def Pairs (nss : List (List Int)) : Prop := ∀ ns ∈ nss, ∃ x y, ns = [x, y]
theorem rows_ins {h h' : Heap} {a t : Addr} {vs : List Value} {nss : List (List Int)} {ns : List Int} {k : Nat} (hl : Lst h a vs) (hr : Rows h vs nss) (ht : ITup h t ns) (kb : KeepBut a h h') : Rows h' (ins k (.ref t) vs) (nss.take k ++ ns :: nss.drop k) := by
  have no : ∀ b ∈ [a], NoTup h b := by intro b hb; simp at hb; rw [hb]; exact noTup_lst hl
  have hr' := hr.keepS (KeepBut.s kb (by simp)) no
  have ht' := ht.keepS (KeepBut.s kb (by simp)) no
  exact (hr'.take k).append (.cons ht' (hr'.drop k))
section
variable {w : World} {A : Around} {E : Value → Shared → Prop} {s : Shared} {mg mb : Str → Option Value} {a t kf : Addr} {vs : List Value} {nss : List (List Int)} {x0 y0 : Int} {ns : List Int} {n : Nat} {Q : Value → Shared → Prop}
theorem ir_pair (B : Base w mg mb s.heap) (hR : Room (n + 2) A) (hl : Lst s.heap a vs) (hr : Rows s.heap vs nss) (hp : Pairs nss) (hs : SortedBy kLt nss) (hsz : vs.length < 1000) (hf : IsFn s.heap kf)
    (hkey : ∀ n t x y, ITup s.heap t [x, y] → KeyOf w n s.heap kf (.ref t) y) (ht : ITup s.heap t [x0, y0])
    (hQ : ∀ h' tk vs', KeepBut a s.heap h' → Lst h' a vs' → Rows h' vs' (insR kLt [x0, y0] nss) → Q .none { s with heap := h', toks := tk }) :
    wpAny (model PySem.Challenge.rw_rs0001_01.row.prog w) A (call (.ref 23) [.ref a, .ref t] [("key", .ref kf)]) Q E s := by
  obtain ⟨k, hk, e1, e2⟩ := cutR kLt_weak [x0, y0] nss hs
  have hlen := hr.length
  refine ir_key (n := n) (k := k) B hR hl hsz (by omega) hf (hkey _ _ _ _ ht) (fun i v hv => ?_) fun h' tk kb hl' => ?_
  · obtain ⟨b, ms, rfl, hms, hb⟩ := hr.get hv
    obtain ⟨x, y, rfl⟩ := hp ms (List.mem_of_getElem? hms)
    refine ⟨y, hkey _ _ _ _ hb, ?_⟩
    exact e2 i _ hms
  · exact hQ h' tk _ kb hl' (e1 ▸ rows_ins hl hr ht kb)
theorem il_pair (B : Base w mg mb s.heap) (hR : Room (n + 2) A) (hl : Lst s.heap a vs) (hr : Rows s.heap vs nss) (hp : Pairs nss) (hs : SortedBy kLt nss) (hsz : vs.length < 1000) (hf : IsFn s.heap kf)
    (hkey : ∀ n t x y, ITup s.heap t [x, y] → KeyOf w n s.heap kf (.ref t) y) (ht : ITup s.heap t [x0, y0])
    (hQ : ∀ h' tk vs', KeepBut a s.heap h' → Lst h' a vs' → Rows h' vs' (insL kLt [x0, y0] nss) → Q .none { s with heap := h', toks := tk }) :
    wpAny (model PySem.Challenge.rw_rs0001_01.row.prog w) A (call (.ref 41) [.ref a, .ref t] [("key", .ref kf)]) Q E s := by
  obtain ⟨k, hk, e1, e2⟩ := cutL kLt_weak [x0, y0] nss hs
  have hlen := hr.length
  refine il_key (n := n) (k := k) B hR hl hsz (by omega) hf (hkey _ _ _ _ ht) (fun i v hv => ?_) fun h' tk kb hl' => ?_
  · obtain ⟨b, ms, rfl, hms, hb⟩ := hr.get hv
    obtain ⟨x, y, rfl⟩ := hp ms (List.mem_of_getElem? hms)
    refine ⟨y, hkey _ _ _ _ hb, ?_⟩
    exact e2 i _ hms
  · exact hQ h' tk _ kb hl' (e1 ▸ rows_ins hl hr ht kb)
theorem ir_rows (B : Base w mg mb s.heap) (hR : Room (n + 2) A) (hl : Lst s.heap a vs) (hr : Rows s.heap vs nss) (h4 : ∀ ms ∈ nss, ms.length = 4) (hs : SortedBy llt nss) (hsz : vs.length < 1000)
    (ht : ITup s.heap t ns) (hn : ns.length = 4)
    (hQ : ∀ h' tk vs', KeepBut a s.heap h' → Lst h' a vs' → Rows h' vs' (insR llt ns nss) → Q .none { s with heap := h', toks := tk }) :
    wpAny (model PySem.Challenge.rw_rs0001_01.row.prog w) A (call (.ref 23) [.ref a, .ref t] []) Q E s := by
  obtain ⟨k, hk, e1, e2⟩ := cutR llt_weak ns nss hs
  have hlen := hr.length
  refine ir_plain (n := n) (k := k) B hR hl hsz (by omega) (fun i v hv => ?_) fun h' tk kb hl' => ?_
  · obtain ⟨b, ms, rfl, hms, hb⟩ := hr.get hv
    rw [← e2 i _ hms]
    exact Asks.tup ht hb (by rw [hn, h4 ms (List.mem_of_getElem? hms)])
  · exact hQ h' tk _ kb hl' (e1 ▸ rows_ins hl hr ht kb)
theorem il_rows (B : Base w mg mb s.heap) (hR : Room (n + 2) A) (hl : Lst s.heap a vs) (hr : Rows s.heap vs nss) (h4 : ∀ ms ∈ nss, ms.length = 4) (hs : SortedBy llt nss) (hsz : vs.length < 1000)
    (ht : ITup s.heap t ns) (hn : ns.length = 4)
    (hQ : ∀ h' tk vs', KeepBut a s.heap h' → Lst h' a vs' → Rows h' vs' (insL llt ns nss) → Q .none { s with heap := h', toks := tk }) :
    wpAny (model PySem.Challenge.rw_rs0001_01.row.prog w) A (call (.ref 41) [.ref a, .ref t] []) Q E s := by
  obtain ⟨k, hk, e1, e2⟩ := cutL llt_weak ns nss hs
  have hlen := hr.length
  refine il_plain (n := n) (k := k) B hR hl hsz (by omega) (fun i v hv => ?_) fun h' tk kb hl' => ?_
  · obtain ⟨b, ms, rfl, hms, hb⟩ := hr.get hv
    rw [← e2 i _ hms]
    exact Asks.tup hb ht (by rw [hn, h4 ms (List.mem_of_getElem? hms)])
  · exact hQ h' tk _ kb hl' (e1 ▸ rows_ins hl hr ht kb)
end
/-! counts -/
theorem cut_count {α : Type} {p : α → Bool} : ∀ {l : List α} {k : Nat}, k ≤ l.length → (∀ i y, l[i]? = some y → p y = decide (i < k)) → l.countP p = k
  | [], k, h, _ => by simp at h; simp [h]
  | x :: xs, 0, _, e => by
    have e0 := e 0 x rfl
    have := cut_count (p := p) (l := xs) (k := 0) (by omega) fun i y q => by have := e (i + 1) y (by simpa using q); simpa using this
    rw [List.countP_cons, this, e0]; simp
  | x :: xs, k + 1, h, e => by
    have e0 := e 0 x rfl
    have := cut_count (p := p) (l := xs) (k := k) (by simpa using h) fun i y q => by have := e (i + 1) y (by simpa using q); simpa using this
    rw [List.countP_cons, this, e0]; simp
theorem llt_anti : ∀ (a b : List Int), a.length = b.length → llt a b = false → llt b a = false → a = b
  | [], [], _, _, _ => rfl
  | [], _ :: _, h, _, _ => by simp at h
  | _ :: _, [], h, _, _ => by simp at h
  | x :: xs, y :: ys, h, h1, h2 => by
    rw [llt] at h1 h2
    by_cases e : x = y
    · subst e
      rw [if_pos (by simp)] at h1 h2
      rw [llt_anti xs ys (by simpa using h) h1 h2]
    · rw [if_neg (by simp; exact e)] at h1
      rw [if_neg (by simp; exact fun q => e q.symm)] at h2
      simp at h1 h2
      exact absurd (show x = y by omega) e
theorem count_cut (x : List Int) : ∀ (l : List (List Int)), (∀ y ∈ l, y.length = x.length) → l.countP (fun y => !llt x y) = l.countP (fun y => llt y x) + l.count x
  | [], _ => rfl
  | y :: ys, h => by
    rw [List.countP_cons, List.countP_cons, List.count_cons, count_cut x ys fun z hz => h z (by simp [hz])]
    cases e1 : llt x y with
    | true =>
      have e2 := llt_asymm _ _ e1
      have e3 : (y == x) = false := by
        cases q : y == x with
        | false => rfl
        | true => rw [eq_of_beq q, llt_irrefl] at e1; cases e1
      simp [e2, e3]
    | false =>
      cases e2 : llt y x with
      | true =>
        have e3 : (y == x) = false := by
          cases q : y == x with
          | false => rfl
          | true => rw [eq_of_beq q, llt_irrefl] at e2; cases e2
        simp [e3]; omega
      | false =>
        have e3 : y = x := llt_anti y x (h y (by simp)) e2 e1
        simp [e3]; omega
/-- the steps of a row on the ring, plainly -/
def stepsI (m : Int) : Int → List Int → List (List Int)
  | _, [] => []
  | p, x :: xs => [x, (p + x).fmod m] :: stepsI m ((p + x).fmod m) xs
def placeI (m : Int) : Int → List Int → Int
  | p, [] => p
  | p, x :: xs => placeI m ((p + x).fmod m) xs
theorem stepsI_snoc (m : Int) (x : Int) : ∀ (p : Int) (l : List Int), stepsI m p (l ++ [x]) = stepsI m p l ++ [[x, (placeI m p l + x).fmod m]]
  | _, [] => rfl
  | p, y :: ys => by rw [List.cons_append, stepsI, stepsI, placeI, stepsI_snoc m x _ ys, List.cons_append]
theorem placeI_snoc (m : Int) (x : Int) : ∀ (p : Int) (l : List Int), placeI m p (l ++ [x]) = (placeI m p l + x).fmod m
  | _, [] => rfl
  | p, y :: ys => by rw [List.cons_append, placeI, placeI, placeI_snoc m x _ ys]
theorem stepsI_length (m : Int) : ∀ (p : Int) (l : List Int), (stepsI m p l).length = l.length
  | _, [] => rfl
  | p, y :: ys => by rw [stepsI, List.length_cons, List.length_cons, stepsI_length m _ ys]
theorem stepsI_pairs (m : Int) : ∀ (p : Int) (l : List Int), Pairs (stepsI m p l)
  | _, [] => fun _ h => by simp [stepsI] at h
  | p, y :: ys => fun ns h => by
    rw [stepsI] at h
    rcases List.mem_cons.mp h with rfl | h
    · exact ⟨_, _, rfl⟩
    · exact stepsI_pairs m _ ys ns h
/-- the law's frame -/
structure LEnv (env : Env) (cN cR cL : Addr) : Prop where
  kind : env.scope.kind = .function
  glob : env.globals = mainGlobals
  blt : env.builtins = builtinsNs
  hp : (env.scope.kind == .class || (env.scope.kind == .module && env.locals != env.globals)) = false
  inter : interactive env = false
  code : env.code = .ref 59
  qual : env.qual = Str.ofString "law" ++ ".<locals>."
  ring : env.kindOf "ring" = some .local
  turn : env.kindOf "turn" = some .local
  row : env.kindOf "row" = some .local
  steps : env.kindOf "steps" = some .local
  place : env.kindOf "place" = some .local
  letter : env.kindOf "letter" = some .local
  line : env.kindOf "line" = some .local
  step : env.kindOf "step" = some .local
  nums : env.kindOf "nums" = some .cell
  rows : env.kindOf "rows" = some .cell
  lines : env.kindOf "lines" = some .cell
  cellN : env.cells.lookup ("nums" : Str) = some cN
  cellR : env.cells.lookup ("rows" : Str) = some cR
  cellL : env.cells.lookup ("lines" : Str) = some cL
  enum : env.kindOf "enumerate" = some .globalImplicit
  ir : env.kindOf "insort_right" = some .globalImplicit
  il : env.kindOf "insort_left" = some .globalImplicit
  tuple : env.kindOf "tuple" = some .globalImplicit
  sorted : env.kindOf "sorted" = some .globalImplicit
theorem int_add_nat (i : Nat) : ((i + 1 : Nat) : Int) = (i : Int) + 1 := by omega
section
variable {w : World} {A : Around} {E : Value → Shared → Prop} {s : Shared} {mg mb m : Str → Option Value} {env : Env} {cN cR cL r sA : Addr} {R : Int} {tr tp : Tok} {ns : List Int}
  {p1 p2 p3 p4 p5 p6 p7 p8 p9 p10 p11 p12 p13 p14 p15 p16 p17 p18 : Pos} {c0 c1 : Nat} {Q : Flow → Shared → Prop}
theorem letters (V : LEnv env cN cR cL) (hR : Room 3 A) (hn : s.heap.Ns env.locals m) (hring : m "ring" = some (.int R tr)) (hRne : R ≠ 0) (hrow : m "row" = some (.ref r)) (hr : ITup s.heap r ns) (hsz : ns.length < 100)
    {pl : Sem Bool} (hmc : eval (.Call (.Attribute (.Name "steps" p10) "append" p11) [.Tuple [.Name "letter" p12, .Name "place" p13] c0 p14] [] p15) env = (do
      let ov ← eval (.Name "steps" p10) env
      standAt p11.atName
      let (f, first) ← holding [ov] (getMethod ov "append" pl)
      callWith p15 f first (backTo p15 (starEach [.Tuple [.Name "letter" p12, .Name "place" p13] c0 p14] env)) []))
    (hst : m "steps" = some (.ref sA)) (hpl : m "place" = some (.int 0 tp)) (hl : Lst s.heap sA [])
    (hQ : ∀ h' tk m' vs', KeepS [env.locals, sA] s.heap h' → h'.Ns env.locals m' → (∀ y : Str, y ≠ "letter" → y ≠ "place" → m' y = m y) → Lst h' sA vs' → Rows h' vs' (stepsI R 0 ns) → Q .next { s with heap := h', toks := tk }) :
    wpAny (model PySem.Challenge.rw_rs0001_01.row.prog w) A (exec (.For (.Name "letter" p1) (.Name "row" p2)
      [.Assign [.Name "place" p3] (.BinOp (.BinOp (.Name "place" p4) .Add (.Name "letter" p5) p6) .Mod (.Name "ring" p7) p8) p9,
       .Expr (.Call (.Attribute (.Name "steps" p10) "append" p11) [.Tuple [.Name "letter" p12, .Name "place" p13] c0 p14] [] p15) p16] [] p17) env) Q E s := by
  obtain ⟨ws, htup, hints⟩ := hr
  have hlen := hints.length
  have nsL : sA ≠ env.locals := ne_lst_ns hl hn
  refine wpAny_For (nmL V.kind V.row hn hrow ?_) (by intro _; rfl)
  have hT : s.heap.IsTuple r ws.toArray := by obtain ⟨n, e⟩ := htup; exact ⟨_, e, rfl, _, rfl⟩
  refine wpAny_pyIter_tuple hT ?_
  have hit0 : (s.heap.push { cls := .type "tuple_iterator", data := .fields #[.ref r, .int 0 0] }).IsTupleIter s.heap.objs.size r 0 := ⟨_, Heap.get?_push_size _ rfl, rfl, rfl⟩
  have k0 : Keep s.heap (s.heap.push { cls := .type "tuple_iterator", data := .fields #[.ref r, .int 0 0] }) := keep_push _ _
  have f0 : s.heap.get? s.heap.objs.size = none := fresh_of (fun _ _ e => e) (Nat.le_refl _)
  generalize s.heap.push { cls := .type "tuple_iterator", data := .fields #[.ref r, .int 0 0] } = h0 at hit0 k0 ⊢
  generalize s.heap.objs.size = I at hit0 f0 ⊢
  have hrI : r ≠ I := by obtain ⟨n, e⟩ := htup; exact fun q => by rw [q, f0] at e; cases e
  have nLI : env.locals ≠ I := fun q => by obtain ⟨o, es, ep, e, _⟩ := hn; rw [q, f0] at e; cases e
  have nsI : sA ≠ I := fun q => by obtain ⟨n, e⟩ := hl; rw [q, f0] at e; cases e
  have hnr : r ≠ env.locals := fun q => by obtain ⟨n, e⟩ := htup; exact noTup_ns hn _ (q ▸ e) rfl _ _ rfl
  have hsr : r ≠ sA := fun q => by obtain ⟨n, e⟩ := htup; exact noTup_lst hl _ (q ▸ e) rfl _ _ rfl
  have W := Walks.tuple (prog := PySem.Challenge.rw_rs0001_01.row.prog) (w := w) (A := A) hR.1 I r hrI ws.toArray
  refine codeAny_forLoop (fun d s' => ∃ h tk m' i vs', s' = { s with heap := h, toks := tk } ∧ KeepS [env.locals, sA] s.heap h ∧ h.Ns env.locals m' ∧ (∀ y : Str, y ≠ "letter" → y ≠ "place" → m' y = m y) ∧ (∃ t, m' "place" = some (.int (placeI R 0 (ns.take i)) t)) ∧
      Lst h sA vs' ∧ Rows h vs' (stepsI R 0 (ns.take i)) ∧ h.IsTupleIter I r i ∧ i ≤ ns.length ∧ d = ns.length + 1 - i) ?_ (ns.length + 1)
    ⟨h0, s.toks, m, 0, [], rfl, k0.s, hn.keeps k0, fun _ _ _ => rfl, ⟨tp, hpl⟩, hl.keep k0, .nil, hit0, by omega, rfl⟩ (fun _ => rfl)
  rintro d s' ⟨h, tk, m', i, vs', rfl, kh, hn', hm', ⟨t, hp'⟩, hl', hv', hit', hi, rfl⟩
  have hTh : h.IsTuple r ws.toArray := by obtain ⟨n, e⟩ := htup; exact ⟨_, kh _ _ (by simp; exact ⟨hnr, hsr⟩) e, rfl, _, rfl⟩
  have hvl := hv'.length
  rw [stepsI_length, List.length_take] at hvl
  by_cases hlt : i < ns.length
  · refine W.item i _ _ _ (by rw [List.size_toArray]; omega) ⟨hit', hTh⟩ fun v h1 tk1 hP st1 hk1 => ?_
    have kI : KeepS [I] h h1 := hk1
    obtain ⟨x, tx, rfl, hnx⟩ := ints_get hints (i := i) (v := v) (by simpa using hP)
    have hn1 : h1.Ns env.locals m' := hn'.at' fun o e => kI _ o (by simpa using nLI) e
    refine wpAny_assign_Name (wpAny_storeName_local V.letter hn1 (fun h2 hn2 hs2 => ?_) V.hp)
    replace hs2 : Heap.SameBut env.locals h1 h2 := hs2
    refine wpAny_execs_cons (wpAny_Assign_Name ?_)
    refine wpAny_BinOp (wpAny_BinOp (nmL V.kind V.place hn2 (by rw [if_neg (by decide)]; exact hp') (nmL V.kind V.letter hn2 (if_pos rfl) (add_int ?_))))
    refine nmL V.kind V.ring hn2 (by rw [if_neg (by decide), hm' _ (by decide) (by decide)]; exact hring) (mod_int' hRne ?_)
    refine wpAny_storeName_local V.place hn2 (fun h3 hn3 hs3 => ?_) V.hp
    replace hs3 : Heap.SameBut env.locals h2 h3 := hs3
    have ks3 : KeepS [env.locals, I] h h3 := KeepS.trans (kI.mono (by simp)) (KeepS.trans (same_s hs2 (by simp)) (same_s hs3 (by simp)))
    have hl3 : Lst h3 sA vs' := by obtain ⟨n, e⟩ := hl'; exact ⟨n, ks3 _ _ (by simp; exact ⟨nsL, nsI⟩) e⟩
    refine wpAny_execs_cons (wpAny_Expr (MethodCall_ (nmL V.kind V.steps hn3 (by rw [if_neg (by decide), if_neg (by decide), hm' _ (by decide) (by decide)]; exact hst) ?_) hmc) V.inter)
    refine lst_method hl3 PySem.slot_list_append PySem.type_list_append (callWith_method1 ?_)
    refine spliced_more (Tuple_ (spliced_more (nmL V.kind V.letter hn3 (by rw [if_neg (by decide), if_pos rfl]) (spliced_more (nmL V.kind V.place hn3 (if_pos rfl) (spliced_none ?_))))))
    refine newT (by simp) fun tA h4 k4 f4 t4 => spliced_none ?_
    refine lst_append (hl3.keep k4) (by omega) fun h5 hl5 hs5 => ?_
    replace hs5 : Heap.SameBut sA h4 h5 := hs5
    refine wpAny_execs_nil ?_
    have no3 : ∀ b ∈ [env.locals, I], NoTup h b := by
      intro b hb
      simp at hb
      rcases hb with hb | hb
      · rw [hb]; exact noTup_ns hn'
      · obtain ⟨o, e, c, _⟩ := hit'
        rw [hb]; exact noTup_cls e c (by decide)
    have no5 : ∀ b ∈ [sA], NoTup h4 b := by intro b hb; simp at hb; rw [hb]; exact noTup_lst (hl3.keep k4)
    have tk' : ns.take (i + 1) = ns.take i ++ [x] := by rw [List.take_add_one, hnx]; rfl
    refine ⟨ns.length + 1 - (i + 1), by omega, h5, _, _, i + 1, vs' ++ [.ref tA], rfl, ?_, (hn3.keeps k4).sameBut hs5 nsL.symm, ?_, ?_, hl5, ?_, ?_, by omega, rfl⟩
    · intro b o hb e
      simp at hb
      have hbI : b ≠ I := fun q => by rw [q, f0] at e; cases e
      exact hs5.extBut _ _ hb.2 (k4 _ _ (ks3 _ _ (by simp; exact ⟨hb.1, hbI⟩) (kh _ _ (by simp; exact hb) e)))
    · intro y h1 h2
      rw [if_neg h2, if_neg h1]; exact hm' y h1 h2
    · rw [tk', placeI_snoc]; exact ⟨_, if_pos rfl⟩
    · rw [tk', stepsI_snoc]
      refine Rows.keepS (S := [sA]) ?_ (same_s hs5 (by simp)) no5
      refine (((hv'.keepS ks3 no3).keep k4)).snoc ⟨_, t4, .cons _ _ (.cons _ _ .nil)⟩
    · have st2 : h3.IsTupleIter I r (i + 1) := isTupleIter_at st1.1 fun o e => hs3.extBut _ _ nLI.symm (hs2.extBut _ _ nLI.symm e)
      exact isTupleIter_at st2 fun o e => hs5.extBut _ _ nsI.symm (k4 _ _ e)
  · have hi' : i = ns.length := by omega
    have hsize : ws.toArray.size = ns.length := by rw [List.size_toArray, hlen]
    refine W.done _ _ _ (by rw [hsize, ← hi']; exact ⟨hit', hTh⟩) fun h1 tk1 hk1 => ?_
    have kI : KeepS [I] h h1 := hk1
    refine wpAny_execs_nil ?_
    have noI : ∀ b ∈ [I], NoTup h b := by
      intro b hb
      simp at hb
      obtain ⟨o, e, c, _⟩ := hit'
      rw [hb]; exact noTup_cls e c (by decide)
    rw [hi', List.take_length] at hv'
    refine hQ h1 _ m' vs' ?_ (hn'.at' fun o e => kI _ o (by simpa using nLI) e) hm' ?_ (hv'.keepS kI noI)
    · intro b o hb e
      have hbI : b ≠ I := fun q => by rw [q, f0] at e; cases e
      exact kI _ _ (by simpa using hbI) (kh _ _ hb e)
    · obtain ⟨n, e⟩ := hl'
      exact ⟨n, kI _ _ (by simpa using nsI) e⟩
end
theorem noTup_tab {h : Heap} (t : TabOk h) : NoTup h 57 := fun o e _ xs n q => by
  obtain ⟨ps, e1, _⟩ := t
  rw [e] at e1; cases e1; cases q
/-- an object that is no code -/
def NoCode (h : Heap) (a : Addr) : Prop := ∀ o vs q t, h.get? a = some o → o.data = .fields vs → vs[1]? ≠ some (.str q t)
theorem noCode_ns {h : Heap} {b : Addr} {m : Str → Option Value} (x : h.Ns b m) : NoCode h b := fun o vs q t e d => by
  obtain ⟨o', es, ep, e', d', _⟩ := x
  rw [e] at e'; cases e'; rw [d'] at d; cases d
theorem noCode_lst {h : Heap} {b : Addr} {ws : List Value} (x : Lst h b ws) : NoCode h b := fun o vs q t e d => by
  obtain ⟨k, e'⟩ := x
  rw [e] at e'; cases e'; cases d
theorem noCode_none {h : Heap} {b : Addr} (x : h.get? b = none) : NoCode h b := fun o vs q t e d => by rw [x] at e; cases e
theorem noCode_listIter {h : Heap} {b l : Addr} {i : Nat} (x : h.IsListIter b l i) : NoCode h b := fun o vs q t e d f => by
  obtain ⟨o', e', c, d'⟩ := x
  rw [e] at e'; cases e'; rw [d'] at d; cases d; cases f
theorem TabOk.keepS {S : List Addr} {h h' : Heap} (t : TabOk h) (k : KeepS S h h') (h57 : 57 ∉ S) (na : ∀ a ∈ S, NoCode h a) : TabOk h' := by
  obtain ⟨ps, e1, e2, e3⟩ := t
  refine ⟨ps, k _ _ h57 e1, e2, fun pos cv e => ?_⟩
  obtain ⟨c, e4, c', o, vs, t, x1, x2, x3, x4⟩ := e3 pos cv e
  exact ⟨c, e4, c', o, vs, t, x1, k _ _ (fun q => na _ q o vs _ _ x2 x3 x4) x2, x3, x4⟩
theorem CodeRec_keepS {S : List Addr} {h h' : Heap} {cv : Value} {q : Str} (t : h.CodeRec cv q) (k : KeepS S h h') (na : ∀ a ∈ S, NoCode h a) : h'.CodeRec cv q := by
  obtain ⟨c', o, vs, t, x1, x2, x3, x4⟩ := t
  exact ⟨c', o, vs, t, x1, k _ _ (fun q => na _ q o vs _ _ x2 x3 x4) x2, x3, x4⟩
theorem ne57_ns {h : Heap} {b : Addr} {m : Str → Option Value} (t : TabOk h) (x : h.Ns b m) : b ≠ 57 := fun q => by
  obtain ⟨ps, e1, _⟩ := t; obtain ⟨o', es, ep, e', d', _⟩ := x
  rw [q, e1] at e'; cases e'; cases d'
theorem ne57_lst {h : Heap} {b : Addr} {ws : List Value} (t : TabOk h) (x : Lst h b ws) : b ≠ 57 := fun q => by
  obtain ⟨ps, e1, _⟩ := t; obtain ⟨k, e'⟩ := x
  rw [q, e1] at e'; cases e'
theorem ne57_listIter {h : Heap} {b l : Addr} {i : Nat} (t : TabOk h) (x : h.IsListIter b l i) : b ≠ 57 := fun q => by
  obtain ⟨ps, e1, _⟩ := t; obtain ⟨o', e', c, d'⟩ := x
  rw [q, e1] at e'; cases e'; cases c
theorem ne_lst_iter {h : Heap} {a b l : Addr} {i : Nat} {ws : List Value} (x : Lst h a ws) (y : h.IsListIter b l i) : a ≠ b := fun q => by
  obtain ⟨k, e⟩ := x; obtain ⟨o', e', c, d'⟩ := y
  rw [q, e'] at e; cases e; cases d'
theorem ne_ns_iter {h : Heap} {a b l : Addr} {i : Nat} {m : Str → Option Value} (x : h.Ns a m) (y : h.IsListIter b l i) : a ≠ b := fun q => by
  obtain ⟨o, es, ep, e, d, _⟩ := x; obtain ⟨o', e', c, d'⟩ := y
  rw [q, e'] at e; cases e; rw [d] at d'; cases d'
theorem Lst.keepS {S : List Addr} {h h' : Heap} {a : Addr} {vs : List Value} (x : Lst h a vs) (k : KeepS S h h') (n : a ∉ S) : Lst h' a vs := let ⟨i, e⟩ := x; ⟨i, k _ _ n e⟩
/-- all but some new address -/
theorem KeepS.drop {S : List Addr} {I : Addr} {g h h' : Heap} (k : KeepS S g h) (k' : KeepS (I :: S) h h') (f : g.get? I = none) : KeepS S g h' := fun b o hb e =>
  k' b o (fun q => by
    rcases List.mem_cons.mp q with q | q
    · rw [q, f] at e; cases e
    · exact hb q) (k b o hb e)
abbrev lamArgs (p : Pos) : Arguments := { posonlyargs := [], args := [{ arg := "one", annotation := none, pos := p }], vararg := none, kwonlyargs := [], kw_defaults := [], kwarg := none, defaults := [] }
abbrev lamScope : Scope := { kind := .function, names := [("one", .local)], isGenerator := false, isCoroutine := false }
section
variable {w : World} {A : Around} {R : Result → Shared → Prop} {s : Shared} {mg mb m : Str → Option Value} {env : Env} {cN cR cL lA D I : Addr} {G : Heap} {ws : List Value} {nss : List (List Int)}
  {p1 p2 p3 p4 p5 p6 p7 p8 p9 p10 p11 p12 : Pos} {c0 : Nat} {fn : Str} {fa : Addr} {op : List Int → List (List Int) → List (List Int)}
theorem insort_loop (V : LEnv env cN cR cL) (hR : Room 6 A) (B : Base w mg mb G) (kG : Keep G s.heap) (fL : G.get? env.locals = none) (fl : G.get? lA = none) (f57 : G.get? 57 = none) (fI : G.get? I = none)
    (hfn : env.kindOf fn = some .globalImplicit) (hdb : (fn == ("__debug__" : Str)) = false) (hg : nsIn (hd.heap_39 w.params) mainGlobals fn = some (some (.ref fa))) (hki : keepIn (hd.heap_39 w.params) (.ref fa) = true)
    (hcall : ∀ {s' : Shared} {vs : List Value} {nss : List (List Int)} {t kf : Addr} {x0 y0 : Int} {Q E : Value → Shared → Prop}, Base w mg mb s'.heap → Lst s'.heap lA vs → Rows s'.heap vs nss → Pairs nss → SortedBy kLt nss → vs.length < 1000 → IsFn s'.heap kf →
      (∀ n t x y, ITup s'.heap t [x, y] → KeyOf w n s'.heap kf (.ref t) y) → ITup s'.heap t [x0, y0] →
      (∀ h' tk vs', KeepBut lA s'.heap h' → Lst h' lA vs' → Rows h' vs' (op [x0, y0] nss) → Q .none { s' with heap := h', toks := tk }) →
      wpAny (model PySem.Challenge.rw_rs0001_01.row.prog w) A (call (.ref fa) [.ref lA, .ref t] [("key", .ref kf)]) Q E s')
    (hperm : ∀ x l, (op x l).Perm (x :: l)) (hsort : ∀ x l, SortedBy kLt l → SortedBy kLt (op x l))
    (T : TabOk s.heap) (hn : s.heap.Ns env.locals m) (hline : m "line" = some (.ref lA)) (hl : Lst s.heap lA [])
    (hD : Lst s.heap D ws) (hDl : D ≠ lA) (hr : Rows s.heap ws nss) (hp : Pairs nss) (hsz : ws.length < 100) (hit : s.heap.IsListIter I D 0) 
    (hQ : ∀ h' tk m' vs', KeepS [I, env.locals, lA, 57] s.heap h' → h'.Ns env.locals m' → (∀ y : Str, y ≠ "step" → m' y = m y) → Lst h' lA vs' → Rows h' vs' (nss.foldl (fun acc x => op x acc) []) → TabOk h' → R (.ok .next) { s with heap := h', toks := tk }) :
    codeAny (model PySem.Challenge.rw_rs0001_01.row.prog w) A (.forLoop (.Name "step" p1) (.ref I)
      [.Expr (.Call (.Name fn p2) [.Name "line" p3, .Name "step" p4] [⟨some "key", .Lambda (lamArgs p5) (.Subscript (.Name "one" p6) (.Constant (.int 1) c0 p7) p8) lamScope p9, p10⟩] p11) p12] [] env) R s := by
  have hlen := hr.length
  have nLl : env.locals ≠ lA := (ne_lst_ns hl hn).symm
  have nLI : env.locals ≠ I := ne_ns_iter hn hit
  have nlI : lA ≠ I := ne_lst_iter hl hit
  have nDI : D ≠ I := ne_lst_iter hD hit
  have nDL : D ≠ env.locals := ne_lst_ns hD hn
  have n57L := ne57_ns T hn
  have n57l := ne57_lst T hl
  have n57D := ne57_lst T hD
  have n57I := ne57_listIter T hit
  have fr : ∀ b ∈ [I, env.locals, lA, 57], NoTup s.heap b := by
    intro b hb
    simp at hb
    rcases hb with hb | hb | hb | hb
    · obtain ⟨o, e, c, _⟩ := hit; rw [hb]; exact noTup_cls e c (by decide)
    · rw [hb]; exact noTup_ns hn
    · rw [hb]; exact noTup_lst hl
    · rw [hb]; exact noTup_tab T
  have W := Walks.list (prog := PySem.Challenge.rw_rs0001_01.row.prog) (w := w) (A := A) hR.1 I D nDI ws.toArray
  refine codeAny_forLoop (fun d s' => ∃ h tk m' i vs', s' = { s with heap := h, toks := tk } ∧ KeepS [I, env.locals, lA, 57] s.heap h ∧ Keep G h ∧ h.Ns env.locals m' ∧ (∀ y : Str, y ≠ "step" → m' y = m y) ∧ Lst h lA vs' ∧
      Rows h vs' ((nss.take i).foldl (fun acc x => op x acc) []) ∧ SortedBy kLt ((nss.take i).foldl (fun acc x => op x acc) []) ∧ Pairs ((nss.take i).foldl (fun acc x => op x acc) []) ∧ vs'.length = i ∧ TabOk h ∧ h.IsListIter I D i ∧ i ≤ nss.length ∧ d = nss.length + 1 - i) ?_ (nss.length + 1)
    ⟨s.heap, s.toks, m, 0, [], rfl, fun _ _ _ e => e, kG, hn, fun _ _ => rfl, hl, .nil, List.Pairwise.nil, (fun _ h => by simp at h), rfl, T, hit, by omega, rfl⟩ (fun _ => rfl)
  rintro d s' ⟨h, tk, m', i, vs', rfl, kh, kGh, hn', hm', hl', hv', hs', hp', hvl, T', hit', hi, rfl⟩
  have hDh : Lst h D ws := hD.keepS kh (by simp; exact ⟨nDI, nDL, hDl, n57D⟩)
  by_cases hlt : i < nss.length
  · refine W.item i _ _ _ (by rw [List.size_toArray]; omega) ⟨hit', hDh.is⟩ fun v h1 tk1 hP st1 hk1 => ?_
    have kI : KeepS [I] h h1 := hk1
    obtain ⟨t, ns, rfl, hns, hrow⟩ := hr.get (i := i) (v := v) (by simpa using hP)
    obtain ⟨x0, y0, rfl⟩ := hp ns (List.mem_of_getElem? hns)
    have hn1 : h1.Ns env.locals m' := hn'.at' fun o e => kI _ o (by simpa using nLI) e
    refine wpAny_assign_Name (wpAny_storeName_local V.step hn1 (fun h2 hn2 hs2 => ?_) V.hp)
    replace hs2 : Heap.SameBut env.locals h1 h2 := hs2
    have ks2 : KeepS [I, env.locals] h h2 := KeepS.trans (kI.mono (by simp)) (same_s hs2 (by simp))
    have frG : ∀ b ∈ [I, env.locals], G.get? b = none := by
      intro b hb
      simp at hb
      rcases hb with rfl | rfl <;> assumption
    have kG2 : Keep G h2 := keep_of_s kGh ks2 frG
    have nc2 : ∀ b ∈ [I, env.locals], NoCode h b := by
      intro b hb
      simp at hb
      rcases hb with hb | hb
      · rw [hb]; exact noCode_listIter hit'
      · rw [hb]; exact noCode_ns hn'
    have nt2 : ∀ b ∈ [I, env.locals], NoTup h b := by
      intro b hb
      simp at hb
      rcases hb with hb | hb
      · obtain ⟨o, e, c, _⟩ := hit'; rw [hb]; exact noTup_cls e c (by decide)
      · rw [hb]; exact noTup_ns hn'
    have T2 : TabOk h2 := T'.keepS ks2 (by simp; exact ⟨n57I.symm, n57L.symm⟩) nc2
    have hl2 : Lst h2 lA vs' := hl'.keepS ks2 (by simp; exact ⟨nlI, nLl.symm⟩)
    have hv2 := hv'.keepS ks2 nt2
    have hrow2 : ITup h2 t [x0, y0] := (hrow.keepS kh fr).keepS ks2 nt2
    refine wpAny_execs_cons (wpAny_Expr (wpAny_Call_Name_kw (nmG (B.keep kG2) V.kind hfn V.glob hg ?_ hdb)) V.inter)
    refine callWith_KW (B.keep kG2).X hki rfl (spliced_more (nmL V.kind V.line hn2 (by rw [if_neg (by decide), hm' _ (by decide)]; exact hline) ?_)) rfl rfl
    refine spliced_more (nmL V.kind V.step hn2 (if_pos rfl) (spliced_none ?_))
    refine kwAll_cons (mk_lambda (B.keep kG2) T2 rfl V.qual (closureFor_none (by decide)) V.glob V.code fun f c' ctv pm h3 tk3 kb3 f3 ho3 hc3 T3 => kwAll_nil ?_)
    replace kb3 : KeepBut 57 h2 h3 := kb3
    have kG3 : Keep G h3 := keep_of_s (S := [57]) kG2 (KeepBut.s kb3 (by simp)) (by intro b hb; simp at hb; rw [hb]; exact f57)
    have nt3 : ∀ b ∈ [57], NoTup h2 b := by intro b hb; simp at hb; rw [hb]; exact noTup_tab T2
    refine ⟨(B.keep kG3).X, ?_⟩
    have hl3 : Lst h3 lA vs' := hl2.keepS (S := [57]) (KeepBut.s kb3 (by simp)) (by simpa using n57l)
    have hn3 := hn2.at' fun o e => kb3 _ o n57L e
    have hv3 := hv2.keepS (S := [57]) (KeepBut.s kb3 (by simp)) nt3
    refine hcall (B.keep kG3) hl3 hv3 hp' hs' (by omega) ⟨_, _, ho3, rfl⟩ (fun n t x y hxy => key_of ho3 hc3 (B.keep kG3).lim hxy) (hrow2.keepS (S := [57]) (KeepBut.s kb3 (by simp)) nt3) fun h4 tk4 vs4 kb4 hl4 hv4 => ?_
    replace kb4 : KeepBut lA h3 h4 := kb4
    refine wpAny_execs_nil ?_
    have hp4 : Pairs (op [x0, y0] ((nss.take i).foldl (fun acc x => op x acc) [])) := fun z hz => by
      rcases List.mem_cons.mp ((hperm _ _).mem_iff.mp hz) with q | q
      · exact ⟨_, _, q⟩
      · exact hp' z q
    have tk' : nss.take (i + 1) = nss.take i ++ [[x0, y0]] := by rw [List.take_add_one, hns]; rfl
    have fo : (nss.take (i + 1)).foldl (fun acc x => op x acc) [] = op [x0, y0] ((nss.take i).foldl (fun acc x => op x acc) []) := by rw [tk', List.foldl_append]; rfl
    have hlen4 : vs4.length = i + 1 := by
      have e1 := hv4.length
      have e2 := (hperm [x0, y0] ((nss.take i).foldl (fun acc x => op x acc) [])).length_eq
      have e3 := hv'.length
      simp at e2
      omega
    have ks4 : KeepS [I, env.locals, lA, 57] h h4 := KeepS.trans (ks2.mono (by simp)) (KeepS.trans (KeepBut.s kb3 (by simp)) (KeepBut.s kb4 (by simp)))
    refine ⟨nss.length + 1 - (i + 1), by omega, h4, _, _, i + 1, vs4, rfl, KeepS.trans kh ks4, ?_, (hn3.at' fun o e => kb4 _ o nLl e), fun y hy => ?_, hl4, ?_, ?_, ?_, hlen4, ?_, ?_, by omega, rfl⟩
    · exact keep_of_s (S := [lA]) kG3 (KeepBut.s kb4 (by simp)) (by intro b hb; simp at hb; rw [hb]; exact fl)
    · rw [if_neg hy]; exact hm' y hy
    · rw [fo]; exact hv4
    · rw [fo]; exact hsort _ _ hs'
    · rw [fo]; exact hp4
    · exact T3.keepS (S := [lA]) (KeepBut.s kb4 (by simp)) (by simpa using n57l.symm) (by intro b hb; simp at hb; rw [hb]; exact noCode_lst hl3)
    · exact (st1.1.at fun o e => hs2.extBut _ _ nLI.symm e).at fun o e => kb4 _ _ nlI.symm (kb3 _ _ n57I e)
  · have hi' : i = nss.length := by omega
    have hsize : ws.toArray.size = nss.length := by rw [List.size_toArray, hlen]
    refine W.done _ _ _ (by rw [hsize, ← hi']; exact ⟨hit', hDh.is⟩) fun h1 tk1 hk1 => ?_
    have kI : KeepS [I] h h1 := hk1
    refine wpAny_execs_nil ?_
    have noI : ∀ b ∈ [I], NoTup h b := by
      intro b hb
      simp at hb
      obtain ⟨o, e, c, _⟩ := hit'
      rw [hb]; exact noTup_cls e c (by decide)
    rw [hi', List.take_length] at hv'
    refine hQ h1 _ m' vs' (KeepS.trans kh (kI.mono (by simp))) (hn'.at' fun o e => kI _ o (by simpa using nLI) e) hm' (hl'.keepS kI (by simpa using nlI)) (hv'.keepS kI noI) ?_
    exact T'.keepS kI (by simpa using n57I.symm) (by intro b hb; simp at hb; rw [hb]; exact noCode_listIter hit')
end
abbrev stepScope : Scope := { kind := .function, names := [(".0", .local), ("step", .local)], isGenerator := false, isCoroutine := false }
theorem paired_ints {h : Heap} {j : Nat} : ∀ {ws ys : List Value} {nss : List (List Int)}, Rows h ws nss → Paired (fun v y => ∀ a ns, v = Value.ref a → ITup h a ns → ∃ t, y = Value.int (ns.getD j 0) t) ws ys → IntsAre ys (nss.map fun ns => ns.getD j 0) := by
  intro ws ys nss hr
  induction hr generalizing ys with
  | nil => intro hp; cases hp; exact .nil
  | cons t _ ih =>
    intro hp
    cases hp with
    | cons h1 h2 =>
      obtain ⟨t', rfl⟩ := h1 _ _ rfl t
      exact .cons _ _ (ih h2)
theorem pair_len {nss : List (List Int)} (hp : Pairs nss) : ∀ ns ∈ nss, ns.length = 2 := fun ns h => by obtain ⟨x, y, rfl⟩ := hp ns h; rfl
theorem rows_mem {h : Heap} {ws : List Value} {nss : List (List Int)} (hr : Rows h ws nss) : ∀ {v : Value}, v ∈ ws → ∃ a ns, v = .ref a ∧ ns ∈ nss ∧ ITup h a ns := by
  intro v hv
  obtain ⟨i, hi⟩ := List.getElem?_of_mem hv
  obtain ⟨a, ns, e, hns, ht⟩ := hr.get hi
  exact ⟨a, ns, e, List.mem_of_getElem? hns, ht⟩
theorem itup_inj {h : Heap} {a : Addr} {ns ms : List Int} (x : ITup h a ns) (y : ITup h a ms) : ns = ms := by
  obtain ⟨vs, ⟨n, e⟩, i⟩ := x
  obtain ⟨ws, ⟨k, e'⟩, i'⟩ := y
  rw [e] at e'
  have e2 : vs = ws := by cases e'; rfl
  subst e2
  clear e e'
  induction i generalizing ms with
  | nil => cases i'; rfl
  | cons a t _ ih => cases i' with | cons _ _ i' => rw [ih i']
section
variable {w : World} {A : Around} {E : Value → Shared → Prop} {s : Shared} {m : Str → Option Value} {env : Env} {lA : Addr} {ws : List Value} {nss : List (List Int)} {nm : Str}
  {p1 p2 p3 p4 p5 p6 : Pos} {c0 : Nat} {Q : Value → Shared → Prop}
theorem comp_get0 (hk : env.scope.kind = .function) (hh : A.handled = none) (hnm : env.kindOf nm = some .local) (hdb : (nm == ("__debug__" : Str)) = false) (hn : s.heap.Ns env.locals m) (hm : m nm = some (.ref lA)) (hl : Lst s.heap lA ws) (hr : Rows s.heap ws nss) (hp : Pairs nss) (hsz : ws.length < 1000)
    (hQ : ∀ D h' tk, Keep s.heap h' → s.heap.get? D = none → ILst h' D (nss.map fun ns => ns.getD 0 0) → Q (.ref D) { s with heap := h', toks := tk }) :
    wpAny (model PySem.Challenge.rw_rs0001_01.row.prog w) A (eval (.ListComp (.Subscript (.Name "step" p1) (.Constant (.int 0) c0 p2) p3) [⟨.Name "step" p4, .Name nm p5, [], 0⟩] stepScope p6) env) Q E s := by
  have hlen := hr.length
  refine wpAny_ListComp_free (cl := []) (fun _ => true) (fun v y => ∀ a ns, v = Value.ref a → ITup s.heap a ns → ∃ t, y = Value.int (ns.getD 0 0) t) (closureFor_none (by decide)) (by decide) rfl (by decide) rfl ?_ (by intro _; rfl)
  refine nmL hk hnm hn hm ?_ hdb
  refine wpAny_pyIter_list hl.is ?_
  have hne : lA ≠ s.heap.objs.size := by obtain ⟨n, e⟩ := hl; exact Nat.ne_of_lt (Heap.lt_size e)
  refine ⟨s.heap.objs.size, _, _, _, _, _, rfl, Walks.list hh s.heap.objs.size lA hne ws.toArray, ?_, ⟨⟨_, Heap.get?_push_size _ rfl, rfl, rfl⟩, stays_list (keep_push _ _) hl.is⟩, ?_, ?_, ?_⟩
  · rw [List.size_toArray, sizeLine_eq]; omega
  · intro b hb
    show @LT.lt Nat _ b (s.heap.push _).objs.size
    rw [Heap.size_push]
    simp at hb
    rcases hb with rfl | rfl
    · exact Nat.lt_succ_self _
    · obtain ⟨n, e⟩ := hl; exact Nat.lt_succ_of_lt (Heap.lt_size e)
  · refine ⟨fun C i v s₃ m₃ E' _ _ _ _ _ _ => ?_, fun C i v s₃ m₃ E' _ hv _ hn₃ hm₃ hk₃ _ => ?_⟩
    · exact wpAny_pure ⟨rfl, s₃.heap, s₃.toks, rfl, fun _ _ e => e⟩
    · obtain ⟨a, ns, rfl, hns, hrow⟩ := hr.get (i := i) (v := v) (by simpa using hv)
      obtain ⟨x, y, rfl⟩ := hp ns (List.mem_of_getElem? hns)
      have kk : Keep s.heap s₃.heap := fun b o e => hk₃ b o (by simp; exact Nat.ne_of_lt (Heap.lt_size e)) (keep_push _ _ b o e)
      obtain ⟨us, hu, hi⟩ := hrow.keep kk
      cases hi with
      | cons a1 t1 hi =>
        cases hi with
        | cons b1 u1 hi =>
          cases hi
          refine Subscript_ (nmL rfl rfl hn₃ hm₃ (wpAny_Constant_int ?_))
          refine item_tupleT hu.is (by decide) (by decide) rfl rfl ?_
          refine ⟨fun a' ns' e' ht' => ?_, s₃.heap, _, rfl, fun _ _ e => e⟩
          cases e'
          have := itup_inj ht' hrow
          subst this
          exact ⟨_, rfl⟩
  · intro D₂ h₂ tk₂ ys vs₂ f₂ hl₂ hpl₂ hvl hP hF hk₂
    have k₂ : Keep s.heap h₂ := fun b o e => hk₂ b o (by simp; exact Nat.ne_of_lt (Heap.lt_size e)) (keep_push _ _ b o e)
    have hvs : vs₂ = ws := by
      refine List.ext_getElem? fun i => ?_
      cases q : vs₂[i]? with
      | none =>
        have : vs₂.length ≤ i := List.getElem?_eq_none_iff.mp q
        rw [hvl, List.size_toArray] at this
        exact (List.getElem?_eq_none_iff.mpr this).symm
      | some v => have := hP i v q; simpa using this.symm
    subst hvs
    rw [List.filter_eq_self.mpr (by intro _ _; rfl)] at hF
    obtain ⟨n2, e2⟩ := hpl₂
    refine hQ D₂ h₂ tk₂ k₂ ?_ ⟨ys.toList, ⟨n2, by rw [Array.toArray_toList]; exact e2⟩, paired_ints hr hF⟩
    cases q : s.heap.get? D₂ with
    | none => rfl
    | some o => exact absurd (f₂.symm.trans (keep_push s.heap { cls := .type "list_iterator", data := .fields #[.ref lA, .int 0 0] } _ _ q)) (by simp)
theorem comp_get1 (hk : env.scope.kind = .function) (hh : A.handled = none) (hnm : env.kindOf nm = some .local) (hdb : (nm == ("__debug__" : Str)) = false) (hn : s.heap.Ns env.locals m) (hm : m nm = some (.ref lA)) (hl : Lst s.heap lA ws) (hr : Rows s.heap ws nss) (hp : Pairs nss) (hsz : ws.length < 1000)
    (hQ : ∀ D h' tk, Keep s.heap h' → s.heap.get? D = none → ILst h' D (nss.map fun ns => ns.getD 1 0) → Q (.ref D) { s with heap := h', toks := tk }) :
    wpAny (model PySem.Challenge.rw_rs0001_01.row.prog w) A (eval (.ListComp (.Subscript (.Name "step" p1) (.Constant (.int 1) c0 p2) p3) [⟨.Name "step" p4, .Name nm p5, [], 0⟩] stepScope p6) env) Q E s := by
  have hlen := hr.length
  refine wpAny_ListComp_free (cl := []) (fun _ => true) (fun v y => ∀ a ns, v = Value.ref a → ITup s.heap a ns → ∃ t, y = Value.int (ns.getD 1 0) t) (closureFor_none (by decide)) (by decide) rfl (by decide) rfl ?_ (by intro _; rfl)
  refine nmL hk hnm hn hm ?_ hdb
  refine wpAny_pyIter_list hl.is ?_
  have hne : lA ≠ s.heap.objs.size := by obtain ⟨n, e⟩ := hl; exact Nat.ne_of_lt (Heap.lt_size e)
  refine ⟨s.heap.objs.size, _, _, _, _, _, rfl, Walks.list hh s.heap.objs.size lA hne ws.toArray, ?_, ⟨⟨_, Heap.get?_push_size _ rfl, rfl, rfl⟩, stays_list (keep_push _ _) hl.is⟩, ?_, ?_, ?_⟩
  · rw [List.size_toArray, sizeLine_eq]; omega
  · intro b hb
    show @LT.lt Nat _ b (s.heap.push _).objs.size
    rw [Heap.size_push]
    simp at hb
    rcases hb with rfl | rfl
    · exact Nat.lt_succ_self _
    · obtain ⟨n, e⟩ := hl; exact Nat.lt_succ_of_lt (Heap.lt_size e)
  · refine ⟨fun C i v s₃ m₃ E' _ _ _ _ _ _ => ?_, fun C i v s₃ m₃ E' _ hv _ hn₃ hm₃ hk₃ _ => ?_⟩
    · exact wpAny_pure ⟨rfl, s₃.heap, s₃.toks, rfl, fun _ _ e => e⟩
    · obtain ⟨a, ns, rfl, hns, hrow⟩ := hr.get (i := i) (v := v) (by simpa using hv)
      obtain ⟨x, y, rfl⟩ := hp ns (List.mem_of_getElem? hns)
      have kk : Keep s.heap s₃.heap := fun b o e => hk₃ b o (by simp; exact Nat.ne_of_lt (Heap.lt_size e)) (keep_push _ _ b o e)
      obtain ⟨us, hu, hi⟩ := hrow.keep kk
      cases hi with
      | cons a1 t1 hi =>
        cases hi with
        | cons b1 u1 hi =>
          cases hi
          refine Subscript_ (nmL rfl rfl hn₃ hm₃ (wpAny_Constant_int ?_))
          refine item_tupleT hu.is (by decide) (by decide) rfl rfl ?_
          refine ⟨fun a' ns' e' ht' => ?_, s₃.heap, _, rfl, fun _ _ e => e⟩
          cases e'
          have := itup_inj ht' hrow
          subst this
          exact ⟨_, rfl⟩
  · intro D₂ h₂ tk₂ ys vs₂ f₂ hl₂ hpl₂ hvl hP hF hk₂
    have k₂ : Keep s.heap h₂ := fun b o e => hk₂ b o (by simp; exact Nat.ne_of_lt (Heap.lt_size e)) (keep_push _ _ b o e)
    have hvs : vs₂ = ws := by
      refine List.ext_getElem? fun i => ?_
      cases q : vs₂[i]? with
      | none =>
        have : vs₂.length ≤ i := List.getElem?_eq_none_iff.mp q
        rw [hvl, List.size_toArray] at this
        exact (List.getElem?_eq_none_iff.mpr this).symm
      | some v => have := hP i v q; simpa using this.symm
    subst hvs
    rw [List.filter_eq_self.mpr (by intro _ _; rfl)] at hF
    obtain ⟨n2, e2⟩ := hpl₂
    refine hQ D₂ h₂ tk₂ k₂ ?_ ⟨ys.toList, ⟨n2, by rw [Array.toArray_toList]; exact e2⟩, paired_ints hr hF⟩
    cases q : s.heap.get? D₂ with
    | none => rfl
    | some o => exact absurd (f₂.symm.trans (keep_push s.heap { cls := .type "list_iterator", data := .fields #[.ref lA, .int 0 0] } _ _ q)) (by simp)
end
section
variable {w : World} {A : Around} {E : Value → Shared → Prop} {s : Shared} {mg mb m : Str → Option Value} {env : Env} {cN cR cL lA lsA sA : Addr} {ws ls : List Value} {nss lss : List (List Int)}
  {p1 p2 p3 p4 p5 p6 p7 p8 p9 p10 p11 p12 p13 p14 p15 p16 p17 p18 p19 : Pos} {c0 c1 c2 : Nat} {Q : Flow → Shared → Prop} {G : Heap}
theorem init_stmt (V : LEnv env cN cR cL) (hh : A.handled = none) (hn : s.heap.Ns env.locals m)
    (hw : swappedStores [.Tuple [.Name "steps" p1, .Name "place" p2] c0 p3] (.Tuple [.List [] p4, .Constant (.int 0) c1 p5] c2 p6) env = pure (some [("steps" : Str), ("place" : Str)]))
    (hQ : ∀ sA h' tk m' t, KeepS [env.locals] s.heap h' → s.heap.get? sA = none → h'.Ns env.locals m' → m' "steps" = some (.ref sA) → m' "place" = some (.int 0 t) → (∀ y : Str, y ≠ "steps" → y ≠ "place" → m' y = m y) → Lst h' sA [] → Q .next { s with heap := h', toks := tk }) :
    wpAny (model PySem.Challenge.rw_rs0001_01.row.prog w) A (exec (.Assign [.Tuple [.Name "steps" p1, .Name "place" p2] c0 p3] (.Tuple [.List [] p4, .Constant (.int 0) c1 p5] c2 p6) p7) env) Q E s := by
  refine Assign_Tuple_swapped (names := [("steps" : Str), ("place" : Str)]) ?_ rfl hw
  refine Tuple_ (spliced_more (List_ (spliced_none ?_)))
  refine newL (by simp) fun sA h1 k1 f1 l1 => ?_
  refine spliced_more (wpAny_Constant_int (spliced_none ?_))
  refine newT (by simp) fun tA h2 k2 f2 t2 => ?_
  have hT : h2.IsTuple tA #[.ref sA, .int 0 s.toks] := by obtain ⟨n, e⟩ := t2; exact ⟨_, e, rfl, _, rfl⟩
  refine wpAny_unpackItems_tuple (items := #[.ref sA, .int 0 s.toks]) hh hT fun h3 hx3 => ?_
  replace hx3 : Heap.ExtBut h2.objs.size h2 h3 := hx3
  have k3 : Keep h2 h3 := fun b o e => hx3 b o (Nat.ne_of_lt (Heap.lt_size e)) e
  have k03 : Keep s.heap h3 := Keep.trans k1 (Keep.trans k2 k3)
  show wpAny _ A (do holding [.ref sA] (bindName env "place" (.int 0 s.toks)); do holding [] (bindName env "steps" (.ref sA)); pure ()) _ _ _
  refine wpAny_bind (wpAny_holding (wpAny_bindName (wpAny_storeName_local V.place (hn.keeps k03) (fun h4 hn4 hs4 => ?_) V.hp)))
  replace hs4 : Heap.SameBut env.locals h3 h4 := hs4
  refine wpAny_bind (wpAny_holding (wpAny_bindName (wpAny_storeName_local V.steps hn4 (fun h5 hn5 hs5 => wpAny_pure ?_) V.hp)))
  replace hs5 : Heap.SameBut env.locals h4 h5 := hs5
  have nsL : sA ≠ env.locals := fun q => by obtain ⟨o, es, ep, e, _⟩ := hn; rw [q, e] at f1; cases f1
  refine hQ sA h5 _ _ _ (KeepS.trans k03.s (KeepS.trans (same_s hs4 (by simp)) (same_s hs5 (by simp)))) f1 hn5 (if_pos rfl) (by rw [if_neg (by decide), if_pos rfl]) (fun y h1 h2 => by rw [if_neg h1, if_neg h2]) ?_
  obtain ⟨n, e⟩ := l1.keep (Keep.trans k2 k3)
  exact ⟨n, hs5.extBut _ _ nsL (hs4.extBut _ _ nsL e)⟩
theorem line_stmt (V : LEnv env cN cR cL) (hn : s.heap.Ns env.locals m)
    (hQ : ∀ lA h' tk m', KeepS [env.locals] s.heap h' → s.heap.get? lA = none → h'.Ns env.locals m' → m' "line" = some (.ref lA) → (∀ y : Str, y ≠ "line" → m' y = m y) → Lst h' lA [] → Q .next { s with heap := h', toks := tk }) :
    wpAny (model PySem.Challenge.rw_rs0001_01.row.prog w) A (exec (.Assign [.Name "line" p1] (.List [] p2) p3) env) Q E s := by
  refine wpAny_Assign_Name (List_ (spliced_none ?_))
  refine newL (by simp) fun lA h1 k1 f1 l1 => ?_
  refine wpAny_storeName_local V.line (hn.keeps k1) (fun h4 hn4 hs4 => ?_) V.hp
  replace hs4 : Heap.SameBut env.locals h1 h4 := hs4
  have nsL : lA ≠ env.locals := fun q => by obtain ⟨o, es, ep, e, _⟩ := hn; rw [q, e] at f1; cases f1
  refine hQ lA h4 _ _ (KeepS.trans k1.s (same_s hs4 (by simp))) f1 hn4 (if_pos rfl) (fun y h1 => by rw [if_neg h1]) ?_
  obtain ⟨n, e⟩ := l1
  exact ⟨n, hs4.extBut _ _ nsL e⟩
theorem add_il (V : LEnv env cN cR cL) (hR : Room 4 A) (B : Base w mg mb s.heap) (hn : s.heap.Ns env.locals m) (hline : m "line" = some (.ref lA)) (hl : Lst s.heap lA ws) (hr : Rows s.heap ws nss) (hp : Pairs nss) (h4n : nss.length = 4)
    (hc : s.heap.IsCell cL (some (.ref lsA))) (hls : Lst s.heap lsA ls) (hlr : Rows s.heap ls lss) (h4 : ∀ x ∈ lss, x.length = 4) (hs : SortedBy llt lss) (hsz : ls.length < 900)
    (hQ : ∀ h' tk ls', KeepBut lsA s.heap h' → Lst h' lsA ls' → Rows h' ls' (insL llt (nss.map fun ns => ns.getD 0 0) lss) → Q .next { s with heap := h', toks := tk }) :
    wpAny (model PySem.Challenge.rw_rs0001_01.row.prog w) A (exec (.Expr (.Call (.Name "insort_left" p1) [.Name "lines" p2, .Call (.Name "tuple" p3) [.ListComp (.Subscript (.Name "step" p4) (.Constant (.int 0) c0 p5) p6) [⟨.Name "step" p7, .Name "line" p8, [], 0⟩] stepScope p9] [] p10] [] p11) p12) env) Q E s := by
  have hlen := hr.length
  refine wpAny_Expr (Call_ (nmG B V.kind V.il V.glob rfl ?_)) V.inter
  refine callWith_K B.X rfl (spliced_more (nmC V.kind V.lines V.cellL hc ?_))
  refine spliced_more (Call_ (nmB B V.kind V.tuple V.glob V.blt rfl rfl (by decide) ?_))
  refine callWith_type1 (spliced_more ?_)
  refine comp_get0 V.kind hR.1 V.line rfl hn hline hl hr hp (by omega) fun D h1 tk1 k1 f1 hD => spliced_none ?_
  obtain ⟨ys, hD, hi⟩ := hD
  have hil := hi.length
  rw [List.length_map] at hil
  refine call_tuple_list hD.is (fun h2 k2 => ?_) (by rw [List.size_toArray, sizeLine_eq]; omega)
  replace k2 : Keep h1 h2 := k2
  have k3 : Keep s.heap (h2.push { cls := .type "tuple", data := .seq ys.toArray }) := Keep.trans k1 (Keep.trans k2 (keep_push _ _))
  have ht : ITup (h2.push { cls := .type "tuple", data := .seq ys.toArray }) h2.objs.size (nss.map fun ns => ns.getD 0 0) := ⟨ys, Tup.new _ _, hi⟩
  refine spliced_none ⟨(B.keep k3).X, ?_⟩
  show wpAny _ A (call _ [.ref lsA, .ref h2.objs.size]) _ _ { s with heap := h2.push { cls := .type "tuple", data := .seq ys.toArray }, toks := tk1 }
  generalize h2.push { cls := .type "tuple", data := .seq ys.toArray } = h3 at k3 ht ⊢
  refine il_rows (n := 2) (B.keep k3) hR (hls.keep k3) (hlr.keep k3) h4 hs (by omega) ht (by rw [List.length_map]; exact h4n) fun h4 tk4 ls4 kb4 hl4 hr4 => ?_
  exact hQ h4 tk4 ls4 (KeepBut.trans (Keep.but k3) kb4) hl4 hr4
theorem add_ir (V : LEnv env cN cR cL) (hR : Room 4 A) (B : Base w mg mb s.heap) (hn : s.heap.Ns env.locals m) (hline : m "line" = some (.ref lA)) (hl : Lst s.heap lA ws) (hr : Rows s.heap ws nss) (hp : Pairs nss) (h4n : nss.length = 4)
    (hc : s.heap.IsCell cL (some (.ref lsA))) (hls : Lst s.heap lsA ls) (hlr : Rows s.heap ls lss) (h4 : ∀ x ∈ lss, x.length = 4) (hs : SortedBy llt lss) (hsz : ls.length < 900)
    (hQ : ∀ h' tk ls', KeepBut lsA s.heap h' → Lst h' lsA ls' → Rows h' ls' (insR llt (nss.map fun ns => ns.getD 0 0) lss) → Q .next { s with heap := h', toks := tk }) :
    wpAny (model PySem.Challenge.rw_rs0001_01.row.prog w) A (exec (.Expr (.Call (.Name "insort_right" p1) [.Name "lines" p2, .Call (.Name "tuple" p3) [.ListComp (.Subscript (.Name "step" p4) (.Constant (.int 0) c0 p5) p6) [⟨.Name "step" p7, .Name "line" p8, [], 0⟩] stepScope p9] [] p10] [] p11) p12) env) Q E s := by
  have hlen := hr.length
  refine wpAny_Expr (Call_ (nmG B V.kind V.ir V.glob rfl ?_)) V.inter
  refine callWith_K B.X rfl (spliced_more (nmC V.kind V.lines V.cellL hc ?_))
  refine spliced_more (Call_ (nmB B V.kind V.tuple V.glob V.blt rfl rfl (by decide) ?_))
  refine callWith_type1 (spliced_more ?_)
  refine comp_get0 V.kind hR.1 V.line rfl hn hline hl hr hp (by omega) fun D h1 tk1 k1 f1 hD => spliced_none ?_
  obtain ⟨ys, hD, hi⟩ := hD
  have hil := hi.length
  rw [List.length_map] at hil
  refine call_tuple_list hD.is (fun h2 k2 => ?_) (by rw [List.size_toArray, sizeLine_eq]; omega)
  replace k2 : Keep h1 h2 := k2
  have k3 : Keep s.heap (h2.push { cls := .type "tuple", data := .seq ys.toArray }) := Keep.trans k1 (Keep.trans k2 (keep_push _ _))
  have ht : ITup (h2.push { cls := .type "tuple", data := .seq ys.toArray }) h2.objs.size (nss.map fun ns => ns.getD 0 0) := ⟨ys, Tup.new _ _, hi⟩
  refine spliced_none ⟨(B.keep k3).X, ?_⟩
  show wpAny _ A (call _ [.ref lsA, .ref h2.objs.size]) _ _ { s with heap := h2.push { cls := .type "tuple", data := .seq ys.toArray }, toks := tk1 }
  generalize h2.push { cls := .type "tuple", data := .seq ys.toArray } = h3 at k3 ht ⊢
  refine ir_rows (n := 2) (B.keep k3) hR (hls.keep k3) (hlr.keep k3) h4 hs (by omega) ht (by rw [List.length_map]; exact h4n) fun h4 tk4 ls4 kb4 hl4 hr4 => ?_
  exact hQ h4 tk4 ls4 (KeepBut.trans (Keep.but k3) kb4) hl4 hr4
theorem check_stmt (V : LEnv env cN cR cL) (hR : Room 20 A) (B : Base w mg mb s.heap) (hn : s.heap.Ns env.locals m) (hline : m "line" = some (.ref lA)) (hl : Lst s.heap lA ws) (hr : Rows s.heap ws nss) (hp : Pairs nss) (hsz : ws.length < 60)
    (hst : m "steps" = some (.ref sA)) (hl' : Lst s.heap sA ls) (hr' : Rows s.heap ls lss) (hp' : Pairs lss) (hperm : nss.Perm lss) (hsort : SortedBy kLt nss)
    (hQ : ∀ h' tk, Keep s.heap h' → Q .next { s with heap := h', toks := tk }) :
    wpAny (model PySem.Challenge.rw_rs0001_01.row.prog w) A (exec (.If (.Compare (.ListComp (.Subscript (.Name "step" p1) (.Constant (.int 1) c0 p2) p3) [⟨.Name "step" p4, .Name "line" p5, [], 0⟩] stepScope p6) [.NotEq]
      [.Call (.Name "sorted" p7) [.ListComp (.Subscript (.Name "step" p8) (.Constant (.int 1) c1 p9) p10) [⟨.Name "step" p11, .Name "steps" p12, [], 0⟩] stepScope p13] [] p14] p15) [.Return (some (.Constant (.bool false) c2 p16)) p17] [] p18) env) Q E s := by
  have hlen := hr.length
  have hlen' := hr'.length
  have hpl := hperm.length_eq
  refine wpAny_If (wpAny_isTrue_Compare1 ?_)
  refine comp_get1 V.kind hR.1 V.line rfl hn hline hl hr hp (by omega) fun D h1 tk1 k1 f1 hD => ?_
  refine Call_ (nmB (B.keep k1) V.kind V.sorted V.glob V.blt rfl rfl (by decide) ?_)
  refine callWith_builtin1 (spliced_more ?_)
  refine comp_get1 V.kind hR.1 V.steps rfl (hn.keeps k1) hst (hl'.keep k1) (hr'.keep k1) hp' (by omega) fun D2 h2 tk2 k2 f2 hD2 => spliced_none ?_
  obtain ⟨ys, hD, hi⟩ := hD
  obtain ⟨zs, hD2, hi2⟩ := hD2
  have hil := hi2.length
  rw [List.length_map] at hil
  refine sorted_ints hD2.is hi2 (by omega) fun out ns' hns hpm hpw => ?_
  obtain ⟨eo, he⟩ := sortedAll_at h2 zs out
  have k3 : Keep h2 (sortedAll h2 zs out) := fun b o e => sortedAll_old e
  have eq : (nss.map fun ns => ns.getD 1 0) = ns' := by
    refine List.Perm.eq_of_pairwise (le := fun a b : Int => a ≤ b) (fun a b _ _ h1 h2 => by omega) ?_ hpw ((hperm.map _).trans hpm.symm)
    rw [List.pairwise_map]
    exact hsort.imp fun {a b} h => by simp [kLt] at h; simpa using h
  have hout : (sortedAll h2 zs out).IsList (h2.objs.size + 1) out.toList.toArray := ⟨_, he, rfl, eo, by rw [Array.toArray_toList]⟩
  refine ke_ne_ints (xs := ys) (ys := out.toList) (hD.keep (Keep.trans k2 k3)).is hout hi hns (by have := hR.2.2; rw [cLine_is]; omega) ?_
  rw [eq]
  simp only [decide_true, Bool.not_true]
  refine wpAny_truthy_bool ?_
  rw [if_neg (by decide)]
  exact wpAny_execs_nil (hQ _ _ (Keep.trans k1 (Keep.trans k2 k3)))
end
theorem ne_cell_ns {h : Heap} {a b : Addr} {m : Str → Option Value} {v : Option Value} (x : h.IsCell a v) (y : h.Ns b m) : a ≠ b := fun q => by
  obtain ⟨o, e, d⟩ := x; obtain ⟨o', es, ep, e', d', _⟩ := y
  rw [q, e'] at e; cases e; rw [d'] at d; cases d
theorem ne_cell_lst {h : Heap} {a b : Addr} {vs : List Value} {v : Option Value} (x : h.IsCell a v) (y : Lst h b vs) : a ≠ b := fun q => by
  obtain ⟨o, e, d⟩ := x; obtain ⟨n, e'⟩ := y
  rw [q, e'] at e; cases e; cases d
theorem ne57_cell {h : Heap} {a : Addr} {v : Option Value} (t : TabOk h) (x : h.IsCell a v) : a ≠ 57 := fun q => by
  obtain ⟨o, e, d⟩ := x; obtain ⟨ps, e', _⟩ := t
  rw [q, e'] at e; cases e; cases d
theorem cell_keepS {S : List Addr} {h h' : Heap} {c : Addr} {v : Option Value} (x : h.IsCell c v) (k : KeepS S h h') (n : c ∉ S) : h'.IsCell c v := let ⟨o, a, b⟩ := x; ⟨o, k _ _ n a, b⟩
theorem Rows.reverse {h : Heap} {vs : List Value} {nss : List (List Int)} (x : Rows h vs nss) : Rows h vs.reverse nss.reverse := by
  induction x with
  | nil => exact .nil
  | cons t _ ih => rw [List.reverse_cons, List.reverse_cons]; exact ih.snoc t
theorem lst_ne_none {h : Heap} {a b : Addr} {vs : List Value} (x : Lst h a vs) (f : h.get? b = none) : a ≠ b := fun q => by obtain ⟨n, e⟩ := x; rw [q, f] at e; cases e
theorem ns_ne_none {h : Heap} {a b : Addr} {m : Str → Option Value} (x : h.Ns a m) (f : h.get? b = none) : a ≠ b := fun q => by obtain ⟨o, es, ep, e, _⟩ := x; rw [q, f] at e; cases e
theorem cell_ne_none {h : Heap} {a b : Addr} {v : Option Value} (x : h.IsCell a v) (f : h.get? b = none) : a ≠ b := fun q => by obtain ⟨o, e, _⟩ := x; rw [q, f] at e; cases e
theorem keep_none {h h' : Heap} {a : Addr} (k : Keep h h') (f : h'.get? a = none) : h.get? a = none := by
  cases q : h.get? a with
  | none => rfl
  | some o => rw [k _ _ q] at f; cases f
abbrev swOf (nss : List (List Int)) : List Int := (lineR kLt nss).map fun ns => ns.getD 0 0
theorem lineR_pairs {nss : List (List Int)} (hp : Pairs nss) : Pairs (lineR kLt nss) := fun ns h => hp ns ((lineR_perm nss).mem_iff.mp h)
theorem swOf_length (nss : List (List Int)) : (swOf nss).length = nss.length := by rw [List.length_map]; exact (lineR_perm nss).length_eq
section
variable {w : World} {A : Around} {E : Value → Shared → Prop} {s : Shared} {mg mb m : Str → Option Value} {env : Env} {cN cR cL lA lsA sA : Addr} {ws ls : List Value} {nss lss : List (List Int)}
  {p1 p2 p3 p4 p5 p6 p7 p8 p9 p10 p11 p12 p13 p14 p15 p16 p17 p18 p19 p20 p21 p22 p23 p24 p25 p26 p27 p28 p29 p30 : Pos} {c0 c1 c2 : Nat} {Q : Flow → Shared → Prop} {G : Heap}
theorem even_branch (V : LEnv env cN cR cL) (hR : Room 20 A) (B : Base w mg mb G) (kG : Keep G s.heap) (fL : G.get? env.locals = none) (fl : G.get? lA = none) (f57 : G.get? 57 = none)
    (T : TabOk s.heap) (hn : s.heap.Ns env.locals m) (hline : m "line" = some (.ref lA)) (hl : Lst s.heap lA []) (hst : m "steps" = some (.ref sA)) (hsl : Lst s.heap sA ws) (hsne : sA ≠ lA) (hr : Rows s.heap ws nss) (hp : Pairs nss) (h4n : nss.length = 4)
    (hc : s.heap.IsCell cL (some (.ref lsA))) (hls : Lst s.heap lsA ls) (hlne : lsA ≠ lA) (hlr : Rows s.heap ls lss) (h4 : ∀ x ∈ lss, x.length = 4) (hs : SortedBy llt lss) (hsz : ls.length < 900)
    (hQ : ∀ h' tk m' vs' ls' lss', KeepS [env.locals, lA, lsA, 57] s.heap h' → h'.Ns env.locals m' → (∀ y : Str, y ≠ "step" → m' y = m y) → Lst h' lA vs' → Rows h' vs' (lineR kLt nss) → Lst h' lsA ls' → Rows h' ls' lss' → lss'.Perm (swOf nss :: lss) → SortedBy llt lss' → TabOk h' → Q .next { s with heap := h', toks := tk }) :
    wpAny (model PySem.Challenge.rw_rs0001_01.row.prog w) A (execs [.For (.Name "step" p1) (.Name "steps" p26)
      [.Expr (.Call (.Name "insort_right" p2) [.Name "line" p3, .Name "step" p4] [⟨some "key", .Lambda (lamArgs p5) (.Subscript (.Name "one" p6) (.Constant (.int 1) c0 p7) p8) lamScope p9, p10⟩] p11) p12] [] p13,
      .Expr (.Call (.Name "insort_left" p14) [.Name "lines" p15, .Call (.Name "tuple" p16) [.ListComp (.Subscript (.Name "step" p17) (.Constant (.int 0) c1 p18) p19) [⟨.Name "step" p20, .Name "line" p21, [], 0⟩] stepScope p22] [] p23] [] p24) p25] env) Q E s := by
  have hlen := hr.length
  refine wpAny_execs_cons (wpAny_For (nmL V.kind V.steps hn hst ?_) (by intro _; rfl))
  refine wpAny_pyIter_list hsl.is ?_
  have k5 : Keep s.heap (s.heap.push { cls := .type "list_iterator", data := .fields #[.ref sA, .int 0 0] }) := Keep.trans (fun _ _ e => e : Keep s.heap s.heap) (keep_push _ _)
  have kD : Lst (s.heap.push { cls := .type "list_iterator", data := .fields #[.ref sA, .int 0 0] }) sA ws := hsl.keep (keep_push _ _)
  have hitI : (s.heap.push { cls := .type "list_iterator", data := .fields #[.ref sA, .int 0 0] }).IsListIter s.heap.objs.size sA 0 := ⟨_, Heap.get?_push_size _ rfl, rfl, rfl⟩
  have fI : s.heap.get? s.heap.objs.size = none := fresh_of (fun _ _ e => e : Keep s.heap s.heap) (Nat.le_refl _)
  generalize s.heap.push { cls := .type "list_iterator", data := .fields #[.ref sA, .int 0 0] } = h5 at k5 kD hitI ⊢
  generalize s.heap.objs.size = I at hitI fI ⊢
  have n57l := ne57_lst T hls
  have n57L := ne57_ns T hn
  have nlL := ne_lst_ns hls hn
  have nlA := ne_lst_ns hl hn
  have ncL := ne_cell_ns hc hn
  have ncl := ne_cell_lst hc hl
  have ncls := ne_cell_lst hc hls
  have nc57 := ne57_cell T hc
  refine insort_loop (G := G) (D := sA) (ws := ws) (nss := nss) (lA := lA) (op := insR kLt) V (hR.le (by decide)) B (Keep.trans kG k5) fL fl f57 (keep_none kG fI) V.ir rfl rfl rfl
    (fun B' hl' hr' hp' hs' hz' hf' hk' ht' hq' => ir_pair (n := 2) B' (hR.le (by decide)) hl' hr' hp' hs' hz' hf' hk' ht' hq') insR_perm (fun x l h => insR_sorted kLt_weak x l h)
    (T.keep k5) (hn.keeps k5) hline (hl.keep k5) kD hsne (hr.keep k5) hp (by omega) hitI ?_
  intro h6 tk6 m6 vs6 ks6 hn6 hm6 hl6 hv6 T6
  rw [show nss.foldl (fun acc x => insR kLt x acc) [] = lineR kLt nss from rfl] at hv6
  have no5 : ∀ b ∈ [I, env.locals, lA, 57], NoTup h5 b := by
    intro b hb
    simp at hb
    rcases hb with hb | hb | hb | hb
    · obtain ⟨o, e, c, _⟩ := hitI; rw [hb]; exact noTup_cls e c (by decide)
    · rw [hb]; exact noTup_ns (hn.keeps k5)
    · rw [hb]; exact noTup_lst (hl.keep k5)
    · rw [hb]; exact noTup_tab (T.keep k5)
  have hls6 : Lst h6 lsA ls := (hls.keep k5).keepS ks6 (by simp; exact ⟨lst_ne_none hls fI, nlL, hlne, n57l⟩)
  have hlr6 := (hlr.keep k5).keepS ks6 no5
  have hc6 : h6.IsCell cL (some (.ref lsA)) := cell_keepS (cell_keep hc k5) ks6 (by simp; exact ⟨cell_ne_none hc fI, ncL, ncl, nc57⟩)
  have kS6 : KeepS [env.locals, lA, 57] s.heap h6 := KeepS.drop k5.s ks6 fI
  have kG6 : Keep G h6 := keep_of_s kG kS6 (by intro b hb; simp at hb; rcases hb with rfl | rfl | rfl <;> assumption)
  refine wpAny_execs_cons ?_
  refine add_il (s := { s with heap := h6, toks := tk6 }) (nss := lineR kLt nss) V (hR.le (by decide)) (B.keep kG6) hn6 ((hm6 _ (by decide)).trans hline) hl6 hv6 (lineR_pairs hp) (by rw [(lineR_perm nss).length_eq]; exact h4n) hc6 hls6 hlr6 h4 hs hsz fun h7 tk7 ls7 kb7 hl7 hr7 => ?_
  replace kb7 : KeepBut lsA h6 h7 := kb7
  refine wpAny_execs_nil ?_
  refine hQ h7 tk7 m6 vs6 ls7 _ (KeepS.trans (kS6.mono (by simp)) (KeepBut.s kb7 (by simp))) (hn6.at' fun o e => kb7 _ o nlL.symm e) hm6 (hl6.keepS (S := [lsA]) (KeepBut.s kb7 (by simp)) (by simpa using hlne.symm)) ?_ hl7 hr7 (insL_perm _ _) (insL_sorted llt_weak _ _ hs) ?_
  · exact hv6.keepS (S := [lsA]) (KeepBut.s kb7 (by simp)) (by intro b hb; simp at hb; rw [hb]; exact noTup_lst hls6)
  · exact T6.keepS (S := [lsA]) (KeepBut.s kb7 (by simp)) (by simpa using n57l.symm) (by intro b hb; simp at hb; rw [hb]; exact noCode_lst hls6)
theorem odd_branch (V : LEnv env cN cR cL) (hR : Room 20 A) (B : Base w mg mb G) (kG : Keep G s.heap) (fL : G.get? env.locals = none) (fl : G.get? lA = none) (f57 : G.get? 57 = none)
    (T : TabOk s.heap) (hn : s.heap.Ns env.locals m) (hline : m "line" = some (.ref lA)) (hl : Lst s.heap lA []) (hst : m "steps" = some (.ref sA)) (hsl : Lst s.heap sA ws) (hsne : sA ≠ lA) (hr : Rows s.heap ws nss) (hp : Pairs nss) (h4n : nss.length = 4)
    (hc : s.heap.IsCell cL (some (.ref lsA))) (hls : Lst s.heap lsA ls) (hlne : lsA ≠ lA) (hlr : Rows s.heap ls lss) (h4 : ∀ x ∈ lss, x.length = 4) (hs : SortedBy llt lss) (hsz : ls.length < 900)
    (hQ : ∀ h' tk m' vs' ls' lss', KeepS [env.locals, lA, lsA, 57] s.heap h' → h'.Ns env.locals m' → (∀ y : Str, y ≠ "step" → m' y = m y) → Lst h' lA vs' → Rows h' vs' (lineR kLt nss) → Lst h' lsA ls' → Rows h' ls' lss' → lss'.Perm (swOf nss :: lss) → SortedBy llt lss' → TabOk h' → Q .next { s with heap := h', toks := tk }) :
    wpAny (model PySem.Challenge.rw_rs0001_01.row.prog w) A (execs [.For (.Name "step" p1) (.Subscript (.Name "steps" p26) (.Slice none none (some (.UnaryOp .USub (.Constant (.int 1) c2 p27) p28)) p29) p30)
      [.Expr (.Call (.Name "insort_left" p2) [.Name "line" p3, .Name "step" p4] [⟨some "key", .Lambda (lamArgs p5) (.Subscript (.Name "one" p6) (.Constant (.int 1) c0 p7) p8) lamScope p9, p10⟩] p11) p12] [] p13,
      .Expr (.Call (.Name "insort_right" p14) [.Name "lines" p15, .Call (.Name "tuple" p16) [.ListComp (.Subscript (.Name "step" p17) (.Constant (.int 0) c1 p18) p19) [⟨.Name "step" p20, .Name "line" p21, [], 0⟩] stepScope p22] [] p23] [] p24) p25] env) Q E s := by
  have hlen := hr.length
  refine wpAny_execs_cons (wpAny_For ?_ (by intro _; rfl))
  refine Subscript_ (nmL V.kind V.steps hn hst ?_)
  refine wpAny_Slice ?_
  simp only [evalPart_none, evalPart_some]
  refine wpAny_pure (wpAny_pure (wpAny_UnaryOp (wpAny_Constant_int (neg_int ?_))))
  refine slice_lst (s := { s with toks := s.toks + 1 + 1 }) (lo := none) (hi := none) (st := some (-1)) hsl.is .none .none (.int _ _) (by decide) (by rw [List.size_toArray]; omega) fun D hz k4 f4 l4 => ?_
  rw [krv_pick] at l4
  replace k4 : Keep s.heap hz := k4
  replace f4 : s.heap.get? D = none := f4
  refine wpAny_pyIter_list l4.is ?_
  show codeAny _ _ (.forLoop _ (.ref hz.objs.size) _ _ _) _ { s with heap := hz.push { cls := .type "list_iterator", data := .fields #[.ref D, .int 0 0] }, toks := s.toks + 1 + 1 }
  have k5 : Keep s.heap (hz.push { cls := .type "list_iterator", data := .fields #[.ref D, .int 0 0] }) := Keep.trans k4 (keep_push _ _)
  have kD : Lst (hz.push { cls := .type "list_iterator", data := .fields #[.ref D, .int 0 0] }) D ws.reverse := l4.keep (keep_push _ _)
  have hitI : (hz.push { cls := .type "list_iterator", data := .fields #[.ref D, .int 0 0] }).IsListIter hz.objs.size D 0 := ⟨_, Heap.get?_push_size _ rfl, rfl, rfl⟩
  have fI : s.heap.get? hz.objs.size = none := fresh_of k4 (Nat.le_refl _)
  generalize hz.push { cls := .type "list_iterator", data := .fields #[.ref D, .int 0 0] } = h5 at k5 kD hitI ⊢
  generalize hz.objs.size = I at hitI fI ⊢
  have n57l := ne57_lst T hls
  have n57L := ne57_ns T hn
  have nlL := ne_lst_ns hls hn
  have nlA := ne_lst_ns hl hn
  have ncL := ne_cell_ns hc hn
  have ncl := ne_cell_lst hc hl
  have ncls := ne_cell_lst hc hls
  have nc57 := ne57_cell T hc
  refine insort_loop (G := G) (D := D) (ws := ws.reverse) (nss := nss.reverse) (lA := lA) (op := insL kLt) V (hR.le (by decide)) B (Keep.trans kG k5) fL fl f57 (keep_none kG fI) V.il rfl rfl rfl
    (fun B' hl' hr' hp' hs' hz' hf' hk' ht' hq' => il_pair (n := 2) B' (hR.le (by decide)) hl' hr' hp' hs' hz' hf' hk' ht' hq') insL_perm (fun x l h => insL_sorted kLt_weak x l h)
    (T.keep k5) (hn.keeps k5) hline (hl.keep k5) kD (fun q => by rw [q] at f4; obtain ⟨n, e⟩ := hl; rw [e] at f4; cases f4) (hr.reverse.keep k5) (fun ns h => hp ns (List.mem_reverse.mp h)) (by rw [List.length_reverse]; omega) hitI ?_
  intro h6 tk6 m6 vs6 ks6 hn6 hm6 hl6 hv6 T6
  rw [show nss.reverse.foldl (fun acc x => insL kLt x acc) [] = lineR kLt nss by rw [List.foldl_reverse]; exact lineL_eq kLt_weak nss] at hv6
  have no5 : ∀ b ∈ [I, env.locals, lA, 57], NoTup h5 b := by
    intro b hb
    simp at hb
    rcases hb with hb | hb | hb | hb
    · obtain ⟨o, e, c, _⟩ := hitI; rw [hb]; exact noTup_cls e c (by decide)
    · rw [hb]; exact noTup_ns (hn.keeps k5)
    · rw [hb]; exact noTup_lst (hl.keep k5)
    · rw [hb]; exact noTup_tab (T.keep k5)
  have hls6 : Lst h6 lsA ls := (hls.keep k5).keepS ks6 (by simp; exact ⟨lst_ne_none hls fI, nlL, hlne, n57l⟩)
  have hlr6 := (hlr.keep k5).keepS ks6 no5
  have hc6 : h6.IsCell cL (some (.ref lsA)) := cell_keepS (cell_keep hc k5) ks6 (by simp; exact ⟨cell_ne_none hc fI, ncL, ncl, nc57⟩)
  have kS6 : KeepS [env.locals, lA, 57] s.heap h6 := KeepS.drop k5.s ks6 fI
  have kG6 : Keep G h6 := keep_of_s kG kS6 (by intro b hb; simp at hb; rcases hb with rfl | rfl | rfl <;> assumption)
  refine wpAny_execs_cons ?_
  refine add_ir (s := { s with heap := h6, toks := tk6 }) (nss := lineR kLt nss) V (hR.le (by decide)) (B.keep kG6) hn6 ((hm6 _ (by decide)).trans hline) hl6 hv6 (lineR_pairs hp) (by rw [(lineR_perm nss).length_eq]; exact h4n) hc6 hls6 hlr6 h4 hs hsz fun h7 tk7 ls7 kb7 hl7 hr7 => ?_
  replace kb7 : KeepBut lsA h6 h7 := kb7
  refine wpAny_execs_nil ?_
  refine hQ h7 tk7 m6 vs6 ls7 _ (KeepS.trans (kS6.mono (by simp)) (KeepBut.s kb7 (by simp))) (hn6.at' fun o e => kb7 _ o nlL.symm e) hm6 (hl6.keepS (S := [lsA]) (KeepBut.s kb7 (by simp)) (by simpa using hlne.symm)) ?_ hl7 hr7 (insR_perm _ _) (insR_sorted llt_weak _ _ hs) ?_
  · exact hv6.keepS (S := [lsA]) (KeepBut.s kb7 (by simp)) (by intro b hb; simp at hb; rw [hb]; exact noTup_lst hls6)
  · exact T6.keepS (S := [lsA]) (KeepBut.s kb7 (by simp)) (by simpa using n57l.symm) (by intro b hb; simp at hb; rw [hb]; exact noCode_lst hls6)
end
theorem noTup1 {h : Heap} {b : Addr} (x : NoTup h b) : ∀ c ∈ [b], NoTup h c := by intro c hc; simp at hc; rw [hc]; exact x
theorem noTup2 {h : Heap} {a b : Addr} (x : NoTup h a) (y : NoTup h b) : ∀ c ∈ [a, b], NoTup h c := by
  intro c hc; simp at hc; rcases hc with hc | hc
  · rw [hc]; exact x
  · rw [hc]; exact y
theorem noCode1 {h : Heap} {b : Addr} (x : NoCode h b) : ∀ c ∈ [b], NoCode h c := by intro c hc; simp at hc; rw [hc]; exact x
theorem noCode2 {h : Heap} {a b : Addr} (x : NoCode h a) (y : NoCode h b) : ∀ c ∈ [a, b], NoCode h c := by
  intro c hc; simp at hc; rcases hc with hc | hc
  · rw [hc]; exact x
  · rw [hc]; exact y
abbrev evenAst (p1 p2 p3 p4 p5 p6 p7 p8 p9 p10 p11 p12 p13 p14 p15 p16 p17 p18 p19 p20 p21 p22 p23 p24 p25 p26 : Pos) (c0 c1 : Nat) : List Stmt := [.For (.Name "step" p1) (.Name "steps" p26)
      [.Expr (.Call (.Name "insort_right" p2) [.Name "line" p3, .Name "step" p4] [⟨some "key", .Lambda (lamArgs p5) (.Subscript (.Name "one" p6) (.Constant (.int 1) c0 p7) p8) lamScope p9, p10⟩] p11) p12] [] p13,
      .Expr (.Call (.Name "insort_left" p14) [.Name "lines" p15, .Call (.Name "tuple" p16) [.ListComp (.Subscript (.Name "step" p17) (.Constant (.int 0) c1 p18) p19) [⟨.Name "step" p20, .Name "line" p21, [], 0⟩] stepScope p22] [] p23] [] p24) p25]
abbrev oddAst (p1 p2 p3 p4 p5 p6 p7 p8 p9 p10 p11 p12 p13 p14 p15 p16 p17 p18 p19 p20 p21 p22 p23 p24 p25 p26 p27 p28 p29 p30 : Pos) (c0 c1 c2 : Nat) : List Stmt := [.For (.Name "step" p1) (.Subscript (.Name "steps" p26) (.Slice none none (some (.UnaryOp .USub (.Constant (.int 1) c2 p27) p28)) p29) p30)
      [.Expr (.Call (.Name "insort_left" p2) [.Name "line" p3, .Name "step" p4] [⟨some "key", .Lambda (lamArgs p5) (.Subscript (.Name "one" p6) (.Constant (.int 1) c0 p7) p8) lamScope p9, p10⟩] p11) p12] [] p13,
      .Expr (.Call (.Name "insort_right" p14) [.Name "lines" p15, .Call (.Name "tuple" p16) [.ListComp (.Subscript (.Name "step" p17) (.Constant (.int 0) c1 p18) p19) [⟨.Name "step" p20, .Name "line" p21, [], 0⟩] stepScope p22] [] p23] [] p24) p25]
section
variable {w : World} {A : Around} {E : Value → Shared → Prop} {s : Shared} {mg mb m : Str → Option Value} {env : Env} {cN cR cL lsA r : Addr} {ls : List Value} {lss : List (List Int)} {ns : List Int} {R i : Int} {tr ti : Tok}
  {p1 p2 p3 p4 p5 p6 p7 p8 p9 p10 p11 p12 p13 p14 p15 p16 p17 p18 p19 p20 p21 p22 p23 p24 p25 p26 p27 p28 p29 p30 : Pos} 
  {q1 q2 q3 q4 q5 q6 q7 q8 q9 q10 q11 q12 q13 q14 q15 q16 q17 q18 q19 q20 q21 q22 q23 q24 q25 q26 q27 q28 q29 q30 : Pos} 
  {a1 a2 a3 a4 a5 a6 a7 a8 a9 a10 a11 a12 a13 a14 a15 a16 a17 a18 a19 a20 a21 a22 a23 a24 a25 a26 a27 a28 a29 a30 : Pos} 
  {b1 b2 b3 b4 b5 b6 b7 b8 b9 b10 b11 b12 b13 b14 b15 b16 b17 b18 b19 b20 b21 b22 b23 b24 b25 b26 b27 b28 b29 b30 : Pos} 
  {c0 c1 c2 c3 c4 c5 c6 c7 c8 c9 c10 c11 c12 c13 : Nat} {Q : Flow → Shared → Prop} {G : Heap}
theorem parity (V : LEnv env cN cR cL) (hR : Room 20 A) (B : Base w mg mb G) (kG : Keep G s.heap) (fL : G.get? env.locals = none) {lA sA : Addr} {ws : List Value} {nss : List (List Int)} (fl : G.get? lA = none) (f57 : G.get? 57 = none)
    (T : TabOk s.heap) (hn : s.heap.Ns env.locals m) (hturn : m "turn" = some (.int i ti)) (hline : m "line" = some (.ref lA)) (hl : Lst s.heap lA []) (hst : m "steps" = some (.ref sA)) (hsl : Lst s.heap sA ws) (hsne : sA ≠ lA) (hr : Rows s.heap ws nss) (hp : Pairs nss) (h4n : nss.length = 4)
    (hc : s.heap.IsCell cL (some (.ref lsA))) (hls : Lst s.heap lsA ls) (hlne : lsA ≠ lA) (hlr : Rows s.heap ls lss) (h4 : ∀ x ∈ lss, x.length = 4) (hs : SortedBy llt lss) (hsz : ls.length < 900)
    (hQ : ∀ h' tk m' vs' ls' lss', KeepS [env.locals, lA, lsA, 57] s.heap h' → h'.Ns env.locals m' → (∀ y : Str, y ≠ "step" → m' y = m y) → Lst h' lA vs' → Rows h' vs' (lineR kLt nss) → Lst h' lsA ls' → Rows h' ls' lss' → lss'.Perm (swOf nss :: lss) → SortedBy llt lss' → TabOk h' → Q .next { s with heap := h', toks := tk }) :
    wpAny (model PySem.Challenge.rw_rs0001_01.row.prog w) A (exec (.If (.Compare (.BinOp (.Name "turn" q1) .Mod (.Constant (.int 2) c3 q2) q3) [.Eq] [.Constant (.int 0) c4 q4] q5)
      (evenAst p1 p2 p3 p4 p5 p6 p7 p8 p9 p10 p11 p12 p13 p14 p15 p16 p17 p18 p19 p20 p21 p22 p23 p24 p25 p26 c0 c1)
      (oddAst a1 a2 a3 a4 a5 a6 a7 a8 a9 a10 a11 a12 a13 a14 a15 a16 a17 a18 a19 a20 a21 a22 a23 a24 a25 a26 a27 a28 a29 a30 c5 c6 c7) q6) env) Q E s := by
  refine wpAny_If (wpAny_isTrue_Compare1 ?_)
  refine wpAny_BinOp (nmL V.kind V.turn hn hturn (wpAny_Constant_int (mod_int' (by decide) (wpAny_Constant_int (eq_int (wpAny_truthy_bool ?_))))))
  generalize (i.fmod 2 == 0) = b
  cases b with
  | true =>
    rw [if_pos rfl]
    exact even_branch V hR B kG fL fl f57 T hn hline hl hst hsl hsne hr hp h4n hc hls hlne hlr h4 hs hsz hQ
  | false =>
    rw [if_neg (by decide)]
    exact odd_branch V hR B kG fL fl f57 T hn hline hl hst hsl hsne hr hp h4n hc hls hlne hlr h4 hs hsz hQ
theorem turn_body (V : LEnv env cN cR cL) (hR : Room 20 A) (B : Base w mg mb G) (kG : Keep G s.heap) (fL : G.get? env.locals = none) (f57 : G.get? 57 = none) (fls : G.get? lsA = none)
    (T : TabOk s.heap) (hn : s.heap.Ns env.locals m) (hturn : m "turn" = some (.int i ti)) (hring : m "ring" = some (.int R tr)) (hRne : R ≠ 0) (hrow : m "row" = some (.ref r)) (hrt : ITup s.heap r ns) (hn4 : ns.length = 4)
    (hc : s.heap.IsCell cL (some (.ref lsA))) (hls : Lst s.heap lsA ls) (hlr : Rows s.heap ls lss) (h4 : ∀ x ∈ lss, x.length = 4) (hs : SortedBy llt lss) (hsz : ls.length < 900)
    (hw : swappedStores [.Tuple [.Name "steps" q1, .Name "place" q2] c3 q3] (.Tuple [.List [] q4, .Constant (.int 0) c4 q5] c5 q6) env = pure (some [("steps" : Str), ("place" : Str)]))
    {pl : Sem Bool} (hmc : eval (.Call (.Attribute (.Name "steps" b10) "append" b11) [.Tuple [.Name "letter" b12, .Name "place" b13] c6 b14] [] b15) env = (do
      let ov ← eval (.Name "steps" b10) env
      standAt b11.atName
      let (f, first) ← holding [ov] (getMethod ov "append" pl)
      callWith b15 f first (backTo b15 (starEach [.Tuple [.Name "letter" b12, .Name "place" b13] c6 b14] env)) []))
    (hQ : ∀ h' tk m' ls' lss', KeepS [env.locals, lsA, 57] s.heap h' → h'.Ns env.locals m' → m' "ring" = m "ring" → Lst h' lsA ls' → Rows h' ls' lss' → lss'.Perm (swOf (stepsI R 0 ns) :: lss) → SortedBy llt lss' → TabOk h' → Q .next { s with heap := h', toks := tk }) :
    wpAny (model PySem.Challenge.rw_rs0001_01.row.prog w) A (execs [.Assign [.Tuple [.Name "steps" q1, .Name "place" q2] c3 q3] (.Tuple [.List [] q4, .Constant (.int 0) c4 q5] c5 q6) q7,
      .For (.Name "letter" b1) (.Name "row" b2)
      [.Assign [.Name "place" b3] (.BinOp (.BinOp (.Name "place" b4) .Add (.Name "letter" b5) b6) .Mod (.Name "ring" b7) b8) b9,
       .Expr (.Call (.Attribute (.Name "steps" b10) "append" b11) [.Tuple [.Name "letter" b12, .Name "place" b13] c6 b14] [] b15) b16] [] b17,
      .Assign [.Name "line" q8] (.List [] q9) q10,
      .If (.Compare (.BinOp (.Name "turn" q11) .Mod (.Constant (.int 2) c7 q12) q13) [.Eq] [.Constant (.int 0) c8 q14] q15)
      (evenAst p1 p2 p3 p4 p5 p6 p7 p8 p9 p10 p11 p12 p13 p14 p15 p16 p17 p18 p19 p20 p21 p22 p23 p24 p25 p26 c0 c1)
      (oddAst a1 a2 a3 a4 a5 a6 a7 a8 a9 a10 a11 a12 a13 a14 a15 a16 a17 a18 a19 a20 a21 a22 a23 a24 a25 a26 a27 a28 a29 a30 c2 c9 c10) q16,
      .If (.Compare (.ListComp (.Subscript (.Name "step" q17) (.Constant (.int 1) c11 q18) q19) [⟨.Name "step" q20, .Name "line" q21, [], 0⟩] stepScope q22) [.NotEq]
      [.Call (.Name "sorted" q23) [.ListComp (.Subscript (.Name "step" q24) (.Constant (.int 1) c12 q25) q26) [⟨.Name "step" q27, .Name "steps" q28, [], 0⟩] stepScope q29] [] q30] b18) [.Return (some (.Constant (.bool false) c13 b19)) b20] [] b21] env) Q E s := by
  have nlL := ne_lst_ns hls hn
  have ncL := ne_cell_ns hc hn
  have n57L := ne57_ns T hn
  have n57l := ne57_lst T hls
  refine wpAny_execs_cons (init_stmt V hR.1 hn hw fun sA h1 tk1 m1 t1 ks1 f1 hn1 hst1 hpl1 hm1 hl1 => ?_)
  have hls1 : Lst h1 lsA ls := hls.keepS ks1 (by simpa using nlL)
  have hlr1 := hlr.keepS ks1 (noTup1 (noTup_ns hn))
  have hrt1 := hrt.keepS ks1 (noTup1 (noTup_ns hn))
  have hc1 := cell_keepS hc ks1 (by simpa using ncL)
  have T1 := T.keepS ks1 (by simpa using n57L.symm) (noCode1 (noCode_ns hn))
  have nss : lsA ≠ sA := lst_ne_none hls f1
  have ncs : cL ≠ sA := cell_ne_none hc f1
  have n57s := ne57_lst T1 hl1
  refine wpAny_execs_cons (letters (s := { s with heap := h1, toks := tk1 }) (R := R) (ns := ns) V (hR.le (by decide)) hn1 ((hm1 _ (by decide) (by decide)).trans hring) hRne ((hm1 _ (by decide) (by decide)).trans hrow) hrt1 (by omega) hmc hst1 hpl1 hl1 fun h2 tk2 m2 vs2 ks2 hn2 hm2 hl2 hr2 => ?_)
  replace ks2 : KeepS [env.locals, sA] h1 h2 := ks2
  have nt1 := noTup2 (noTup_ns hn1) (noTup_lst hl1)
  have hls2 : Lst h2 lsA ls := hls1.keepS ks2 (by simp; exact ⟨nlL, nss⟩)
  have hlr2 := hlr1.keepS ks2 nt1
  have hc2 := cell_keepS hc1 ks2 (by simp; exact ⟨ncL, ncs⟩)
  have T2 := T1.keepS ks2 (by simp; exact ⟨n57L.symm, n57s.symm⟩) (noCode2 (noCode_ns hn1) (noCode_lst hl1))
  refine wpAny_execs_cons (line_stmt (s := { s with heap := h2, toks := tk2 }) V hn2 fun lA h3 tk3 m3 ks3 f3 hn3 hli3 hm3 hl3 => ?_)
  replace ks3 : KeepS [env.locals] h2 h3 := ks3
  replace f3 : h2.get? lA = none := f3
  have hls3 : Lst h3 lsA ls := hls2.keepS ks3 (by simpa using nlL)
  have hlr3 := hlr2.keepS ks3 (noTup1 (noTup_ns hn2))
  have hr3 := hr2.keepS ks3 (noTup1 (noTup_ns hn2))
  have hc3 := cell_keepS hc2 ks3 (by simpa using ncL)
  have T3 := T2.keepS ks3 (by simpa using n57L.symm) (noCode1 (noCode_ns hn2))
  have nsL : sA ≠ env.locals := ne_lst_ns hl1 hn1
  have hsl3 : Lst h3 sA vs2 := hl2.keepS ks3 (by simpa using nsL)
  have ks03 : ∀ b o, b ≠ env.locals → s.heap.get? b = some o → h2.get? b = some o ∧ h3.get? b = some o := fun b o hb e => by
    have hbs : b ≠ sA := fun q => by rw [q, f1] at e; cases e
    have e1 := ks2 _ _ (by simp; exact ⟨hb, hbs⟩) (ks1 _ _ (by simpa using hb) e)
    exact ⟨e1, ks3 _ _ (by simpa using hb) e1⟩
  have kG2 : Keep G h2 := fun b o e => (ks03 b o (fun q => by rw [q, fL] at e; cases e) (kG _ _ e)).1
  have kG3 : Keep G h3 := fun b o e => (ks03 b o (fun q => by rw [q, fL] at e; cases e) (kG _ _ e)).2
  have m32 : ∀ y : Str, y ≠ "line" → y ≠ "letter" → y ≠ "place" → m3 y = m1 y := fun y h1 h2 h3 => (hm3 y h1).trans (hm2 y h2 h3)
  refine wpAny_execs_cons (parity (s := { s with heap := h3, toks := tk3 }) (lA := lA) (sA := sA) (nss := stepsI R 0 ns) V hR B kG3 fL (keep_none kG2 f3) f57 T3 hn3 (((m32 _ (by decide) (by decide) (by decide)).trans (hm1 _ (by decide) (by decide))).trans hturn) hli3 hl3 ((m32 _ (by decide) (by decide) (by decide)).trans hst1) hsl3 (lst_ne_none hl2 f3) hr3 (stepsI_pairs R 0 ns) (by rw [stepsI_length]; exact hn4) hc3 hls3 (lst_ne_none hls2 f3) hlr3 h4 hs hsz fun h4 tk4 m4 vs4 ls4 lss4 ks4 hn4' hm4 hl4 hr4 hls4 hlr4 hpm4 hso4 T4 => ?_)
  replace ks4 : KeepS [env.locals, lA, lsA, 57] h3 h4 := ks4
  have nt3 : ∀ b ∈ [env.locals, lA, lsA, 57], NoTup h3 b := by
    intro b hb
    simp at hb
    rcases hb with hb | hb | hb | hb
    · rw [hb]; exact noTup_ns hn3
    · rw [hb]; exact noTup_lst hl3
    · rw [hb]; exact noTup_lst hls3
    · rw [hb]; exact noTup_tab T3
  have hsl4 : Lst h4 sA vs2 := hsl3.keepS ks4 (by simp; exact ⟨nsL, lst_ne_none hl2 f3, nss.symm, n57s⟩)
  have hr4s := hr3.keepS ks4 nt3
  have kG4 : Keep G h4 := keep_of_s kG3 ks4 (by intro b hb; simp at hb; rcases hb with rfl | rfl | rfl | rfl; exact fL; exact keep_none kG2 f3; exact fls; exact f57)
  have hv4 := hr4.length
  have e4 : (lineR kLt (stepsI R 0 ns)).length = 4 := by rw [(lineR_perm _).length_eq, stepsI_length]; exact hn4
  refine wpAny_execs_cons (check_stmt (s := { s with heap := h4, toks := tk4 }) V hR (B.keep kG4) hn4' ((hm4 _ (by decide)).trans hli3) hl4 hr4 (lineR_pairs (stepsI_pairs R 0 ns)) (by omega) ((hm4 _ (by decide)).trans ((m32 _ (by decide) (by decide) (by decide)).trans hst1)) hsl4 hr4s (stepsI_pairs R 0 ns) (lineR_perm _) (lineR_sorted kLt_weak _) fun h5 tk5 k5 => ?_)
  replace k5 : Keep h4 h5 := k5
  refine wpAny_execs_nil ?_
  refine hQ h5 tk5 m4 ls4 lss4 (fun b o hb e => ?_) (hn4'.keeps k5) ?_ (hls4.keep k5) (hlr4.keep k5) hpm4 hso4 (T4.keep k5)
  · simp at hb
    have e3 := ks03 b o hb.1 e
    have hbl : b ≠ lA := fun q => by rw [q, f3] at e3; cases e3.1
    exact k5 _ _ (ks4 _ _ (by simp; exact ⟨hb.1, hbl, hb.2⟩) e3.2)
  · exact (hm4 _ (by decide)).trans ((m32 _ (by decide) (by decide) (by decide)).trans (hm1 _ (by decide) (by decide)))
end
theorem noCode_enum {h : Heap} {e it : Addr} {i : Int} {old : Value} (x : IsEnum h e it i old) : NoCode h e := fun o vs q t e' d f => by
  unfold IsEnum at x
  rw [e'] at x; cases x; cases d; cases f
theorem noTup_enum {h : Heap} {e it : Addr} {i : Int} {old : Value} (x : IsEnum h e it i old) : NoTup h e := noTup_cls x rfl (by decide)
theorem noTup_listIter {h : Heap} {b l : Addr} {i : Nat} (x : h.IsListIter b l i) : NoTup h b := by obtain ⟨o, e, c, _⟩ := x; exact noTup_cls e c (by decide)
section
variable {w : World} {A : Around} {E : Value → Shared → Prop} {s : Shared} {mg mb m : Str → Option Value} {env : Env} {cN cR cL lsA r : Addr} {ls : List Value} {lss : List (List Int)} {ns : List Int} {R i : Int} {tr ti : Tok}
  {p1 p2 p3 p4 p5 p6 p7 p8 p9 p10 p11 p12 p13 p14 p15 p16 p17 p18 p19 p20 p21 p22 p23 p24 p25 p26 p27 p28 p29 p30 : Pos} 
  {q1 q2 q3 q4 q5 q6 q7 q8 q9 q10 q11 q12 q13 q14 q15 q16 q17 q18 q19 q20 q21 q22 q23 q24 q25 q26 q27 q28 q29 q30 : Pos} 
  {a1 a2 a3 a4 a5 a6 a7 a8 a9 a10 a11 a12 a13 a14 a15 a16 a17 a18 a19 a20 a21 a22 a23 a24 a25 a26 a27 a28 a29 a30 : Pos} 
  {b1 b2 b3 b4 b5 b6 b7 b8 b9 b10 b11 b12 b13 b14 b15 b16 b17 b18 b19 b20 b21 b22 b23 b24 b25 b26 b27 b28 b29 b30 : Pos} 
  {c0 c1 c2 c3 c4 c5 c6 c7 c8 c9 c10 c11 c12 c13 : Nat} {Q : Flow → Shared → Prop} {G : Heap}

variable {rA : Addr} {rs : List Value} {rss : List (List Int)} {d1 d2 d3 d4 d5 d6 d7 : Pos} {c14 : Nat}
theorem main_loop (V : LEnv env cN cR cL) (hR : Room 20 A) (B : Base w mg mb G) (kG : Keep G s.heap) (fL : G.get? env.locals = none) (f57 : G.get? 57 = none) (fls : G.get? lsA = none)
    (T : TabOk s.heap) (hn : s.heap.Ns env.locals m) (hring : m "ring" = some (.int R tr)) (hRne : R ≠ 0)
    (hcr : s.heap.IsCell cR (some (.ref rA))) (hra : Lst s.heap rA rs) (hrr : Rows s.heap rs rss) (hr4 : ∀ x ∈ rss, x.length = 4) (hrsz : rss.length < 100) (hrl : rA ≠ lsA)
    (hc : s.heap.IsCell cL (some (.ref lsA))) (hls : Lst s.heap lsA [])
    (hw : swappedStores [.Tuple [.Name "steps" q1, .Name "place" q2] c3 q3] (.Tuple [.List [] q4, .Constant (.int 0) c4 q5] c5 q6) env = pure (some [("steps" : Str), ("place" : Str)]))
    {pl : Sem Bool} (hmc : eval (.Call (.Attribute (.Name "steps" b10) "append" b11) [.Tuple [.Name "letter" b12, .Name "place" b13] c6 b14] [] b15) env = (do
      let ov ← eval (.Name "steps" b10) env
      standAt b11.atName
      let (f, first) ← holding [ov] (getMethod ov "append" pl)
      callWith b15 f first (backTo b15 (starEach [.Tuple [.Name "letter" b12, .Name "place" b13] c6 b14] env)) []))
    (hQ : ∀ h' tk m' ls' lss', KeepS [env.locals, lsA, 57] s.heap h' → h'.Ns env.locals m' → Lst h' lsA ls' → Rows h' ls' lss' → lss'.Perm (rss.map fun ns => swOf (stepsI R 0 ns)) → SortedBy llt lss' → TabOk h' → Q .next { s with heap := h', toks := tk }) :
    wpAny (model PySem.Challenge.rw_rs0001_01.row.prog w) A (exec (.For (.Tuple [.Name "turn" d1, .Name "row" d2] c14 d3) (.Call (.Name "enumerate" d4) [.Name "rows" d5] [] d6) [.Assign [.Tuple [.Name "steps" q1, .Name "place" q2] c3 q3] (.Tuple [.List [] q4, .Constant (.int 0) c4 q5] c5 q6) q7,
      .For (.Name "letter" b1) (.Name "row" b2)
      [.Assign [.Name "place" b3] (.BinOp (.BinOp (.Name "place" b4) .Add (.Name "letter" b5) b6) .Mod (.Name "ring" b7) b8) b9,
       .Expr (.Call (.Attribute (.Name "steps" b10) "append" b11) [.Tuple [.Name "letter" b12, .Name "place" b13] c6 b14] [] b15) b16] [] b17,
      .Assign [.Name "line" q8] (.List [] q9) q10,
      .If (.Compare (.BinOp (.Name "turn" q11) .Mod (.Constant (.int 2) c7 q12) q13) [.Eq] [.Constant (.int 0) c8 q14] q15)
      (evenAst p1 p2 p3 p4 p5 p6 p7 p8 p9 p10 p11 p12 p13 p14 p15 p16 p17 p18 p19 p20 p21 p22 p23 p24 p25 p26 c0 c1)
      (oddAst a1 a2 a3 a4 a5 a6 a7 a8 a9 a10 a11 a12 a13 a14 a15 a16 a17 a18 a19 a20 a21 a22 a23 a24 a25 a26 a27 a28 a29 a30 c2 c9 c10) q16,
      .If (.Compare (.ListComp (.Subscript (.Name "step" q17) (.Constant (.int 1) c11 q18) q19) [⟨.Name "step" q20, .Name "line" q21, [], 0⟩] stepScope q22) [.NotEq]
      [.Call (.Name "sorted" q23) [.ListComp (.Subscript (.Name "step" q24) (.Constant (.int 1) c12 q25) q26) [⟨.Name "step" q27, .Name "steps" q28, [], 0⟩] stepScope q29] [] q30] b18) [.Return (some (.Constant (.bool false) c13 b19)) b20] [] b21] [] d7) env) Q E s := by
  have nlL := ne_lst_ns hls hn
  have nrL := ne_lst_ns hra hn
  have ncL := ne_cell_ns hc hn
  have ncl := ne_cell_lst hc hls
  have nc57 := ne57_cell T hc
  have n57L := ne57_ns T hn
  have n57l := ne57_lst T hls
  have n57r := ne57_lst T hra
  have hlen := hrr.length
  refine wpAny_For (Call_ (nmB (B.keep kG) V.kind V.enum V.glob V.blt rfl rfl (by decide) ?_)) (by intro _; rfl)
  refine callWith_type1 (spliced_more (nmC V.kind V.rows V.cellR hcr (spliced_none ?_)))
  obtain ⟨nr, er⟩ := id hra
  refine call_enumerate_1 er fun h0 he0 hit0 hz0 hk0 => ?_
  replace hk0 : Keep s.heap h0 := hk0
  have fe : s.heap.get? (s.heap.objs.size + 1) = none := fresh_of (fun _ _ e => e) (Nat.le_succ _)
  have fi : s.heap.get? s.heap.objs.size = none := fresh_of (fun _ _ e => e) (Nat.le_refl _)
  have nei : s.heap.objs.size + 1 ≠ s.heap.objs.size := Nat.succ_ne_self _
  refine wpAny_pyIter_enum he0 ?_
  generalize s.heap.objs.size + 1 = e at he0 fe nei ⊢
  generalize s.heap.objs.size = it at he0 hit0 fi nei ⊢
  have neL : e ≠ env.locals := (ns_ne_none hn fe).symm
  have niL : it ≠ env.locals := (ns_ne_none hn fi).symm
  have nel : e ≠ lsA := (lst_ne_none hls fe).symm
  have nil : it ≠ lsA := (lst_ne_none hls fi).symm
  have ner : rA ≠ e := lst_ne_none hra fe
  have nir : rA ≠ it := lst_ne_none hra fi
  have ne57 : e ≠ 57 := fun q => by obtain ⟨ps, x, _⟩ := T; rw [q, x] at fe; cases fe
  have ni57 : it ≠ 57 := fun q => by obtain ⟨ps, x, _⟩ := T; rw [q, x] at fi; cases fi
  have nce : cL ≠ e := cell_ne_none hc fe
  have nci : cL ≠ it := cell_ne_none hc fi
  refine codeAny_forLoop_any (fun d s' => ∃ h tk m' i ls' lss' old, s' = { s with heap := h, toks := tk } ∧ KeepS [env.locals, lsA, 57] s.heap h ∧ h.Ns env.locals m' ∧ m' "ring" = some (.int R tr) ∧ Lst h lsA ls' ∧ Rows h ls' lss' ∧
      lss'.Perm ((rss.take i).map fun ns => swOf (stepsI R 0 ns)) ∧ SortedBy llt lss' ∧ TabOk h ∧ IsEnum h e it ((i : Nat) : Int) old ∧ h.IsListIter it rA i ∧ i ≤ rss.length ∧ d = rss.length + 1 - i) ?_ (rss.length + 1)
    ⟨h0, s.toks, m, 0, [], [], .none, rfl, hk0.s, hn.keeps hk0, hring, hls.keep hk0, .nil, .refl _, List.Pairwise.nil, T.keep hk0, he0, hit0, by omega, rfl⟩
  rintro d s' ⟨h, tk, m', i, ls', lss', old, rfl, kh, hn', hm', hl', hlr', hpm', hso', T', he', hit', hi, rfl⟩
  have hrah : Lst h rA rs := hra.keepS kh (by simp; exact ⟨nrL, hrl, n57r⟩)
  have hch := cell_keepS hc kh (by simp; exact ⟨ncL, ncl, nc57⟩)
  have h4' : ∀ x ∈ lss', x.length = 4 := fun x hx => by
    obtain ⟨y, hy, rfl⟩ := List.mem_map.mp (hpm'.mem_iff.mp hx)
    rw [swOf_length, stepsI_length]
    exact hr4 y (List.mem_of_mem_take hy)
  have hll' : ls'.length ≤ rss.length := by
    rw [hlr'.length, hpm'.length_eq, List.length_map, List.length_take]; omega
  by_cases hlt : i < rss.length
  · have hlt' : i < rs.length := by omega
    obtain ⟨r, ns, hv, hns, hrow⟩ := hrr.get (i := i) (List.getElem?_eq_getElem hlt')
    have nt0 : ∀ b ∈ [env.locals, lsA, 57], NoTup s.heap b := by
      intro b hb
      simp at hb
      rcases hb with hb | hb | hb
      · rw [hb]; exact noTup_ns hn
      · rw [hb]; exact noTup_lst hls
      · rw [hb]; exact noTup_tab T
    refine wpAny_pyNext_enum_item he' hit' hrah.is (x := .ref r) (by rw [List.getElem?_toArray, List.getElem?_eq_getElem hlt', hv]) nei fun h1 he1 hit1 hp1 hz1 hk1 => ?_
    dsimp only
    have heH : @LT.lt Nat _ e h.objs.size := Heap.lt_size he'
    refine wpAny_letOwnedTupleGo_enum he1 fun h2 he2 hs2 => ?_
    replace hs2 : Heap.SameBut e h1 h2 := hs2
    have ht2 : h2.IsTuple h.objs.size #[.int i tk, .ref r] := ⟨_, (hs2.2 _ (Nat.ne_of_gt heH)).trans hp1, rfl, _, rfl⟩
    refine wpAny_assign_Tuple hR.1 ht2 rfl rfl fun h3 hx3 => ?_
    replace hx3 : Heap.ExtBut h2.objs.size h2 h3 := hx3
    have k23 : Keep h2 h3 := fun b o q => hx3 b o (Nat.ne_of_lt (Heap.lt_size q)) q
    have ks3 : KeepS [e, it] h h3 := fun b o hb q => by
      simp at hb
      exact k23 _ _ (hs2.extBut b o hb.1 (hk1 b o hb.1 hb.2 q))
    have hn3 : h3.Ns env.locals m' := hn'.at' fun o q => ks3 _ o (by simp; exact ⟨neL.symm, niL.symm⟩) q
    show wpAny _ A (do holding [.ref r] (assign (.Name "turn" d1) env (.int i tk)); do holding [] (assign (.Name "row" d2) env (.ref r)); pure ()) _ _ _
    refine wpAny_bind (wpAny_holding (wpAny_assign_Name (wpAny_storeName_local V.turn hn3 (fun h4 hn4 hs4 => ?_) V.hp)))
    replace hs4 : Heap.SameBut env.locals h3 h4 := hs4
    refine wpAny_bind (wpAny_holding (wpAny_assign_Name (wpAny_storeName_local V.row hn4 (fun h5 hn5 hs5 => wpAny_pure ?_) V.hp)))
    replace hs5 : Heap.SameBut env.locals h4 h5 := hs5
    have ks5 : KeepS [e, it, env.locals] h h5 := KeepS.trans (ks3.mono (by simp)) (KeepS.trans (same_s hs4 (by simp)) (same_s hs5 (by simp)))
    have nt5 : ∀ b ∈ [e, it, env.locals], NoTup h b := by
      intro b hb
      simp at hb
      rcases hb with hb | hb | hb
      · rw [hb]; exact noTup_enum he'
      · rw [hb]; exact noTup_listIter hit'
      · rw [hb]; exact noTup_ns hn'
    have nc5 : ∀ b ∈ [e, it, env.locals], NoCode h b := by
      intro b hb
      simp at hb
      rcases hb with hb | hb | hb
      · rw [hb]; exact noCode_enum he'
      · rw [hb]; exact noCode_listIter hit'
      · rw [hb]; exact noCode_ns hn'
    have ks05 : KeepS [env.locals, lsA, 57] s.heap h5 := fun b o hb q => by
      have hbe : b ≠ e := fun z => by rw [z, fe] at q; cases q
      have hbi : b ≠ it := fun z => by rw [z, fi] at q; cases q
      exact ks5 _ _ (by simp; simp at hb; exact ⟨hbe, hbi, hb.1⟩) (kh _ _ hb q)
    have kG5 : Keep G h5 := keep_of_s kG ks05 (by intro b hb; simp at hb; rcases hb with rfl | rfl | rfl <;> assumption)
    show wpAny _ A _ _ _ { s with heap := h5, toks := tk + 1 + 1 + 1 }
    refine turn_body (s := { s with heap := h5, toks := tk + 1 + 1 + 1 }) (ns := ns) (lss := lss') (ls := ls') V hR B kG5 fL f57 fls (T'.keepS ks5 (by simp; exact ⟨ne57.symm, ni57.symm, n57L.symm⟩) nc5) hn5 (by rw [if_neg (by decide), if_pos rfl]) (by rw [if_neg (by decide), if_neg (by decide)]; exact hm') hRne (if_pos rfl)
      (hrow.keepS ks05 nt0) (hr4 ns (List.mem_of_getElem? hns)) (cell_keepS hch ks5 (by simp; exact ⟨nce, nci, ncL⟩)) (hl'.keepS ks5 (by simp; exact ⟨nel.symm, nil.symm, nlL⟩)) (hlr'.keepS ks5 nt5) h4' hso' (by omega) hw hmc
      fun h6 tk6 m6 ls6 lss6 ks6 hn6 hm6 hl6 hlr6 hpm6 hso6 T6 => ?_
    replace ks6 : KeepS [env.locals, lsA, 57] h5 h6 := ks6
    refine ⟨rss.length + 1 - (i + 1), by omega, h6, tk6, m6, i + 1, ls6, lss6, .ref r, rfl, KeepS.trans ks05 ks6, hn6, ?_, hl6, hlr6, ?_, hso6, T6, ?_, ?_, by omega, rfl⟩
    · rw [hm6, if_neg (by decide), if_neg (by decide)]; exact hm'
    · have tk' : rss.take (i + 1) = rss.take i ++ [ns] := by rw [List.take_add_one, hns]; rfl
      rw [tk', List.map_append]
      exact hpm6.trans ((hpm'.cons _).trans (List.perm_append_comm (l₁ := [swOf (stepsI R 0 ns)])))
    · rw [int_add_nat]
      exact ks6 _ _ (by simp; exact ⟨neL, nel, ne57⟩) (hs5.extBut _ _ neL (hs4.extBut _ _ neL (k23 _ _ he2)))
    · refine Heap.IsListIter.at hit1 fun o q => ks6 _ _ (by simp; exact ⟨niL, nil, ni57⟩) (hs5.extBut _ _ niL (hs4.extBut _ _ niL (k23 _ _ (hs2.extBut _ _ nei.symm q))))
  · have hi' : i = rss.length := by omega
    refine wpAny_pyNext_enum_end hR.1 he' hit' hrah.is (by rw [List.getElem?_toArray]; simp; omega) fun h1 hx1 => wpAny_execs_nil ?_
    replace hx1 : Heap.ExtBut it h h1 := hx1
    have k1 : KeepS [it] h h1 := fun b o hb q => hx1 b o (by simpa using hb) q
    rw [hi', List.take_length] at hpm'
    refine hQ h1 tk m' ls' lss' (KeepS.drop kh (k1.mono (by simp)) fi) (hn'.at' fun o q => hx1 _ o niL.symm q) (hl'.keepS k1 (by simpa using nil.symm)) (hlr'.keepS k1 (noTup1 (noTup_listIter hit'))) hpm' hso' ?_
    exact T'.keepS k1 (by simpa using ni57.symm) (noCode1 (noCode_listIter hit'))
end
/-! rows as data -/
abbrev dT (ns : List Int) : PyData := .tuple (ns.map PyData.int)
theorem dT_lay (ns : List Int) : (dT ns).canLay0 = true := by simp [PyData.canLay0, ke_canLayAll0]
theorem dT_depth (ns : List Int) : (dT ns).depth = 1 := by simp [PyData.depth, ke_depthAll]
theorem noMix_ints : ∀ ns ms : List Int, SeqAt.noMixAll (ns.map PyData.int) (ms.map PyData.int) = true
  | [], [] => rfl
  | [], _ :: _ => rfl
  | _ :: _, [] => rfl
  | _ :: ns, _ :: ms => by simp [SeqAt.noMixAll, SeqAt.noMix, noMix_ints ns ms]
theorem dT_eqv (ns ms : List Int) : PyData.eqv (dT ns) (dT ms) = decide (ns = ms) := by
  rw [← SeqAt.same_eq_eqv _ _ (by simp only [SeqAt.noMix]; exact noMix_ints ns ms)]
  simp only [PySem.Spec.same]
  exact ke_sameAll ns ms
theorem readsAll_ints (h : Heap) : ∀ {vs : List Value} {ns : List Int}, IntsAre vs ns → ReadsAll h vs (ns.map PyData.int) []
  | _, _, .nil => .nil
  | _, _, .cons a t r => ReadsAll.cons (.int a t) (readsAll_ints h r)
theorem reads_itup {h : Heap} {a : Addr} {ns : List Int} (x : ITup h a ns) : Reads h (.ref a) (dT ns) [] := by
  obtain ⟨vs, ⟨n, e⟩, i⟩ := x
  exact .tuple e rfl rfl (readsAll_ints h i)
theorem readsAll_rows {h : Heap} {vs : List Value} {nss : List (List Int)} (x : Rows h vs nss) : ReadsAll h vs (nss.map dT) [] := by
  induction x with
  | nil => exact .nil
  | cons t _ ih => exact ReadsAll.cons (reads_itup t) ih
theorem reads_rows {h : Heap} {a : Addr} {vs : List Value} {nss : List (List Int)} (l : Lst h a vs) (x : Rows h vs nss) : Reads h (.ref a) (.list (nss.map dT)) [a] := by
  obtain ⟨n, e⟩ := l
  exact .list e rfl rfl (readsAll_rows x)
theorem lay_rows : ∀ nss : List (List Int), PyData.canLayAll0 (nss.map dT) = true
  | [] => rfl
  | ns :: r => by simp [PyData.canLayAll0, dT_lay, lay_rows r]
theorem depth_rows : ∀ nss : List (List Int), PyData.depthAll (nss.map dT) ≤ 1
  | [] => Nat.zero_le _
  | ns :: r => by
    rw [List.map_cons, PyData.depthAll, dT_depth]
    have := depth_rows r
    omega
theorem shaped_rows (nss : List (List Int)) : SeqAt.shaped (.list (nss.map dT)) = true := by
  have := depth_rows nss
  simp [SeqAt.shaped, PyData.canLay0, lay_rows, PyData.depth]
  omega
theorem noMix_rows : ∀ nss mss : List (List Int), SeqAt.noMixAll (nss.map dT) (mss.map dT) = true
  | [], [] => rfl
  | [], _ :: _ => rfl
  | _ :: _, [] => rfl
  | ns :: nss, ms :: mss => by simp [SeqAt.noMixAll, SeqAt.noMix, noMix_ints, noMix_rows nss mss]
theorem sameAll_rows : ∀ nss : List (List Int), PySem.Spec.sameAll (nss.map dT) (nss.map dT) = true
  | [] => by simp [PySem.Spec.sameAll]
  | ns :: nss => by simp [PySem.Spec.sameAll, PySem.Spec.same, ke_sameAll, sameAll_rows nss]
section
variable {prog : Program} {w : World} {A : Around} {E : Value → Shared → Prop} {s : Shared} {a b x : Addr} {vs ws : List Value} {nss : List (List Int)} {ns : List Int} {Q : Value → Shared → Prop}
theorem ne_rows_same (ha : Lst s.heap a vs) (hr : Rows s.heap vs nss) (hb : Lst s.heap b ws) (hr' : Rows s.heap ws nss) (hu : A.units + 64 < cLine) (h : Q (.bool false) s) : wpAny (model prog w) A (compareOp .NotEq (.ref a) (.ref b)) Q E s := by
  refine ne_dataH_same (reads_rows ha hr) (reads_rows hb hr') (shaped_rows _) (shaped_rows _) hu (by simp only [SeqAt.noMix]; exact noMix_rows nss nss) ?_
  simp only [PySem.Spec.same]
  rw [sameAll_rows]
  exact h
theorem count_rows (hl : Lst s.heap a vs) (hr : Rows s.heap vs nss) (hx : ITup s.heap x ns) (hu : A.units + 64 < cLine) (h : Q (.int (nss.count ns : Nat) s.toks) { s with toks := s.toks + 1 }) : wpAny (model prog w) A (call (.builtin "list.count") [.ref a, .ref x]) Q E s := by
  obtain ⟨n, ho⟩ := id hl
  let e : Value → Bool := fun v => @decide (∃ b ms, v = .ref b ∧ ITup s.heap b ms ∧ ms = ns) (Classical.propDecidable _)
  have hcount : ∀ {vs : List Value} {nss : List (List Int)}, Rows s.heap vs nss → vs.countP e = nss.count ns := by
    intro vs nss hr
    induction hr with
    | nil => rfl
    | @cons b ms vs nss t _ ih =>
      rw [List.countP_cons, List.count_cons, ih]
      congr 1
      by_cases q : ms = ns
      · have : e (.ref b) = true := @decide_eq_true _ (Classical.propDecidable _) ⟨b, ms, rfl, t, q⟩
        simp [this, q]
      · have : e (.ref b) = false := @decide_eq_false _ (Classical.propDecidable _) (by
          rintro ⟨b', ms', e1, e2, e3⟩
          cases e1
          exact q ((itup_inj t e2).trans e3))
        simp [this, q]
  refine call_meets PySem.F.slot_list_count ⟨_, ho, rfl⟩ PySem.F.entry_list_count (PySem.F.args_list_count_2 _ _) (PySem.SeqAt.list_countAt a vs.toArray n none #[] (.ref x) e) ⟨ho, fun y hy => ?_, ?_⟩
  · obtain ⟨b, ms, rfl, _, hb⟩ := rows_mem hr (by simpa using hy)
    have hq : e (.ref b) = PyData.eqv (dT ms) (dT ns) := by
      rw [dT_eqv]
      by_cases q : ms = ns
      · rw [decide_eq_true q]; exact @decide_eq_true _ (Classical.propDecidable _) ⟨b, ms, rfl, hb, q⟩
      · rw [decide_eq_false q]
        exact @decide_eq_false _ (Classical.propDecidable _) (by
          rintro ⟨b', ms', e1, e2, e3⟩
          cases e1
          exact q ((itup_inj hb e2).trans e3))
    rw [hq]
    refine PySem.SeqAt.eqAt_reads _ _ _ _ _ _ _ _ (reads_itup hb) (reads_itup hx) (dT_lay _) (dT_lay _) ?_
    rw [dT_depth, dT_depth]
    show A.units + 1 + 1 < cLine
    omega
  · rw [show vs.toArray.toList = vs from rfl, hcount hr]
    exact h
end

section
variable {w : World} {A : Around} {E : Value → Shared → Prop} {s : Shared} {mg mb m : Str → Option Value} {env : Env} {cN cR cL lsA rA : Addr} {ls rs : List Value} {lss rss : List (List Int)}
  {p1 p2 p3 p4 p5 p6 p7 p8 p9 p10 p11 p12 p13 p14 p15 p16 p17 p18 p19 p20 p21 p22 p23 p24 p25 : Pos} {c0 c1 c2 : Nat} {Q : Flow → Shared → Prop} {QV : Value → Shared → Prop}
theorem sorted_stmt (V : LEnv env cN cR cL) (hR : Room 20 A) (B : Base w mg mb s.heap) (hcr : s.heap.IsCell cR (some (.ref rA))) (hra : Lst s.heap rA rs) (hrr : Rows s.heap rs rss) (hr4 : ∀ x ∈ rss, x.length = 4) (hr2 : 2 ≤ rss.length) (hrsz : rss.length < 64)
    (hc : s.heap.IsCell cL (some (.ref lsA))) (hls : Lst s.heap lsA ls) (hlr : Rows s.heap ls lss) (hperm : lss.Perm rss) (hs : SortedBy llt lss)
    (hQ : ∀ h', Keep s.heap h' → Q .next { s with heap := h' }) :
    wpAny (model PySem.Challenge.rw_rs0001_01.row.prog w) A (exec (.If (.Compare (.Name "lines" p1) [.NotEq] [.Call (.Name "sorted" p2) [.Name "rows" p3] [] p4] p5) [.Return (some (.Constant (.bool false) c0 p6)) p7] [] p8) env) Q E s := by
  have hlen := hrr.length
  refine wpAny_If (wpAny_isTrue_Compare1 (nmC V.kind V.lines V.cellL hc ?_))
  refine Call_ (nmB B V.kind V.sorted V.glob V.blt rfl rfl (by decide) ?_)
  refine callWith_builtin1 (spliced_more (nmC V.kind V.rows V.cellR hcr (spliced_none ?_)))
  refine sorted_tups hra.is hrr hr4 (by omega) (by omega) fun D h1 ws mss k1 f1 hD hm hpm hso => ?_
  have eq : lss = mss := by
    refine sorted_unique (lt := llt) (fun a b ha hb h1 h2 => llt_anti a b ?_ h1 h2) (hperm.trans hpm.symm) hs hso
    rw [hr4 a (hperm.mem_iff.mp ha), hr4 b (hperm.mem_iff.mp hb)]
  subst eq
  refine ne_rows_same (hls.keep k1) (hlr.keep k1) hD hm (by have := hR.2.2; rw [cLine_is]; omega) ?_
  refine wpAny_truthy_bool ?_
  rw [if_neg (by decide)]
  exact wpAny_execs_nil (hQ _ k1)
abbrev scopeL : Scope := { kind := .function, names := [(".0", .local), ("row", .local), ("bisect_right", .globalImplicit), ("bisect_left", .globalImplicit), ("lines", .free)], isGenerator := false, isCoroutine := false }
abbrev scopeR : Scope := { kind := .function, names := [(".0", .local), ("row", .local), ("rows", .free)], isGenerator := false, isCoroutine := false }
theorem paired_count {h : Heap} {f : List Int → Nat} : ∀ {ws ys : List Value} {nss : List (List Int)}, Rows h ws nss → Paired (fun v y => ∀ a ns, v = Value.ref a → ITup h a ns → ns ∈ nss → ∃ t, y = Value.int ((f ns : Nat) : Int) t) ws ys → IntsAre ys (nss.map fun ns => ((f ns : Nat) : Int)) := by
  intro ws ys nss hr hp
  have : ∀ {ws ys : List Value} {mss : List (List Int)}, Rows h ws mss → (∀ x ∈ mss, x ∈ nss) → Paired (fun v y => ∀ a ns, v = Value.ref a → ITup h a ns → ns ∈ nss → ∃ t, y = Value.int ((f ns : Nat) : Int) t) ws ys → IntsAre ys (mss.map fun ns => ((f ns : Nat) : Int)) := by
    intro ws ys mss hr
    induction hr generalizing ys with
    | nil => intro _ hp; cases hp; exact .nil
    | cons t _ ih =>
      intro hm hp
      cases hp with
      | cons h1 h2 =>
        obtain ⟨t', rfl⟩ := h1 _ _ rfl t (hm _ (by simp))
        exact .cons _ _ (ih (fun x hx => hm x (by simp [hx])) h2)
  exact this hr (fun _ h => h) hp
theorem comp_bisect (V : LEnv env cN cR cL) (hR : Room 20 A) (B : Base w mg mb s.heap) (hcr : s.heap.IsCell cR (some (.ref rA))) (hra : Lst s.heap rA rs) (hrr : Rows s.heap rs rss) (hr4 : ∀ x ∈ rss, x.length = 4) (hrsz : rss.length < 64)
    (hc : s.heap.IsCell cL (some (.ref lsA))) (hls : Lst s.heap lsA ls) (hlr : Rows s.heap ls lss) (hl4 : ∀ x ∈ lss, x.length = 4) (hlsz : lss.length < 64) (hs : SortedBy llt lss)
    (hclo : closureFor scopeL env = pure [(("lines" : Str), cL)]) (hkl : ∀ C, (compEnvC scopeL [("lines", cL)] C env).kindOf "lines" = some .cell)
    (hQ : ∀ D h' tk, Keep s.heap h' → ILst h' D (rss.map fun ns => ((lss.count ns : Nat) : Int)) → QV (.ref D) { s with heap := h', toks := tk }) :
    wpAny (model PySem.Challenge.rw_rs0001_01.row.prog w) A (eval (.ListComp (.BinOp (.Call (.Name "bisect_right" p1) [.Name "lines" p2, .Name "row" p3] [] p4) .Sub (.Call (.Name "bisect_left" p5) [.Name "lines" p6, .Name "row" p7] [] p8) p9) [⟨.Name "row" p10, .Name "rows" p11, [], 0⟩] scopeL p12) env) QV E s := by
  have hlen := hrr.length
  refine wpAny_ListComp_free (cl := [("lines", cL)]) (fun _ => true) (fun v y => ∀ a ns, v = Value.ref a → ITup s.heap a ns → ns ∈ rss → ∃ t, y = Value.int ((lss.count ns : Nat) : Int) t) hclo (by decide) rfl (by decide) rfl ?_ (by intro _; rfl)
  refine nmC V.kind V.rows V.cellR hcr ?_
  refine wpAny_pyIter_list hra.is ?_
  have hne : rA ≠ s.heap.objs.size := by obtain ⟨n, e⟩ := hra; exact Nat.ne_of_lt (Heap.lt_size e)
  refine ⟨s.heap.objs.size, _, _, _, _, _, rfl, Walks.list hR.1 s.heap.objs.size rA hne rs.toArray, ?_, ⟨⟨_, Heap.get?_push_size _ rfl, rfl, rfl⟩, stays_list (keep_push _ _) hra.is⟩, ?_, ?_, ?_⟩
  · rw [List.size_toArray, sizeLine_eq]; omega
  · intro b hb
    show @LT.lt Nat _ b (s.heap.push _).objs.size
    rw [Heap.size_push]
    simp at hb
    rcases hb with rfl | rfl
    · exact Nat.lt_succ_self _
    · obtain ⟨n, e⟩ := hra; exact Nat.lt_succ_of_lt (Heap.lt_size e)
  · refine ⟨fun C i v s₃ m₃ E' _ _ _ _ _ _ => ?_, fun C i v s₃ m₃ E' _ hv _ hn₃ hm₃ hk₃ _ => ?_⟩
    · exact wpAny_pure ⟨rfl, s₃.heap, s₃.toks, rfl, fun _ _ e => e⟩
    · obtain ⟨a, ns, rfl, hns, hrow⟩ := hrr.get (i := i) (v := v) (by simpa using hv)
      have kk : Keep s.heap s₃.heap := fun b o e => hk₃ b o (by simp; exact Nat.ne_of_lt (Heap.lt_size e)) (keep_push _ _ b o e)
      have fin : ∀ (h' : Heap) (tk : Nat) (t : Tok), Keep s₃.heap h' → (∀ a' ns', Value.ref a = Value.ref a' → ITup s.heap a' ns' → ns' ∈ rss → ∃ t', Value.int ((lss.count ns : Nat) : Int) t = Value.int ((lss.count ns' : Nat) : Int) t') := by
        intro h' tk t _ a' ns' e' ht' _
        cases e'
        have := itup_inj ht' hrow
        subst this
        exact ⟨_, rfl⟩
      have hn4 : ns.length = 4 := hr4 ns (List.mem_of_getElem? hns)
      have hlenl := hlr.length
      obtain ⟨k1, hk1, e1, e2⟩ := cutR llt_weak ns lss hs
      obtain ⟨k2, hk2, e3, e4⟩ := cutL llt_weak ns lss hs
      have q1 : lss.countP (fun y => !llt ns y) = k1 := cut_count hk1 fun i y e => by rw [e2 i y e]; by_cases q : k1 ≤ i <;> simp [q] <;> omega
      have q2 : lss.countP (fun y => llt y ns) = k2 := cut_count hk2 e4
      have q3 := count_cut ns lss fun y hy => by rw [hl4 y hy, hn4]
      have q4 : ((k1 : Nat) : Int) - ((k2 : Nat) : Int) = ((lss.count ns : Nat) : Int) := by omega
      have eg : (compEnvC scopeL [("lines", cL)] C env).globals = mainGlobals := V.glob
      refine wpAny_BinOp (Call_ (nmG (B.keep kk) rfl rfl eg rfl ?_))
      refine callWith_K (B.keep kk).X rfl (spliced_more (nmC rfl (hkl C) rfl (cell_keep hc kk) ?_))
      refine spliced_more (nmL rfl rfl hn₃ hm₃ (spliced_none ⟨(B.keep kk).X, ?_⟩))
      refine br_plain (n := 3) (k := k1) (B.keep kk) (hR.le (by decide)) (hls.keep kk).is (by omega) (by omega) (fun i v hv => ?_) (.inr rfl) fun h4 tk4 t4 k4 => ?_
      · obtain ⟨b, ms, rfl, hms, hb⟩ := hlr.get hv
        rw [← e2 i _ hms]
        exact Asks.tup (hrow.keep kk) (hb.keep kk) (by rw [hn4, hl4 ms (List.mem_of_getElem? hms)])
      replace k4 : Keep s₃.heap h4 := k4
      have kk4 := Keep.trans kk k4
      refine Call_ (nmG (B.keep kk4) rfl rfl eg rfl ?_)
      refine callWith_K (B.keep kk4).X rfl (spliced_more (nmC rfl (hkl C) rfl (cell_keep hc kk4) ?_))
      refine spliced_more (nmL rfl rfl (hn₃.keeps k4) hm₃ (spliced_none ⟨(B.keep kk4).X, ?_⟩))
      refine bl_plain (n := 3) (k := k2) (B.keep kk4) (hR.le (by decide)) (hls.keep kk4).is (by omega) (by omega) (fun i v hv => ?_) (.inr rfl) fun h5 tk5 t5 k5 => ?_
      · obtain ⟨b, ms, rfl, hms, hb⟩ := hlr.get hv
        rw [← e4 i _ hms]
        exact Asks.tup (hb.keep kk4) (hrow.keep kk4) (by rw [hn4, hl4 ms (List.mem_of_getElem? hms)])
      replace k5 : Keep h4 h5 := k5
      refine sub_int ?_
      rw [q4]
      exact ⟨fin h5 0 _ (Keep.trans k4 k5), h5, _, rfl, Keep.trans k4 k5⟩
  · intro D₂ h₂ tk₂ ys vs₂ f₂ hl₂ hpl₂ hvl hP hF hk₂
    have k₂ : Keep s.heap h₂ := fun b o e => hk₂ b o (by simp; exact Nat.ne_of_lt (Heap.lt_size e)) (keep_push _ _ b o e)
    have hvs : vs₂ = rs := by
      refine List.ext_getElem? fun i => ?_
      cases q : vs₂[i]? with
      | none =>
        have : vs₂.length ≤ i := List.getElem?_eq_none_iff.mp q
        rw [hvl, List.size_toArray] at this
        exact (List.getElem?_eq_none_iff.mpr this).symm
      | some v => have := hP i v q; simpa using this.symm
    subst hvs
    rw [List.filter_eq_self.mpr (by intro _ _; rfl)] at hF
    obtain ⟨n2, e2⟩ := hpl₂
    exact hQ D₂ h₂ tk₂ k₂ ⟨ys.toList, ⟨n2, by rw [Array.toArray_toList]; exact e2⟩, paired_count hrr hF⟩
theorem comp_count (V : LEnv env cN cR cL) (hR : Room 20 A) (hcr : s.heap.IsCell cR (some (.ref rA))) (hra : Lst s.heap rA rs) (hrr : Rows s.heap rs rss) (hrsz : rss.length < 64)
    (hclo : closureFor scopeR env = pure [(("rows" : Str), cR)]) (hkl : ∀ C, (compEnvC scopeR [("rows", cR)] C env).kindOf "rows" = some .cell)
    {pl : Addr → Sem Bool} (hmc : ∀ C, eval (.Call (.Attribute (.Name "rows" p1) "count" p2) [.Name "row" p3] [] p4) (compEnvC scopeR [("rows", cR)] C env) = (do
      let ov ← eval (.Name "rows" p1) (compEnvC scopeR [("rows", cR)] C env)
      standAt p2.atName
      let (f, first) ← holding [ov] (getMethod ov "count" (pl C))
      callWith p4 f first (backTo p4 (starEach [.Name "row" p3] (compEnvC scopeR [("rows", cR)] C env))) []))
    (hQ : ∀ D h' tk, Keep s.heap h' → ILst h' D (rss.map fun ns => ((rss.count ns : Nat) : Int)) → QV (.ref D) { s with heap := h', toks := tk }) :
    wpAny (model PySem.Challenge.rw_rs0001_01.row.prog w) A (eval (.ListComp (.Call (.Attribute (.Name "rows" p1) "count" p2) [.Name "row" p3] [] p4) [⟨.Name "row" p5, .Name "rows" p6, [], 0⟩] scopeR p7) env) QV E s := by
  have hlen := hrr.length
  refine wpAny_ListComp_free (cl := [("rows", cR)]) (fun _ => true) (fun v y => ∀ a ns, v = Value.ref a → ITup s.heap a ns → ns ∈ rss → ∃ t, y = Value.int ((rss.count ns : Nat) : Int) t) hclo (by decide) rfl (by decide) rfl ?_ (by intro _; rfl)
  refine nmC V.kind V.rows V.cellR hcr ?_
  refine wpAny_pyIter_list hra.is ?_
  have hne : rA ≠ s.heap.objs.size := by obtain ⟨n, e⟩ := hra; exact Nat.ne_of_lt (Heap.lt_size e)
  refine ⟨s.heap.objs.size, _, _, _, _, _, rfl, Walks.list hR.1 s.heap.objs.size rA hne rs.toArray, ?_, ⟨⟨_, Heap.get?_push_size _ rfl, rfl, rfl⟩, stays_list (keep_push _ _) hra.is⟩, ?_, ?_, ?_⟩
  · rw [List.size_toArray, sizeLine_eq]; omega
  · intro b hb
    show @LT.lt Nat _ b (s.heap.push _).objs.size
    rw [Heap.size_push]
    simp at hb
    rcases hb with rfl | rfl
    · exact Nat.lt_succ_self _
    · obtain ⟨n, e⟩ := hra; exact Nat.lt_succ_of_lt (Heap.lt_size e)
  · refine ⟨fun C i v s₃ m₃ E' _ _ _ _ _ _ => ?_, fun C i v s₃ m₃ E' _ hv _ hn₃ hm₃ hk₃ _ => ?_⟩
    · exact wpAny_pure ⟨rfl, s₃.heap, s₃.toks, rfl, fun _ _ e => e⟩
    · obtain ⟨a, ns, rfl, hns, hrow⟩ := hrr.get (i := i) (v := v) (by simpa using hv)
      have kk : Keep s.heap s₃.heap := fun b o e => hk₃ b o (by simp; exact Nat.ne_of_lt (Heap.lt_size e)) (keep_push _ _ b o e)
      have fin : ∀ (h' : Heap) (tk : Nat) (t : Tok), Keep s₃.heap h' → (∀ a' ns', Value.ref a = Value.ref a' → ITup s.heap a' ns' → ns' ∈ rss → ∃ t', Value.int ((rss.count ns : Nat) : Int) t = Value.int ((rss.count ns' : Nat) : Int) t') := by
        intro h' tk t _ a' ns' e' ht' _
        cases e'
        have := itup_inj ht' hrow
        subst this
        exact ⟨_, rfl⟩
      refine MethodCall_ (nmC rfl (hkl C) rfl (cell_keep hcr kk) ?_) (hmc C)
      refine lst_method (hra.keep kk) PySem.F.slot_list_count PySem.F.type_list_count (callWith_method1 ?_)
      refine spliced_more (nmL rfl rfl hn₃ hm₃ (spliced_none ?_))
      refine count_rows (hra.keep kk) (hrr.keep kk) (hrow.keep kk) (by have := hR.2.2; rw [cLine_is]; omega) ?_
      exact ⟨fin s₃.heap 0 _ fun _ _ e => e, s₃.heap, _, rfl, fun _ _ e => e⟩
  · intro D₂ h₂ tk₂ ys vs₂ f₂ hl₂ hpl₂ hvl hP hF hk₂
    have k₂ : Keep s.heap h₂ := fun b o e => hk₂ b o (by simp; exact Nat.ne_of_lt (Heap.lt_size e)) (keep_push _ _ b o e)
    have hvs : vs₂ = rs := by
      refine List.ext_getElem? fun i => ?_
      cases q : vs₂[i]? with
      | none =>
        have : vs₂.length ≤ i := List.getElem?_eq_none_iff.mp q
        rw [hvl, List.size_toArray] at this
        exact (List.getElem?_eq_none_iff.mpr this).symm
      | some v => have := hP i v q; simpa using this.symm
    subst hvs
    rw [List.filter_eq_self.mpr (by intro _ _; rfl)] at hF
    obtain ⟨n2, e2⟩ := hpl₂
    exact hQ D₂ h₂ tk₂ k₂ ⟨ys.toList, ⟨n2, by rw [Array.toArray_toList]; exact e2⟩, paired_count hrr hF⟩
theorem last_stmt (V : LEnv env cN cR cL) (hR : Room 20 A) (B : Base w mg mb s.heap) (hcr : s.heap.IsCell cR (some (.ref rA))) (hra : Lst s.heap rA rs) (hrr : Rows s.heap rs rss) (hr4 : ∀ x ∈ rss, x.length = 4) (hrsz : rss.length < 64)
    (hc : s.heap.IsCell cL (some (.ref lsA))) (hls : Lst s.heap lsA ls) (hlr : Rows s.heap ls lss) (hperm : lss.Perm rss) (hs : SortedBy llt lss)
    (hcloL : closureFor scopeL env = pure [(("lines" : Str), cL)]) (hkL : ∀ C, (compEnvC scopeL [("lines", cL)] C env).kindOf "lines" = some .cell)
    (hcloR : closureFor scopeR env = pure [(("rows" : Str), cR)]) (hkR : ∀ C, (compEnvC scopeR [("rows", cR)] C env).kindOf "rows" = some .cell)
    {pl : Addr → Sem Bool} (hmc : ∀ C, eval (.Call (.Attribute (.Name "rows" p13) "count" p14) [.Name "row" p15] [] p16) (compEnvC scopeR [("rows", cR)] C env) = (do
      let ov ← eval (.Name "rows" p13) (compEnvC scopeR [("rows", cR)] C env)
      standAt p14.atName
      let (f, first) ← holding [ov] (getMethod ov "count" (pl C))
      callWith p16 f first (backTo p16 (starEach [.Name "row" p15] (compEnvC scopeR [("rows", cR)] C env))) []))
    (hQ : ∀ h' tk, Keep s.heap h' → Q (.ret (.bool true)) { s with heap := h', toks := tk }) :
    wpAny (model PySem.Challenge.rw_rs0001_01.row.prog w) A (exec (.Return (some (.Compare (.ListComp (.BinOp (.Call (.Name "bisect_right" p1) [.Name "lines" p2, .Name "row" p3] [] p4) .Sub (.Call (.Name "bisect_left" p5) [.Name "lines" p6, .Name "row" p7] [] p8) p9) [⟨.Name "row" p10, .Name "rows" p11, [], 0⟩] scopeL p12) [.Eq]
      [.ListComp (.Call (.Attribute (.Name "rows" p13) "count" p14) [.Name "row" p15] [] p16) [⟨.Name "row" p17, .Name "rows" p18, [], 0⟩] scopeR p19] p20)) p21) env) Q E s := by
  refine wpAny_Return_some (wpAny_Compare1 ?_)
  refine comp_bisect V hR B hcr hra hrr hr4 hrsz hc hls hlr (fun x hx => hr4 x (hperm.mem_iff.mp hx)) (by rw [hperm.length_eq]; exact hrsz) hs hcloL hkL fun D h1 tk1 k1 hD => ?_
  refine comp_count V hR (cell_keep hcr k1) (hra.keep k1) (hrr.keep k1) hrsz hcloR hkR hmc fun D2 h2 tk2 k2 hD2 => ?_
  replace k2 : Keep h1 h2 := k2
  obtain ⟨xs, hD, hx⟩ := hD.keep k2
  obtain ⟨ys, hD2, hy⟩ := hD2
  refine ke_eq_ints hD.is hD2.is hx hy (by have := hR.2.2; rw [cLine_is]; omega) ?_
  have eq : (rss.map fun ns => ((lss.count ns : Nat) : Int)) = rss.map fun ns => ((rss.count ns : Nat) : Int) := by
    refine List.map_congr_left fun ns _ => ?_
    rw [hperm.count_eq]
  rw [eq, decide_eq_true rfl]
  exact hQ _ _ (Keep.trans k1 k2)
end
/-! the plain law -/
def wtI (R : Int) (x : Int) : Nat := (x % R).toNat
theorem wtI_lt {R : Int} (h : 1 ≤ R) (x : Int) : wtI R x < R.toNat := by
  have h1 := Int.emod_nonneg x (show R ≠ 0 by omega)
  have h2 := Int.emod_lt_of_pos x (show 0 < R by omega)
  unfold wtI; omega
theorem fmod_cast {R : Int} (h : 1 ≤ R) (p : Nat) (x : Int) : (((p : Nat) : Int) + x).fmod R = (((p + wtI R x) % R.toNat : Nat) : Int) := by
  have h1 := Int.emod_nonneg x (show R ≠ 0 by omega)
  rw [Int.fmod_eq_emod_of_nonneg _ (show (0 : Int) ≤ R by omega), Int.natCast_emod, Int.natCast_add, wtI, Int.toNat_of_nonneg h1, Int.toNat_of_nonneg (show 0 ≤ R by omega), Int.add_emod_emod]
theorem stepsI_eq {R : Int} (h : 1 ≤ R) : ∀ (p : Nat) (l : List Int), stepsI R p l = (stepsG (wtI R) R.toNat p l).map fun u => [u.1, (u.2 : Int)]
  | _, [] => rfl
  | p, x :: xs => by rw [stepsI, stepsG, List.map_cons, fmod_cast h, stepsI_eq h _ xs]
theorem swOf_eq {R : Int} (h : 1 ≤ R) (ns : List Int) : swOf (stepsI R 0 ns) = sweepG (wtI R) R.toNat ns := by
  have e := stepsI_eq h 0 ns
  rw [Int.natCast_zero] at e
  unfold swOf sweepG
  rw [e, lineR_map (fun u : Int × Nat => [u.1, (u.2 : Int)]) pairLt kLt (fun u v => by simp [kLt, pairLt]), List.map_map]
  rfl
theorem orders_law {R : Int} (h : 1 ≤ R) (h' : R ≤ 12) (a b c d : Int) : ((orders [a, b, c, d]).map fun ns => swOf (stepsI R 0 ns)).Perm (orders [a, b, c, d]) := by
  have := law4 (wtI R) R.toNat (by omega) (by omega) (wtI_lt h) a b c d
  have e : (fun ns => swOf (stepsI R 0 ns)) = sweepG (wtI R) R.toNat := by funext ns; exact swOf_eq h ns
  rw [e]
  exact this
/-- k rows of n letters -/
def OL (n k : Nat) (rows : List (List Int)) : Prop := (∀ r ∈ rows, r.length = n) ∧ rows.length = k
theorem spread_lens (x : Int) (row : List Int) : ∀ r ∈ spread x row, r.length = row.length + 1 := by
  intro r hr
  unfold spread at hr
  obtain ⟨k, hk, rfl⟩ := List.mem_map.mp hr
  have := List.mem_range.mp hk
  simp
  omega
theorem OL.step {n k : Nat} (x : Int) : ∀ {rows : List (List Int)}, OL n k rows → OL (n + 1) (k * (n + 1)) (stepO rows x) := by
  intro rows h
  refine ⟨fun r hr => ?_, ?_⟩
  · obtain ⟨row, h1, h2⟩ := List.mem_flatMap.mp hr
    rw [spread_lens x row r h2, h.1 row h1]
  · obtain ⟨h1, rfl⟩ := h
    induction rows with
    | nil => simp [stepO]
    | cons row rows ih =>
      have e : stepO (row :: rows) x = spread x row ++ stepO rows x := rfl
      rw [e, List.length_append, ih fun r hr => h1 r (by simp [hr]), List.length_cons, Nat.succ_mul]
      have e2 : (spread x row).length = n + 1 := by simp [spread, h1 row (by simp)]
      omega
theorem ol0 : OL 0 1 (orders []) := by
  refine ⟨fun r hr => ?_, rfl⟩
  have : r = [] := List.mem_singleton.mp hr
  rw [this]; rfl
theorem ol1 (a : Int) : OL 1 1 (orders [a]) := ol0.step a
theorem ol2 (a b : Int) : OL 2 2 (orders [a, b]) := (ol1 a).step b
theorem ol3 (a b c : Int) : OL 3 6 (orders [a, b, c]) := (ol2 a b).step c
theorem ol4 (a b c d : Int) : OL 4 24 (orders [a, b, c, d]) := (ol3 a b c).step d
theorem orders_len (a b c d : Int) : (orders [a, b, c, d]).length = 24 := (ol4 a b c d).2
theorem orders_four (a b c d : Int) : ∀ r ∈ orders [a, b, c, d], r.length = 4 := (ol4 a b c d).1
theorem ol_take (a b c d : Int) (i : Nat) : ∃ n k, OL n k (orders ([a, b, c, d].take i)) ∧ n ≤ 4 ∧ k * (n + 1) ≤ 120 := by
  match i with
  | 0 => exact ⟨0, 1, ol0, by decide, by decide⟩
  | 1 => exact ⟨1, 1, ol1 a, by decide, by decide⟩
  | 2 => exact ⟨2, 2, ol2 a b, by decide, by decide⟩
  | 3 => exact ⟨3, 6, ol3 a b c, by decide, by decide⟩
  | i + 4 => rw [List.take_of_length_le (by simp)]; exact ⟨4, 24, ol4 a b c d, by decide, by decide⟩
theorem orders_small (a b c d : Int) (i : Nat) : ∀ r ∈ orders ([a, b, c, d].take i), r.length < 400 := by
  obtain ⟨n, k, h, h1, _⟩ := ol_take a b c d i
  intro r hr
  rw [h.1 r hr]; omega
theorem flat_take_le {α β : Type} (f : α → List β) (l : List α) (j : Nat) : ((l.take j).flatMap f).length ≤ (l.flatMap f).length := by
  have e : l.flatMap f = (l.take j).flatMap f ++ (l.drop j).flatMap f := by rw [← List.flatMap_append, List.take_append_drop]
  rw [e, List.length_append]; omega
theorem orders_total (a b c d : Int) (i : Nat) (x : Int) (j : Nat) : (((orders ([a, b, c, d].take i)).take j).flatMap (spread x)).length + 400 < 1000 := by
  have h := flat_take_le (spread x) (orders ([a, b, c, d].take i)) j
  obtain ⟨n, k, hl, _, h2⟩ := ol_take a b c d i
  have h3 := (hl.step x).2
  have h4 : ((orders ([a, b, c, d].take i)).flatMap (spread x)).length ≤ 120 := by
    show (stepO (orders ([a, b, c, d].take i)) x).length ≤ 120
    rw [h3]; exact h2
  omega
abbrev scopeD : Scope := { kind := .function, names := [(".0", .local), ("k", .local), ("first", .local), ("sum", .globalImplicit), ("nums", .free)], isGenerator := false, isCoroutine := false }
abbrev scopeX : Scope := { kind := .function, names := [(".0", .local), ("x", .local)], isGenerator := false, isCoroutine := false }
theorem ints5 {vs : List Value} {ns : List Int} (h : IntsAre vs ns) (e : ns.length = 5) : ∃ a b c d r, ns = [a, b, c, d, r] := by
  match ns, e with
  | [a, b, c, d, r], _ => exact ⟨a, b, c, d, r, rfl⟩
section
variable {w : World} {A : Around} {E : Value → Shared → Prop} {s : Shared} {mg mb m : Str → Option Value} {env : Env} {cN cR cL sc dA : Addr} {vs : List Value} {ns : List Int}
  {p1 p2 p3 p4 p5 p6 p7 p8 p9 p10 p11 p12 p13 p14 p15 p16 p17 p18 p19 p20 p21 p22 p23 p24 p25 p26 p27 p28 p29 p30 : Pos} {c0 c1 c2 c3 c4 c5 c6 c7 c8 c9 : Nat} {Q : Flow → Shared → Prop}
theorem nums_stmt (V : LEnv env cN cR cL) (hks : env.kindOf "script" = some .local) (hn : s.heap.Ns env.locals m) (hm : m "script" = some (.ref sc)) (hl : s.heap.IsList sc vs.toArray) (hi : IntsAre vs ns) (hsz : ns.length < 100) {v0 : Option Value} (hc : s.heap.IsCell cN v0)
    (hQ : ∀ a h' tk ns', KeepS [cN] s.heap h' → s.heap.get? a = none → ILst h' a ns' → ns'.length < 100 → h'.IsCell cN (some (.ref a)) → Q .next { s with heap := h', toks := tk }) :
    wpAny (model PySem.Challenge.rw_rs0001_01.row.prog w) A (exec (.Assign [.Name "nums" p1] (.Subscript (.Name "script" p2) (.Slice none (some (.Constant (.int 60) c0 p3)) none p4) p5) p6) env) Q E s := by
  have hlen := hi.length
  refine wpAny_Assign_Name (Subscript_ (nmL V.kind hks hn hm (wpAny_Slice ?_)))
  simp only [evalPart_none, evalPart_some]
  refine wpAny_pure (wpAny_Constant_int (wpAny_pure ?_))
  refine slice_lst (s := { s with toks := s.toks + 1 }) (lo := none) (hi := some 60) (st := none) hl .none (.int _ _) .none (by decide) (by rw [List.size_toArray]; omega) fun D h1 k1 f1 l1 => ?_
  replace k1 : Keep s.heap h1 := k1
  replace f1 : s.heap.get? D = none := f1
  refine wpAny_storeName_cell V.kind V.nums V.cellN (cell_keep hc k1) fun h2 hc2 hs2 => ?_
  replace hs2 : Heap.SameBut cN h1 h2 := hs2
  have hp := hi.pick none (some 60) none
  have hple := length_pickNums_le hi none (some 60) none
  refine hQ D h2 _ _ (KeepS.trans k1.s (same_s hs2 (by simp))) f1 ⟨_, ?_, hp⟩ (by omega) hc2
  obtain ⟨n, e⟩ := l1
  exact ⟨n, hs2.extBut _ _ (fun q => cell_ne_none hc f1 q.symm) e⟩
theorem drawn_stmt (V : LEnv env cN cR cL) (hR : Room 20 A) (B : Base w mg mb s.heap) (hkd : env.kindOf "drawn" = some .local) (hn : s.heap.Ns env.locals m) (hc : s.heap.IsCell cN (some (.ref sc))) (hl : ILst s.heap sc ns) (hsz : ns.length < 100)
    (hclo : closureFor scopeD env = pure [(("nums" : Str), cN)]) (hkN : ∀ C, (compEnvC scopeD [("nums", cN)] C env).kindOf "nums" = some .cell)
    (hsw : swapsWith (.ListComp (.BinOp (.Name "first" p1) .Add (.Call (.Name "sum" p2) [.ListComp (.BinOp (.Name "x" p3) .Mod (.Constant (.int 5040) c0 p4) p5)
      [⟨.Name "x" p6, .Subscript (.Name "nums" p7) (.Slice (some (.Name "k" p8)) none (some (.Constant (.int 5) c1 p9)) p10) p11, [], 0⟩] scopeX p12] [] p13) p14)
      [⟨.Tuple [.Name "k" p15, .Name "first" p16] c2 p17, .Call (.Name "enumerate" p18) [.Tuple [.Constant (.int 1) c3 p19, .Constant (.int 2) c4 p20, .Constant (.int 3) c5 p21, .Constant (.int 4) c6 p22, .Constant (.int 4) c7 p23] c8 p24] [] p25, [], 0⟩] scopeD p26) (some (.Name "drawn" p27)) p28.line env = pure true)
    (hQ : ∀ dA h' tk m' d0 d1 d2 d3 d4, KeepS [env.locals] s.heap h' → s.heap.get? dA = none → h'.Ns env.locals m' → m' "drawn" = some (.ref dA) → ILst h' dA [d0, d1, d2, d3, d4] → Q .next { s with heap := h', toks := tk }) :
    wpAny (model PySem.Challenge.rw_rs0001_01.row.prog w) A (exec (.Assign [.Name "drawn" p27] (.ListComp (.BinOp (.Name "first" p1) .Add (.Call (.Name "sum" p2) [.ListComp (.BinOp (.Name "x" p3) .Mod (.Constant (.int 5040) c0 p4) p5)
      [⟨.Name "x" p6, .Subscript (.Name "nums" p7) (.Slice (some (.Name "k" p8)) none (some (.Constant (.int 5) c1 p9)) p10) p11, [], 0⟩] scopeX p12] [] p13) p14)
      [⟨.Tuple [.Name "k" p15, .Name "first" p16] c2 p17, .Call (.Name "enumerate" p18) [.Tuple [.Constant (.int 1) c3 p19, .Constant (.int 2) c4 p20, .Constant (.int 3) c5 p21, .Constant (.int 4) c6 p22, .Constant (.int 4) c7 p23] c8 p24] [] p25, [], 0⟩] scopeD p26) p28) env) Q E s := by
  rw [exec_Assign_Name_used (env := env) _ _ _ _ hsw]
  refine wpAny_bind (wpAny_standAt (wpAny_bind ?_))
  show wpAny _ _ (comprehension _ _ env _ (newList []) false (eval _ env) (some _) >>= fun _ => pure ()) _ _ _
  refine wpAny_bind ?_
  refine wpAny_comprehension_free (cl := [("nums", cN)]) (use := some _) rfl (by intro _; rfl) hclo rfl (by decide) ?_
  refine Call_ (nmB B V.kind V.enum V.glob V.blt rfl rfl (by decide) ?_)
  refine callWith_type1 (spliced_more (Tuple_ ?_))
  refine spliced_more (wpAny_Constant_int (spliced_more (wpAny_Constant_int (spliced_more (wpAny_Constant_int (spliced_more (wpAny_Constant_int (spliced_more (wpAny_Constant_int (spliced_none ?_))))))))))
  refine newT (by simp) fun tA h1 k1 f1 t1 => spliced_none ?_
  replace k1 : Keep s.heap h1 := k1
  refine call_enumT t1 fun h2 he2 hit2 k2 => ?_
  replace k2 : Keep h1 h2 := k2
  have fe : h1.get? (h1.objs.size + 1) = none := fresh_of (fun _ _ e => e) (Nat.le_succ _)
  have fi : h1.get? h1.objs.size = none := fresh_of (fun _ _ e => e) (Nat.le_refl _)
  refine wpAny_pyIter_enum he2 ?_
  dsimp only at he2 hit2 ⊢
  generalize h1.objs.size + 1 = e at he2 fe ⊢
  generalize h1.objs.size = it at he2 hit2 fi ⊢
  refine newL (by simp) fun D h4 k4 f4 l4 => ?_
  replace k4 : Keep h2 h4 := k4
  replace f4 : h2.get? D = none := f4
  refine wpAny_newFunctionEnv (by decide) (by intro y hy; simp at hy) (fun h6 hn6 hs6 => ?_) rfl
  have k46 : Keep h4 h6 := fun b o e => hs6.extBut b o (Nat.ne_of_lt (Heap.lt_size e)) (Heap.get?_push_of_some _ e)
  have hn6' : h6.Ns h4.objs.size (fun x => List.lookup x ([] : List (Str × Value)).reverse) := hn6
  have k16 : Keep h1 h6 := Keep.trans (Keep.trans k2 k4) k46
  have fC1 : h1.get? h4.objs.size = none := fresh_of (Keep.trans k2 k4) (Nat.le_refl _)
  have fD1 : h1.get? D = none := keep_none k2 f4
  refine drawn_loop (g := h1) (cN := cN) (a := sc) (t := tA) (e := e) (it := it) (D := D) (fs := [1, 2, 3, 4, 4]) ?V (hR.le (by decide)) (B.keep k1) (cell_keep hc k1) (hl.keep k1) hsz t1 (.cons _ _ (.cons _ _ (.cons _ _ (.cons _ _ (.cons _ _ .nil))))) (by simp) k16 fC1 fD1 fe fi hn6' (l4.keep k46) (k46 _ _ (k4 _ _ he2)) (isTupleIter_at hit2 fun o q => k46 _ _ (k4 _ _ q)) rfl rfl ?_
  case V => exact ⟨rfl, V.glob, V.blt, rfl, rfl, rfl, hkN _, rfl, rfl⟩
  intro h7 tk7 m7 vs7 ns7 k7 hn7 l7 i7 e7
  show wpAny _ _ (assign (.Name "drawn" _) env (.ref D)) _ _ _
  have hn7L : h7.Ns env.locals m := hn.keeps (Keep.trans k1 k7)
  refine wpAny_assign_Name (wpAny_storeName_local hkd hn7L (fun h8 hn8 hs8 => ?_) V.hp)
  replace hs8 : Heap.SameBut env.locals h7 h8 := hs8
  have nCL : h4.objs.size ≠ env.locals := fun q => ns_ne_none (hn.keeps k1) fC1 q.symm
  have nDL : D ≠ env.locals := fun q => ns_ne_none (hn.keeps k1) fD1 q.symm
  have nDC : D ≠ h4.objs.size := fun q => by
    obtain ⟨n, x⟩ := l4
    exact absurd (Heap.lt_size x) (by rw [q]; exact Nat.lt_irrefl _)
  refine ⟨m7, hn7.sameBut hs8 nCL, fun h9 hs9 => ?_⟩
  replace hs9 : Heap.SameBut h4.objs.size h8 h9 := hs9
  refine wpAny_pure (wpAny_pure ?_)
  obtain ⟨d0, d1, d2, d3, d4, rfl⟩ := ints5 i7 (by rw [e7]; rfl)
  refine hQ D h9 _ _ d0 d1 d2 d3 d4 (fun b o hb q => ?_) (keep_none k1 fD1) (hn8.sameBut hs9 nCL.symm) (if_pos rfl) ⟨vs7, ?_, i7⟩
  · simp at hb
    have q1 := k1 _ _ q
    exact hs9.extBut _ _ (fun z => by rw [z, fC1] at q1; cases q1) (hs8.extBut _ _ hb (k7 _ _ q1))
  · obtain ⟨n, x⟩ := l7
    exact ⟨n, hs9.extBut _ _ nDC (hs8.extBut _ _ nDL x)⟩
theorem ring_stmt (V : LEnv env cN cR cL) (hkd : env.kindOf "drawn" = some .local) {d0 d1 d2 d3 d4 : Int} (hn : s.heap.Ns env.locals m) (hm : m "drawn" = some (.ref dA)) (hl : ILst s.heap dA [d0, d1, d2, d3, d4])
    (hQ : ∀ h' tk m' R t, KeepS [env.locals] s.heap h' → h'.Ns env.locals m' → m' "ring" = some (.int R t) → 1 ≤ R → R ≤ 12 → m' "drawn" = m "drawn" → Q .next { s with heap := h', toks := tk }) :
    wpAny (model PySem.Challenge.rw_rs0001_01.row.prog w) A (exec (.Assign [.Name "ring" p1] (.BinOp (.Constant (.int 1) c0 p2) .Add (.BinOp (.Subscript (.Name "drawn" p3) (.Constant (.int 4) c1 p4) p5) .Mod (.Constant (.int 12) c2 p6) p7) p8) p9) env) Q E s := by
  obtain ⟨vs, hl, hi⟩ := hl
  refine wpAny_Assign_Name (wpAny_BinOp (wpAny_Constant_int (wpAny_BinOp (Subscript_ (nmL V.kind hkd hn hm (wpAny_Constant_int ?_))))))
  refine item_list_ints hl.is hi (by decide) (by simp) (by decide) fun t => ?_
  refine wpAny_Constant_int (mod_int' (by decide) (add_int ?_))
  refine wpAny_storeName_local V.ring hn (fun h1 hn1 hs1 => ?_) V.hp
  refine hQ h1 _ _ _ _ (same_s hs1 (by simp)) hn1 (if_pos rfl) ?_ ?_ (if_neg (by decide))
  · have := Int.fmod_nonneg_of_pos ([d0, d1, d2, d3, d4].getD (4 : Int).toNat 0) (show (0 : Int) < 12 by decide); omega
  · have := Int.fmod_lt_of_pos ([d0, d1, d2, d3, d4].getD (4 : Int).toNat 0) (show (0 : Int) < 12 by decide); omega
theorem rows_stmt (V : LEnv env cN cR cL) (hR : Room 20 A) (B : Base w mg mb s.heap) (hkd : env.kindOf "drawn" = some .local) (hko : env.kindOf "_law_orders" = some .globalImplicit) {d0 d1 d2 d3 d4 : Int} (hn : s.heap.Ns env.locals m) (hm : m "drawn" = some (.ref dA)) (hl : ILst s.heap dA [d0, d1, d2, d3, d4]) {v0 : Option Value} (hc : s.heap.IsCell cR v0)
    (hQ : ∀ rA h' tk rs, KeepS [cR] s.heap h' → Lst h' rA rs → Rows h' rs (orders [d0, d1, d2, d3]) → h'.IsCell cR (some (.ref rA)) → Q .next { s with heap := h', toks := tk }) :
    wpAny (model PySem.Challenge.rw_rs0001_01.row.prog w) A (exec (.Assign [.Name "rows" p1] (.Call (.Name "_law_orders" p2) [.Subscript (.Name "drawn" p3) (.Slice none (some (.Constant (.int 4) c0 p4)) none p5) p6] [] p7) p8) env) Q E s := by
  obtain ⟨vs, hl, hi⟩ := hl
  have hlen := hi.length
  refine wpAny_Assign_Name (Call_ (nmG B V.kind hko V.glob rfl ?_))
  refine callWith_K B.X rfl (spliced_more (Subscript_ (nmL V.kind hkd hn hm (wpAny_Slice ?_))))
  simp only [evalPart_none, evalPart_some]
  refine wpAny_pure (wpAny_Constant_int (wpAny_pure ?_))
  refine slice_lst (s := { s with toks := s.toks + 1 }) (lo := none) (hi := some 4) (st := none) hl.is .none (.int _ _) .none (by decide) (by rw [List.size_toArray, hlen]; simp) fun D h1 k1 f1 l1 => spliced_none ?_
  replace k1 : Keep s.heap h1 := k1
  have hp := hi.pick none (some 4) none
  rw [show pickNums [d0, d1, d2, d3, d4] none (some 4) none = [d0, d1, d2, d3] from rfl] at hp
  refine ⟨(B.keep k1).X, ?_⟩
  refine orders_spec (B.keep k1) (hR.le (by decide)) l1.is hp (orders_small d0 d1 d2 d3) (orders_total d0 d1 d2 d3) fun r h2 tk2 k2 hr2 => ?_
  replace k2 : Keep h1 h2 := k2
  refine wpAny_storeName_cell V.kind V.rows V.cellR (cell_keep hc (Keep.trans k1 k2)) fun h3 hc3 hs3 => ?_
  replace hs3 : Heap.SameBut cR h2 h3 := hs3
  obtain ⟨rs, hl2, hr2⟩ := hr2
  have hc2 := cell_keep hc (Keep.trans k1 k2)
  refine hQ r h3 _ rs (KeepS.trans (Keep.trans k1 k2).s (same_s hs3 (by simp))) ?_ (hr2.keepS (S := [cR]) (same_s hs3 (by simp)) (noTup1 ?_)) hc3
  · obtain ⟨n, e⟩ := hl2
    exact ⟨n, hs3.extBut _ _ (fun q => ne_cell_lst hc2 ⟨n, e⟩ q.symm) e⟩
  · intro o e _ xs n q
    obtain ⟨o', e', d'⟩ := hc2
    rw [e] at e'; cases e'; rw [d'] at q; cases q
theorem lines_stmt (V : LEnv env cN cR cL) {v0 : Option Value} (hc : s.heap.IsCell cL v0)
    (hQ : ∀ lA h' tk, KeepS [cL] s.heap h' → s.heap.get? lA = none → Lst h' lA [] → h'.IsCell cL (some (.ref lA)) → Q .next { s with heap := h', toks := tk }) :
    wpAny (model PySem.Challenge.rw_rs0001_01.row.prog w) A (exec (.Assign [.Name "lines" p1] (.List [] p2) p3) env) Q E s := by
  refine wpAny_Assign_Name (List_ (spliced_none ?_))
  refine newL (by simp) fun lA h1 k1 f1 l1 => ?_
  refine wpAny_storeName_cell V.kind V.lines V.cellL (cell_keep hc k1) fun h3 hc3 hs3 => ?_
  replace hs3 : Heap.SameBut cL h1 h3 := hs3
  refine hQ lA h3 _ (KeepS.trans k1.s (same_s hs3 (by simp))) f1 ?_ hc3
  obtain ⟨n, e⟩ := l1
  exact ⟨n, hs3.extBut _ _ (fun q => cell_ne_none hc f1 q.symm) e⟩
end
theorem ne_none_cell {h : Heap} {a b : Addr} {v : Option Value} (f : h.get? b = none) (x : h.IsCell a v) : b ≠ a := fun q => cell_ne_none x f q.symm
theorem noCode_cell {h : Heap} {b : Addr} {v : Option Value} (x : h.IsCell b v) : NoCode h b := fun o vs q t e d => by
  obtain ⟨o', e', d'⟩ := x
  rw [e] at e'; cases e'; rw [d'] at d; cases d
theorem noTup_cell {h : Heap} {b : Addr} {v : Option Value} (x : h.IsCell b v) : NoTup h b := fun o e _ xs n q => by
  obtain ⟨o', e', d'⟩ := x
  rw [e] at e'; cases e'; rw [d'] at q; cases q
section
variable {w : World} {A : Around} {E : Value → Shared → Prop} {s : Shared} {mg mb m : Str → Option Value} {env : Env} {cN cR cL sc : Addr} {vs : List Value} {ns : List Int} {Q : Flow → Shared → Prop} {G : Heap}
  {x1p1 x1p2 x1p3 x1p4 x1p5 x1p6 x2p1 x2p10 x2p11 x2p12 x2p13 x2p14 x2p15 x2p16 x2p17 x2p18 x2p19 x2p2 x2p20 x2p21 x2p22 x2p23 x2p24 x2p25 x2p26 x2p27 x2p28 x2p3 x2p4 x2p5 x2p6 x2p7 x2p8 x2p9 x3p1 x3p2 x3p3 x3p4 x3p5 x3p6 x3p7 x3p8 x3p9 x4p1 x4p2 x4p3 x4p4 x4p5 x4p6 x4p7 x4p8 x5p1 x5p2 x5p3 x6a1 x6a10 x6a11 x6a12 x6a13 x6a14 x6a15 x6a16 x6a17 x6a18 x6a19 x6a2 x6a20 x6a21 x6a22 x6a23 x6a24 x6a25 x6a26 x6a27 x6a28 x6a29 x6a3 x6a30 x6a4 x6a5 x6a6 x6a7 x6a8 x6a9 x6b1 x6b10 x6b11 x6b12 x6b13 x6b14 x6b15 x6b16 x6b17 x6b18 x6b19 x6b2 x6b20 x6b21 x6b3 x6b4 x6b5 x6b6 x6b7 x6b8 x6b9 x6d1 x6d2 x6d3 x6d4 x6d5 x6d6 x6d7 x6p1 x6p10 x6p11 x6p12 x6p13 x6p14 x6p15 x6p16 x6p17 x6p18 x6p19 x6p2 x6p20 x6p21 x6p22 x6p23 x6p24 x6p25 x6p26 x6p3 x6p4 x6p5 x6p6 x6p7 x6p8 x6p9 x6q1 x6q10 x6q11 x6q12 x6q13 x6q14 x6q15 x6q16 x6q17 x6q18 x6q19 x6q2 x6q20 x6q21 x6q22 x6q23 x6q24 x6q25 x6q26 x6q27 x6q28 x6q29 x6q3 x6q30 x6q4 x6q5 x6q6 x6q7 x6q8 x6q9 x7p1 x7p2 x7p3 x7p4 x7p5 x7p6 x7p7 x7p8 x8p1 x8p10 x8p11 x8p12 x8p13 x8p14 x8p15 x8p16 x8p17 x8p18 x8p19 x8p2 x8p20 x8p21 x8p3 x8p4 x8p5 x8p6 x8p7 x8p8 x8p9 : Pos} {x1c0 x2c0 x2c1 x2c2 x2c3 x2c4 x2c5 x2c6 x2c7 x2c8 x3c0 x3c1 x3c2 x4c0 x6c0 x6c1 x6c10 x6c11 x6c12 x6c13 x6c14 x6c2 x6c3 x6c4 x6c5 x6c6 x6c7 x6c8 x6c9 x7c0 : Nat}
theorem law_body (V : LEnv env cN cR cL) (hR : Room 20 A) (B : Base w mg mb G) (kG : Keep G s.heap) (fL : G.get? env.locals = none) (fN : G.get? cN = none) (fR : G.get? cR = none) (fl : G.get? cL = none) (f57 : G.get? 57 = none)
    (hNR : cN ≠ cR) (hNL : cN ≠ cL) (hRL : cR ≠ cL) (hks : env.kindOf "script" = some .local) (hkd : env.kindOf "drawn" = some .local) (hko : env.kindOf "_law_orders" = some .globalImplicit)
    (T : TabOk s.heap) (hn : s.heap.Ns env.locals m) (hm : m "script" = some (.ref sc)) (hl : s.heap.IsList sc vs.toArray) (hi : IntsAre vs ns) (hsz : ns.length < 100)
    (hcN : s.heap.IsCell cN none) (hcR : s.heap.IsCell cR none) (hcL : s.heap.IsCell cL none)
    (hcloD : closureFor scopeD env = pure [(("nums" : Str), cN)]) (hkN : ∀ C, (compEnvC scopeD [("nums", cN)] C env).kindOf "nums" = some .cell)
    (hsw : swapsWith (.ListComp (.BinOp (.Name "first" x2p1) .Add (.Call (.Name "sum" x2p2) [.ListComp (.BinOp (.Name "x" x2p3) .Mod (.Constant (.int 5040) x2c0 x2p4) x2p5)
      [⟨.Name "x" x2p6, .Subscript (.Name "nums" x2p7) (.Slice (some (.Name "k" x2p8)) none (some (.Constant (.int 5) x2c1 x2p9)) x2p10) x2p11, [], 0⟩] scopeX x2p12] [] x2p13) x2p14)
      [⟨.Tuple [.Name "k" x2p15, .Name "first" x2p16] x2c2 x2p17, .Call (.Name "enumerate" x2p18) [.Tuple [.Constant (.int 1) x2c3 x2p19, .Constant (.int 2) x2c4 x2p20, .Constant (.int 3) x2c5 x2p21, .Constant (.int 4) x2c6 x2p22, .Constant (.int 4) x2c7 x2p23] x2c8 x2p24] [] x2p25, [], 0⟩] scopeD x2p26) (some (.Name "drawn" x2p27)) x2p28.line env = pure true)
    (hw : swappedStores [.Tuple [.Name "steps" x6q1, .Name "place" x6q2] x6c3 x6q3] (.Tuple [.List [] x6q4, .Constant (.int 0) x6c4 x6q5] x6c5 x6q6) env = pure (some [("steps" : Str), ("place" : Str)]))
    {pl : Sem Bool} (hmc : eval (.Call (.Attribute (.Name "steps" x6b10) "append" x6b11) [.Tuple [.Name "letter" x6b12, .Name "place" x6b13] x6c6 x6b14] [] x6b15) env = (do
      let ov ← eval (.Name "steps" x6b10) env
      standAt x6b11.atName
      let (f, first) ← holding [ov] (getMethod ov "append" pl)
      callWith x6b15 f first (backTo x6b15 (starEach [.Tuple [.Name "letter" x6b12, .Name "place" x6b13] x6c6 x6b14] env)) []))
    (hcloL : closureFor scopeL env = pure [(("lines" : Str), cL)]) (hkL : ∀ C, (compEnvC scopeL [("lines", cL)] C env).kindOf "lines" = some .cell)
    (hcloR : closureFor scopeR env = pure [(("rows" : Str), cR)]) (hkR : ∀ C, (compEnvC scopeR [("rows", cR)] C env).kindOf "rows" = some .cell)
    {pl2 : Addr → Sem Bool} (hmc2 : ∀ C, eval (.Call (.Attribute (.Name "rows" x8p13) "count" x8p14) [.Name "row" x8p15] [] x8p16) (compEnvC scopeR [("rows", cR)] C env) = (do
      let ov ← eval (.Name "rows" x8p13) (compEnvC scopeR [("rows", cR)] C env)
      standAt x8p14.atName
      let (f, first) ← holding [ov] (getMethod ov "count" (pl2 C))
      callWith x8p16 f first (backTo x8p16 (starEach [.Name "row" x8p15] (compEnvC scopeR [("rows", cR)] C env))) []))
    (hQ : ∀ h' tk, Keep G h' → TabOk h' → Q (.ret (.bool true)) { s with heap := h', toks := tk }) :
    wpAny (model PySem.Challenge.rw_rs0001_01.row.prog w) A (execs [(.Assign [.Name "nums" x1p1] (.Subscript (.Name "script" x1p2) (.Slice none (some (.Constant (.int 60) x1c0 x1p3)) none x1p4) x1p5) x1p6),
      (.Assign [.Name "drawn" x2p27] (.ListComp (.BinOp (.Name "first" x2p1) .Add (.Call (.Name "sum" x2p2) [.ListComp (.BinOp (.Name "x" x2p3) .Mod (.Constant (.int 5040) x2c0 x2p4) x2p5)
      [⟨.Name "x" x2p6, .Subscript (.Name "nums" x2p7) (.Slice (some (.Name "k" x2p8)) none (some (.Constant (.int 5) x2c1 x2p9)) x2p10) x2p11, [], 0⟩] scopeX x2p12] [] x2p13) x2p14)
      [⟨.Tuple [.Name "k" x2p15, .Name "first" x2p16] x2c2 x2p17, .Call (.Name "enumerate" x2p18) [.Tuple [.Constant (.int 1) x2c3 x2p19, .Constant (.int 2) x2c4 x2p20, .Constant (.int 3) x2c5 x2p21, .Constant (.int 4) x2c6 x2p22, .Constant (.int 4) x2c7 x2p23] x2c8 x2p24] [] x2p25, [], 0⟩] scopeD x2p26) x2p28),
      (.Assign [.Name "ring" x3p1] (.BinOp (.Constant (.int 1) x3c0 x3p2) .Add (.BinOp (.Subscript (.Name "drawn" x3p3) (.Constant (.int 4) x3c1 x3p4) x3p5) .Mod (.Constant (.int 12) x3c2 x3p6) x3p7) x3p8) x3p9),
      (.Assign [.Name "rows" x4p1] (.Call (.Name "_law_orders" x4p2) [.Subscript (.Name "drawn" x4p3) (.Slice none (some (.Constant (.int 4) x4c0 x4p4)) none x4p5) x4p6] [] x4p7) x4p8),
      (.Assign [.Name "lines" x5p1] (.List [] x5p2) x5p3),
      (.For (.Tuple [.Name "turn" x6d1, .Name "row" x6d2] x6c14 x6d3) (.Call (.Name "enumerate" x6d4) [.Name "rows" x6d5] [] x6d6) [.Assign [.Tuple [.Name "steps" x6q1, .Name "place" x6q2] x6c3 x6q3] (.Tuple [.List [] x6q4, .Constant (.int 0) x6c4 x6q5] x6c5 x6q6) x6q7,
      .For (.Name "letter" x6b1) (.Name "row" x6b2)
      [.Assign [.Name "place" x6b3] (.BinOp (.BinOp (.Name "place" x6b4) .Add (.Name "letter" x6b5) x6b6) .Mod (.Name "ring" x6b7) x6b8) x6b9,
       .Expr (.Call (.Attribute (.Name "steps" x6b10) "append" x6b11) [.Tuple [.Name "letter" x6b12, .Name "place" x6b13] x6c6 x6b14] [] x6b15) x6b16] [] x6b17,
      .Assign [.Name "line" x6q8] (.List [] x6q9) x6q10,
      .If (.Compare (.BinOp (.Name "turn" x6q11) .Mod (.Constant (.int 2) x6c7 x6q12) x6q13) [.Eq] [.Constant (.int 0) x6c8 x6q14] x6q15)
      (evenAst x6p1 x6p2 x6p3 x6p4 x6p5 x6p6 x6p7 x6p8 x6p9 x6p10 x6p11 x6p12 x6p13 x6p14 x6p15 x6p16 x6p17 x6p18 x6p19 x6p20 x6p21 x6p22 x6p23 x6p24 x6p25 x6p26 x6c0 x6c1)
      (oddAst x6a1 x6a2 x6a3 x6a4 x6a5 x6a6 x6a7 x6a8 x6a9 x6a10 x6a11 x6a12 x6a13 x6a14 x6a15 x6a16 x6a17 x6a18 x6a19 x6a20 x6a21 x6a22 x6a23 x6a24 x6a25 x6a26 x6a27 x6a28 x6a29 x6a30 x6c2 x6c9 x6c10) x6q16,
      .If (.Compare (.ListComp (.Subscript (.Name "step" x6q17) (.Constant (.int 1) x6c11 x6q18) x6q19) [⟨.Name "step" x6q20, .Name "line" x6q21, [], 0⟩] stepScope x6q22) [.NotEq]
      [.Call (.Name "sorted" x6q23) [.ListComp (.Subscript (.Name "step" x6q24) (.Constant (.int 1) x6c12 x6q25) x6q26) [⟨.Name "step" x6q27, .Name "steps" x6q28, [], 0⟩] stepScope x6q29] [] x6q30] x6b18) [.Return (some (.Constant (.bool false) x6c13 x6b19)) x6b20] [] x6b21] [] x6d7),
      (.If (.Compare (.Name "lines" x7p1) [.NotEq] [.Call (.Name "sorted" x7p2) [.Name "rows" x7p3] [] x7p4] x7p5) [.Return (some (.Constant (.bool false) x7c0 x7p6)) x7p7] [] x7p8),
      (.Return (some (.Compare (.ListComp (.BinOp (.Call (.Name "bisect_right" x8p1) [.Name "lines" x8p2, .Name "row" x8p3] [] x8p4) .Sub (.Call (.Name "bisect_left" x8p5) [.Name "lines" x8p6, .Name "row" x8p7] [] x8p8) x8p9) [⟨.Name "row" x8p10, .Name "rows" x8p11, [], 0⟩] scopeL x8p12) [.Eq]
      [.ListComp (.Call (.Attribute (.Name "rows" x8p13) "count" x8p14) [.Name "row" x8p15] [] x8p16) [⟨.Name "row" x8p17, .Name "rows" x8p18, [], 0⟩] scopeR x8p19] x8p20)) x8p21)] env) Q E s := by
  have nNL := ne_cell_ns hcN hn
  have nRL := ne_cell_ns hcR hn
  have nLL := ne_cell_ns hcL hn
  have n57N := ne57_cell T hcN
  have n57R := ne57_cell T hcR
  have n57c := ne57_cell T hcL
  have n57L := ne57_ns T hn
  -- nums
  refine wpAny_execs_cons (nums_stmt V hks hn hm hl hi hsz hcN fun nA h1 tk1 ns1 ks1 f1 hl1 hz1 hcN1 => ?_)
  have kG1 : Keep G h1 := keep_of_s kG ks1 (by intro b hb; simp at hb; rw [hb]; exact fN)
  have hn1 := hn.at' fun o e => ks1 _ o (by simpa using nNL.symm) e
  have hcR1 := cell_keepS hcR ks1 (by simpa using hNR.symm)
  have hcL1 := cell_keepS hcL ks1 (by simpa using hNL.symm)
  have T1 := T.keepS ks1 (by simpa using n57N.symm) (noCode1 (noCode_cell hcN))
  -- drawn
  refine wpAny_execs_cons (drawn_stmt (s := { s with heap := h1, toks := tk1 }) V hR (B.keep kG1) hkd hn1 hcN1 hl1 hz1 hcloD hkN hsw fun dA h2 tk2 m2 d0 d1 d2 d3 d4 ks2 f2 hn2 hm2 hl2 => ?_)
  replace ks2 : KeepS [env.locals] h1 h2 := ks2
  have kG2 : Keep G h2 := keep_of_s kG1 ks2 (by intro b hb; simp at hb; rw [hb]; exact fL)
  have hcR2 := cell_keepS hcR1 ks2 (by simpa using nRL)
  have hcL2 := cell_keepS hcL1 ks2 (by simpa using nLL)
  have T2 := T1.keepS ks2 (by simpa using n57L.symm) (noCode1 (noCode_ns hn1))
  -- ring
  refine wpAny_execs_cons (ring_stmt (s := { s with heap := h2, toks := tk2 }) V hkd hn2 hm2 hl2 fun h3 tk3 m3 R tR ks3 hn3 hring hR1 hR12 hm3 => ?_)
  replace ks3 : KeepS [env.locals] h2 h3 := ks3
  have kG3 : Keep G h3 := keep_of_s kG2 ks3 (by intro b hb; simp at hb; rw [hb]; exact fL)
  have hcR3 := cell_keepS hcR2 ks3 (by simpa using nRL)
  have hcL3 := cell_keepS hcL2 ks3 (by simpa using nLL)
  have T3 := T2.keepS ks3 (by simpa using n57L.symm) (noCode1 (noCode_ns hn2))
  have hl3 : ILst h3 dA [d0, d1, d2, d3, d4] := by
    obtain ⟨us, hu, hiu⟩ := hl2
    exact ⟨us, hu.keepS ks3 (by simpa using ne_lst_ns hu hn2), hiu⟩
  -- rows
  refine wpAny_execs_cons (rows_stmt (s := { s with heap := h3, toks := tk3 }) V hR (B.keep kG3) hkd hko hn3 (hm3.trans hm2) hl3 hcR3 fun rA h4 tk4 rs ks4 hra4 hrr4 hcR4 => ?_)
  replace ks4 : KeepS [cR] h3 h4 := ks4
  have kG4 : Keep G h4 := keep_of_s kG3 ks4 (by intro b hb; simp at hb; rw [hb]; exact fR)
  have hn4 := hn3.at' fun o e => ks4 _ o (by simpa using nRL.symm) e
  have hcL4 := cell_keepS hcL3 ks4 (by simpa using hRL.symm)
  have T4 := T3.keepS ks4 (by simpa using n57R.symm) (noCode1 (noCode_cell hcR3))
  -- lines
  refine wpAny_execs_cons (lines_stmt (s := { s with heap := h4, toks := tk4 }) V hcL4 fun lsA h5 tk5 ks5 f5 hls5 hcL5 => ?_)
  replace ks5 : KeepS [cL] h4 h5 := ks5
  replace f5 : h4.get? lsA = none := f5
  have kG5 : Keep G h5 := keep_of_s kG4 ks5 (by intro b hb; simp at hb; rw [hb]; exact fl)
  have hn5 := hn4.at' fun o e => ks5 _ o (by simpa using nLL.symm) e
  have hcR5 := cell_keepS hcR4 ks5 (by simpa using hRL)
  have T5 := T4.keepS ks5 (by simpa using n57c.symm) (noCode1 (noCode_cell hcL4))
  have hra5 : Lst h5 rA rs := hra4.keepS ks5 (by simpa using fun q => ne_cell_lst hcL4 hra4 q.symm)
  have hrr5 := hrr4.keepS ks5 (noTup1 (noTup_cell hcL4))
  have hrl : rA ≠ lsA := lst_ne_none hra4 f5
  -- the loop
  refine wpAny_execs_cons (main_loop (s := { s with heap := h5, toks := tk5 }) V hR B kG5 fL f57 (keep_none kG4 f5) T5 hn5 hring (by omega) hcR5 hra5 hrr5 (orders_four d0 d1 d2 d3) (by rw [orders_len]; decide) hrl hcL5 hls5 hw hmc fun h6 tk6 m6 ls6 lss6 ks6 hn6 hl6 hlr6 hpm6 hso6 T6 => ?_)
  replace ks6 : KeepS [env.locals, lsA, 57] h5 h6 := ks6
  have hperm := hpm6.trans (orders_law hR1 hR12 d0 d1 d2 d3)
  have kG6 : Keep G h6 := keep_of_s kG5 ks6 (by intro b hb; simp at hb; rcases hb with rfl | rfl | rfl; exact fL; exact keep_none kG4 f5; exact f57)
  have nt5 : ∀ b ∈ [env.locals, lsA, 57], NoTup h5 b := by
    intro b hb
    simp at hb
    rcases hb with hb | hb | hb
    · rw [hb]; exact noTup_ns hn5
    · rw [hb]; exact noTup_lst hls5
    · rw [hb]; exact noTup_tab T5
  have hcR6 := cell_keepS hcR5 ks6 (by simp; exact ⟨nRL, ne_cell_lst hcR5 hls5, n57R⟩)
  have hcL6 := cell_keepS hcL5 ks6 (by simp; exact ⟨nLL, ne_cell_lst hcL5 hls5, n57c⟩)
  have hra6 : Lst h6 rA rs := hra5.keepS ks6 (by simp; exact ⟨ne_lst_ns hra5 hn5, hrl, ne57_lst T5 hra5⟩)
  have hrr6 := hrr5.keepS ks6 nt5
  -- the two tests
  refine wpAny_execs_cons (sorted_stmt (s := { s with heap := h6, toks := tk6 }) V hR (B.keep kG6) hcR6 hra6 hrr6 (orders_four d0 d1 d2 d3) (by rw [orders_len]; decide) (by rw [orders_len]; decide) hcL6 hl6 hlr6 hperm hso6 fun h7 k7 => ?_)
  replace k7 : Keep h6 h7 := k7
  refine wpAny_execs_cons (last_stmt (s := { s with heap := h7, toks := tk6 }) V hR (B.keep (Keep.trans kG6 k7)) (cell_keep hcR6 k7) (hra6.keep k7) (hrr6.keep k7) (orders_four d0 d1 d2 d3) (by rw [orders_len]; decide) (cell_keep hcL6 k7) (hl6.keep k7) (hlr6.keep k7) hperm hso6 hcloL hkL hcloR hkR hmc2 fun h8 tk8 k8 => ?_)
  replace k8 : Keep h7 h8 := k8
  exact hQ h8 tk8 (Keep.trans kG6 (Keep.trans k7 k8)) (T6.keep (Keep.trans k7 k8))
end
end Mine
open Mine
theorem PySem.Challenge.cw_rs0001_01_holds : PySem.Challenge.rw_rs0001_01.Holds := by
  refine Mine.hd ?_
  k_go0
  rename_i w s₀ s₁ mg mb G Y fa o pm doc ho hg X V T B TE TW hcd ns hs hlay0 hL1 hr1 hl2 w7 w6 sc vs w3 hL ra w1 r0 hI hr hc1 hc2 hD h₁ tk₁ wo2 wo1 wo0 N1 N2 N3 X0 X' T' K' F' N' l0
  have f57 : (ghostOf s₁.heap [(59, 57)]).get? 57 = none := N'.fresh (o := tabObj #[]) (by simp)
  have BB : Base w mg mb (ghostOf s₁.heap [(59, 57)]) := by
    refine ⟨X', T'.g, T'.b, T'.nolimit, T'.builtins, ?_⟩
    obtain ⟨bm, ob, a, b, c, d⟩ := T'.bmain
    refine ⟨bm, ob, a, b, (fun q => ?_), (fun q => ?_), c, d⟩
    · obtain ⟨o', es, ep, e', d', _⟩ := T'.g
      rw [q, e'] at c; cases c
      rw [d'] at d; cases d.2.2
    · rw [q, f57] at c; cases c
  have c0 := N'.get (a := s₁.heap.objs.size + 1) (o := wo0) (by simp)
  have c1 := N'.get (a := s₁.heap.objs.size + 1 + 1) (o := wo1) (by simp)
  have c2 := N'.get (a := s₁.heap.objs.size + 1 + 1 + 1) (o := wo2) (by simp)
  have g0 := N'.fresh (a := s₁.heap.objs.size + 1) (o := wo0) (by simp)
  have g1 := N'.fresh (a := s₁.heap.objs.size + 1 + 1) (o := wo1) (by simp)
  have g2 := N'.fresh (a := s₁.heap.objs.size + 1 + 1 + 1) (o := wo2) (by simp)
  have gL : (ghostOf s₁.heap [(59, 57)]).get? s₁.heap.objs.size = none := Heap.get?_none_of_le F'.above
  have t57 := N'.get (a := 57) (o := tabObj #[]) (by simp)
  have hns := F'.ns
  have hkp := F'.keep
  have hlen : ns.length < 100 := by omega
  have hTab : TabOk h₁ := ⟨#[], t57, trivial, fun pos cv e => by cases e⟩
  have hsc : h₁.IsList sc vs.toArray := stays_list hkp lifted
  clear hD hcd X0 G Y X V T B TE TW hT8 hT9 N' T' F' K' X' r0 w1 ra
  refine law_body (G := ghostOf s₁.heap [(59, 57)]) (cN := s₁.heap.objs.size + 1) (cR := s₁.heap.objs.size + 1 + 1) (cL := s₁.heap.objs.size + 1 + 1 + 1) (sc := sc) (vs := vs) (ns := ns) ?V ?R BB hkp gL g0 g1 g2 f57 (Nat.ne_of_lt (Nat.lt_succ_self _)) (Nat.ne_of_lt (by omega)) (Nat.ne_of_lt (Nat.lt_succ_self _)) rfl rfl rfl hTab hns rfl hsc hI hlen ⟨_, c0, N3⟩ ⟨_, c1, N2⟩ ⟨_, c2, N1⟩ rfl (fun _ => rfl) rfl rfl rfl rfl (fun _ => rfl) rfl (fun _ => rfl) (fun _ => rfl) ?_
  case V => exact ⟨rfl, rfl, rfl, rfl, rfl, rfl, rfl, rfl, rfl, rfl, rfl, rfl, rfl, rfl, rfl, rfl, rfl, rfl, rfl, rfl, rfl, rfl, rfl, rfl, rfl, rfl⟩
  case R => exact Room.deeper (n := 20) (A := callerA) ⟨rfl, by decide, by decide⟩ _
  intro h' tk' k' T'
  obtain ⟨ps, e1, _⟩ := T'
  refine ⟨⟨.inl ⟨.bool true, .bool true, [], rfl, fun _ => rfl, .bool true, ?_, fun _ => ⟨List.nodup_nil, fun _ h => by cases h⟩⟩, k', rfl, hg⟩, ⟨ps, e1⟩, trivial⟩
  show (WShape.has [] (.bool true) .bool && WTm.holds [] (.eq .res (.lit (.bool true))) { args := [ofPy (PyData.list (List.map PyData.int ns))], res := some (.bool true), after := [ofPy (PyData.list (List.map PyData.int ns))] }) = true
  first
    | with_unfolding_all rfl
    | (simp [WShape.has, WTm.holds, WTm.value]; done)
