import PyProof.Rows.All
import Wide.All
import OpenK.AllK
import Wide.FinOn
import PySem.Challenge.RW_wy0067_01
open PySem PySem.W PySem.Calls PySem.Spec PyProof.Rows
set_option Elab.async false
set_option linter.unusedVariables false
set_option compiler.extract_closed false
namespace Mine
set_option maxRecDepth 100000 in
set_option maxHeartbeats 8000000 in
open_top hd for PySem.Challenge.rw_wy0067_01
local macro_rules | `(tactic| walk_at $s:str) => `(tactic| k_extra $s)
section
set_option maxRecDepth 100000
set_option maxHeartbeats 4000000

/-- what is said of a call of a def of the text: for all frames around it -/
def Ctr (w : World) (p : Program) (loose : List Str) (mean : ExcName → Option Value) (mg mb : Str → Option Value) (news : List (Addr × Obj)) (f : Addr) (vs : List Value) (dd uu : Nat)
    (ret : Heap → Addr → (Str → Option Value) → Shared → (Value → Shared → Prop) → (Value → Shared → Prop) → Prop) : Prop :=
  ∀ (dp un : Nat) (gd : Option (List Code)) (cn : Str) (cs : Scope) (a : Addr) (ccd : Value) (cl : List (Str × Addr)) (outer : List Env) (A₀ : Around) (base h₀ : Heap) (L : Addr) (m : Str → Option Value) (s : Shared) (Q E : Value → Shared → Prop),
    Below A₀ base outer h₀ → Fr h₀ L s.heap m → (hd.heap_39 w.params).In h₀ → CodeHd h₀ 42 38 → CodeHd h₀ 49 45 → News h₀ L s.heap news → Top p loose mean mg mb h₀ → cs.kind = .function →
    dp + dd < recursionLimit → un + uu < cLine → ret h₀ L m s Q E →
      wpAny (model PySem.Challenge.rw_wy0067_01.row.toRowW.prog w) (ktrTop dp un gd cn cs L a ccd cl outer) (call (.ref f) vs) Q E s

/-- small: below a thousand bits (hidden from omega) -/
def Sm (x : Int) : Prop := x.natAbs < 2 ^ 1000

theorem sm_log {x : Int} (h : Sm x) : x.natAbs.log2 < 9000 := by
  by_cases h0 : x.natAbs = 0
  · rw [h0]; decide +kernel
  · exact Nat.lt_trans ((Nat.log2_lt h0).mpr h) (by decide)

theorem sm_bits {x : Int} (h : Sm x) : Builtin.Int.intBits x ≤ 1000 := by
  unfold Builtin.Int.intBits
  by_cases h0 : x = 0
  · rw [if_pos (by simp [h0])]; decide
  · rw [if_neg (by simp [h0])]; exact (Nat.log2_lt (by omega)).mpr h

theorem sm_mul {x y : Int} (hx : Sm x) (hy : Sm y) : IntMulOk x y := by
  have h1 := sm_bits hx
  have h2 := sm_bits hy
  unfold IntMulOk Builtin.Int.intTooBig
  simp only [Bool.and_eq_true, decide_eq_true_eq, not_and]
  intro _ _
  have : bitsLine = 134217728 := by decide
  omega

theorem ne_app {news own : List (Addr × Obj)} {l : Addr} {o : Obj} (l1 : ∀ p ∈ news, p.1 < l) (hoff : OwnOff own (((l, o) :: news).map (·.1))) : ∀ p ∈ news ++ own, p.1 ≠ l := fun p hp => by
  rcases List.mem_append.mp hp with h | h
  · exact Nat.ne_of_lt (l1 p h)
  · exact hoff p h l (.head _)

local macro_rules | `(tactic| k_all) => `(tactic| with_reducible assumption)

section
variable {w : World} {p : Program} {loose : List Str} {mean : ExcName → Option Value} {mg mb : Str → Option Value} {news : List (Addr × Obj)}

structure TS where
  q : Int
  tq : Tok

theorem times_spec {b c : Int} {tb tc : Tok} (hpre : b.natAbs ≤ 10 ∧ 0 ≤ c ∧ c ≤ 60) : Ctr w p loose mean mg mb news 78 [.int b tb, .int c tc] 2 16
    (fun h₀ L m s Q _ => ∀ t h' tk', Fr h₀ L h' m → News h₀ L h' news → Q (.int (b ^ c.toNat) t) { s with heap := h', toks := tk' }) := by
  unfold Ctr
  k_fill
  w_top off
  k_with_none
  intro dp un gd cn cs a0 ccd cl outer A₀ base h₀ L m s Q E B F X C1 C2 N T hk hdp hun hret
  refine wpAny_call ?_
  k_dflt (refine' code_def ?k1 ?k2 ?k3 ?k4 ?k5 ?kA ?kF ?kK ?k6 ?k7 ?k8 ?k9 ?kB ?_ ?c2 ?c3 ?c4 ?c5; (case kA => exact rfl); (case kF => exact rfl); (case kK => assumption); (case k1 => k_asm); (case k2 => k_asm); (case k3 => k_asm); (case k4 => k_asm); (case k5 => k_asm); (case k6 => k_is); (case k7 => k_is); (case k8 => ktr_room); (case k9 => first | exact BindsTo.of_eq rfl | exact binds_K (by k_in) rfl (by k_is) rfl rfl rfl); (case c5 => decide); (case kB => exact locs rfl); (case c2 => exact rfl); (case c3 => exact rfl); (case c4 => exact rfl); k_whole; intro g' L' h' FG' F' N' B' X' T'; (try dsimp only); (try k_lift B'); (try k_fold))
  have C1' := CodeHd.keeps C1 FG'.keep
  have C2' := CodeHd.keeps C2 FG'.keep
  repeat' (first | ((fail_if_success (with_reducible show wpAny _ _ (pyIter _) _ _ _)); first | (k_unfold; (try dsimp only)) | (k_end; wrow_close) | walk1 | (dsimp only; walk1) | (leave1; (try dsimp only))))
  rename_i h8 F7 N7 h9 tk9 t9 u9 v9 R9 F9 N9 K9
  clear F7 N7 K9
  refine kst_range (σ := TS) (fun _ => news) (fun c => [(Str.ofString "product", .int c.q c.tq)]) (fun _ => True) [] (fun pre c => c.q = b ^ pre.length) ⟨1, _⟩ rfl R9 (small_one (by omega) (by omega) (by omega) (by omega)) (rangeSize_nat _ _) F9 N9 trivial (by kst_all) (by simp) ?turn ?done
  · intro c pre k t u h tk own hk9 hlt hoff hf hp F1 N1
    clear F9 N9 R9
    (try k_unmd)
    (try k_fold)
    obtain ⟨q, tq⟩ := c
    dsimp only [kstB] at hp F1 N1
    repeat' (first | ((fail_if_success (with_reducible show InvPostN _ _ _ _ _ _ _ _ _)); first | (k_unfold; (try dsimp only)) | (k_end; wrow_close) | walk1 | (dsimp only; walk1) | (leave1; (try dsimp only))))
    rename Fr _ _ _ _ => Fz
    rename News _ _ _ _ => Nz
    exact kst_end (σ := TS) ⟨q * b, _⟩ Fz Nz (fun p hp => List.mem_append_left _ hp) (fun p hp => List.mem_append_right _ hp) rfl trivial (by kst_all) (by intro z h1 h2 _; simp only [List.forall_mem_cons, List.not_mem_nil, false_implies, implies_true, and_true, ne_eq] at h2; simp only [h1, h2, if_false, List.contains_nil, Bool.false_eq_true]) (by
      show q * b = b ^ (pre ++ [k]).length
      rw [List.length_append, List.length_singleton, Int.pow_succ, hp])
  · intro c u h tk hf hp F1 N1
    clear F9 N9 R9
    obtain ⟨q, tq⟩ := c
    dsimp only [kstB] at hp F1 N1
    rw [rangeKs_length, Int.sub_zero] at hp
    subst hp
    k_steps
    exact hret _ _ _ (by assumption) (by assumption)

/-- figures of n to the base b, c of them -/
def figs (b : Int) : Nat → Int → List Int
  | 0, _ => []
  | c + 1, n => (Int.fmod n b) :: figs b c (Int.fdiv n b)
def quo (b : Int) : Nat → Int → Int
  | 0, n => n
  | c + 1, n => Int.fdiv (quo b c n) b
theorem quo_step (b : Int) : ∀ (k : Nat) (n : Int), quo b k (Int.fdiv n b) = quo b (k+1) n
  | 0, n => rfl
  | k + 1, n => by show Int.fdiv (quo b k (Int.fdiv n b)) b = _; rw [quo_step b k n]; rfl
theorem figs_step (b : Int) : ∀ (k : Nat) (n : Int), figs b (k+1) n = figs b k n ++ [Int.fmod (quo b k n) b]
  | 0, n => rfl
  | k + 1, n => by
    show Int.fmod n b :: figs b (k+1) (Int.fdiv n b) = (Int.fmod n b :: figs b k (Int.fdiv n b)) ++ _
    rw [figs_step b k, quo_step]; rfl
theorem figs_len (b : Int) : ∀ (k : Nat) (n : Int), (figs b k n).length = k
  | 0, _ => rfl
  | k + 1, n => by show (figs b k _).length + 1 = k + 1; rw [figs_len b k]

structure FS where
  q : Int
  tq : Tok
  vs : List Value
  nn : Nat

theorem fig_spec {x b n : Int} {ta tb tc : Tok} (hpre : 0 < b ∧ b ≤ 10 ∧ 0 ≤ n ∧ n ≤ 60) : Ctr w p loose mean mg mb news 85 [.int x ta, .int b tb, .int n tc] 2 16
    (fun h₀ L m s Q _ => ∀ l vs nn h' tk', Fr h₀ L h' m → News h₀ L h' ((l, W.listOf vs.toArray nn) :: news) → IntsAre vs (figs b n.toNat x) → (∀ p ∈ news, p.1 < l) → Q (.ref l) { s with heap := h', toks := tk' }) := by
  unfold Ctr
  k_fill
  w_top off
  k_with_none
  intro dp un gd cn cs a0 ccd cl outer A₀ base h₀ L m s Q E B F X C1 C2 N T hk hdp hun hret
  refine wpAny_call ?_
  k_dflt (refine' code_def ?k1 ?k2 ?k3 ?k4 ?k5 ?kA ?kF ?kK ?k6 ?k7 ?k8 ?k9 ?kB ?_ ?c2 ?c3 ?c4 ?c5; (case kA => exact rfl); (case kF => exact rfl); (case kK => assumption); (case k1 => k_asm); (case k2 => k_asm); (case k3 => k_asm); (case k4 => k_asm); (case k5 => k_asm); (case k6 => k_is); (case k7 => k_is); (case k8 => ktr_room); (case k9 => first | exact BindsTo.of_eq rfl | exact binds_K (by k_in) rfl (by k_is) rfl rfl rfl); (case c5 => decide); (case kB => exact locs rfl); (case c2 => exact rfl); (case c3 => exact rfl); (case c4 => exact rfl); k_whole; intro g' L' h' FG' F' N' B' X' T'; (try dsimp only); (try k_lift B'); (try k_fold))
  have C1' := CodeHd.keeps C1 FG'.keep
  have C2' := CodeHd.keeps C2 FG'.keep
  repeat' (first | ((fail_if_success (with_reducible show wpAny _ _ (pyIter _) _ _ _)); first | (k_unfold; (try dsimp only)) | (k_end; wrow_close) | walk1 | (dsimp only; walk1) | (leave1; (try dsimp only))))
  rename_i l9 h8 l1 h7 F7 N7 h9 tk9 t9 u9 v9 R9 F9 N9 K9
  clear F7 N7 K9
  refine kst_range (σ := FS) (fun c => (l9, W.listOf c.vs.toArray c.nn) :: news) (fun c => [(Str.ofString "number", .int c.q c.tq)]) (fun _ => True) [] (fun pre c => c.q = quo b pre.length x ∧ IntsAre c.vs (figs b pre.length x)) ⟨x, ta, [], 0⟩ rfl R9 (small_one (by omega) (by omega) (by omega) (by omega)) (rangeSize_nat _ _) F9 N9 trivial (by kst_all) ⟨rfl, by constructor⟩ ?turn ?done
  · intro c pre k t u h tk own hk9 hlt hoff hf hp F1 N1
    clear F9 N9 R9
    (try k_unmd)
    (try k_fold)
    obtain ⟨q, tq, vs, nn⟩ := c
    obtain ⟨hq, hi⟩ := hp
    dsimp only [kstB] at hq hi F1 N1
    have hlen := hi.length
    rw [figs_len] at hlen
    have hvs : vs.length ≤ 60 := by omega
    rw [List.cons_append] at N1
    have hne := ne_app l1 hoff
    repeat' (first | ((fail_if_success (with_reducible show InvPostN _ _ _ _ _ _ _ _ _)); first | (k_unfold; (try dsimp only)) | (k_end; wrow_close) | walk1 | (dsimp only; walk1) | (leave1; (try dsimp only))))
    rename Fr _ _ _ _ => Fz
    rename News _ _ _ _ => Nz
    rw [List.push_toArray] at Nz
    exact kst_end (σ := FS) ⟨Int.fdiv q b, _, vs ++ [_], nn + 1⟩ Fz Nz (fun p hp => by rw [← List.cons_append]; exact List.mem_append_left _ hp) (fun p hp => List.mem_cons_of_mem _ (List.mem_append_right _ hp)) rfl trivial (by kst_all) (by intro z h1 h2 _; simp only [List.forall_mem_cons, List.not_mem_nil, false_implies, implies_true, and_true, ne_eq] at h2; simp only [h1, h2, if_false, List.contains_nil, Bool.false_eq_true]) (by
      refine ⟨?_, ?_⟩
      · show Int.fdiv q b = quo b (pre ++ [k]).length x
        rw [List.length_append, List.length_singleton, hq]; rfl
      · show IntsAre (vs ++ [_]) (figs b (pre ++ [k]).length x)
        rw [List.length_append, List.length_singleton, figs_step, ← hq]
        exact IntsAre.append hi (.cons _ _ .nil))
  · intro c u h tk hf hp F1 N1
    clear F9 N9 R9
    obtain ⟨q, tq, vs, nn⟩ := c
    obtain ⟨hq, hi⟩ := hp
    dsimp only [kstB] at hq hi F1 N1
    rw [rangeKs_length, Int.sub_zero] at hi
    k_steps
    exact hret _ _ _ _ _ (by assumption) (by assumption) hi l1
end
end
section
set_option maxRecDepth 100000
set_option maxHeartbeats 4000000

theorem ne_low {news : List (Addr × Obj)} {b d : Addr} (h : ∀ p ∈ news, p.1 < b) (hd : b ≤ d) : ∀ p ∈ news, p.1 ≠ d := fun p hp => Nat.ne_of_lt (Nat.lt_of_lt_of_le (h p hp) hd)
end
local macro_rules | `(tactic| k_all) => `(tactic| first | with_reducible assumption | (refine ne_low (by with_reducible assumption) (Nat.le_of_lt (ltN ?_)); omega))
section
set_option maxRecDepth 100000
set_option maxHeartbeats 4000000
theorem my_divmod {prog : Program} {w : World} {A : Around} {E : Value → Shared → Prop} {s : Shared} {h₀ : Heap} {L : Addr} {m : Str → Option Value} {news : List (Addr × Obj)} {a b : Int} {t u : Tok} {Q : Value → Shared → Prop} (F : Fr h₀ L s.heap m) (N : News h₀ L s.heap news) (hb : b ≠ 0) (hlog : b.natAbs.log2 < 9000)
    (h : ∀ l t u h' tk', Fr h₀ L h' m → News h₀ L h' ((l, { cls := .type "tuple", data := .seq [.int (a.fdiv b) t, .int (a.fmod b) u].toArray }) :: news) → (∀ p ∈ news, p.1 < l) → Q (.ref l) { s with toks := tk', heap := h' }) :
    wpAny (model prog w) A (call (.builtin "divmod") [.int a t, .int b u]) Q E s :=
  divmod_N F N hb (fun h' F' N' => h _ _ _ h' _ F' N' fun p hp => Heap.lt_size (N p hp).1) (Or.inl (PyProof.noPylong_of_log2 hlog))


theorem my_rshift {prog : Program} {w : World} {A : Around} {E : Value → Shared → Prop} {s : Shared} {a n z : Int} {t u : Tok} {Q : Value → Shared → Prop} (hz : a.fdiv (2 ^ n.toNat) = z) (hn : 0 ≤ n)
    (h : Q (.int z s.toks) { s with toks := s.toks + 1 }) : wpAny (model prog w) A (binaryOp .RShift (.int a t) (.int n u)) Q E s := by subst hz; exact rshift_int hn h
theorem my_lshift {prog : Program} {w : World} {A : Around} {E : Value → Shared → Prop} {s : Shared} {a n z : Int} {t u : Tok} {Q : Value → Shared → Prop} (hz : a * 2 ^ n.toNat = z) (hn : 0 ≤ n) (hs : (Builtin.Int.intBits a : Int) + n ≤ 2 ^ 27)
    (h : Q (.int z s.toks) { s with toks := s.toks + 1 }) : wpAny (model prog w) A (binaryOp .LShift (.int a t) (.int n u)) Q E s := by subst hz; exact lshift_int hn hs h
theorem my_xor {prog : Program} {w : World} {A : Around} {E : Value → Shared → Prop} {s : Shared} {a b z : Int} {t u : Tok} {Q : Value → Shared → Prop} (hz : Builtin.bitXor a b = z)
    (h : Q (.int z s.toks) { s with toks := s.toks + 1 }) : wpAny (model prog w) A (binaryOp .BitXor (.int a t) (.int b u)) Q E s := by subst hz; exact xor_int h
theorem my_mul {prog : Program} {w : World} {A : Around} {E : Value → Shared → Prop} {s : Shared} {a b z : Int} {t u : Tok} {Q : Value → Shared → Prop} (hz : a * b = z) (hm : IntMulOk a b)
    (h : Q (.int z s.toks) { s with toks := s.toks + 1 }) : wpAny (model prog w) A (binaryOp .Mult (.int a t) (.int b u)) Q E s := by subst hz; exact mul_int h hm

theorem rep_foldl (v : Value) : ∀ (n : Nat) (acc : Array Value), List.foldl (fun x1 x2 => x1 ++ x2) acc (List.replicate n #[v]) = acc ++ (List.replicate n v).toArray
  | 0, acc => by simp
  | n + 1, acc => by
    rw [List.replicate_succ, List.foldl_cons, rep_foldl v n, Array.append_assoc, List.replicate_succ]
    congr 1
    simp

theorem my_rep {prog : Program} {w : World} {A : Around} {E : Value → Shared → Prop} {s : Shared} {h₀ : Heap} {L l : Addr} {m : Str → Option Value} {news : List (Addr × Obj)} {v : Value} {k : Nat} {x : Int} {u : Tok} {Q : Value → Shared → Prop} (F : Fr h₀ L s.heap m) (N : News h₀ L s.heap news)
    (hm : (l, W.listOf [v].toArray k) ∈ news) (h0 : 0 ≤ x) (h1 : x ≤ 100000)
    (h : ∀ l' h', Fr h₀ L h' m → News h₀ L h' ((l', W.listOf (List.replicate x.toNat v).toArray 0) :: news) → (∀ p ∈ news, p.1 < l') → Q (.ref l') { s with heap := h' }) :
    wpAny (model prog w) A (binaryOp .Mult (.ref l) (.int x u)) Q E s :=
  mul_list F N (N _ hm).1 (by omega) (by omega) (by show 1 * x.toNat ≤ _; omega) (fun h' F' N' => h _ h' F' (by
    have e : (if ([v].toArray : Array Value).isEmpty = true then 0 else x.toNat) = x.toNat := by rw [if_neg]; simp
    rw [e, rep_foldl, Array.empty_append] at N'
    exact N') fun p hp => Heap.lt_size (N p hp).1)


section
variable {w : World} {p : Program} {loose : List Str} {mean : ExcName → Option Value} {mg mb : Str → Option Value} {news : List (Addr × Obj)}

theorem div2_spec {a b n : Int} {ta tb tc : Tok} (ha : Sm a) (hb : Sm b) (hb0 : b ≠ 0) (hn : 0 ≤ n) : Ctr w p loose mean mg mb news 29 [.int a ta, .int b tb, .int n tc] 2 16
    (fun h₀ L m s Q _ => ∀ l t u h' tk', Fr h₀ L h' m → News h₀ L h' ((l, { cls := .type "tuple", data := .seq [.int (a.fdiv b) t, .int (a.fmod b) u].toArray }) :: news) → (∀ p ∈ news, p.1 < l) → Q (.ref l) { s with heap := h', toks := tk' }) := by
  unfold Ctr
  k_fill
  w_top off
  k_with_none
  intro dp un gd cn cs a0 ccd cl outer A₀ base h₀ L m s Q E B F X C1 C2 N T hk hdp hun hret
  have hbits := sm_bits ha
  have hlog := sm_log hb
  clear ha hb
  refine wpAny_call ?_
  k_dflt (refine' code_def ?k1 ?k2 ?k3 ?k4 ?k5 ?kA ?kF ?kK ?k6 ?k7 ?k8 ?k9 ?kB ?_ ?c2 ?c3 ?c4 ?c5; (case kA => exact rfl); (case kF => exact rfl); (case kK => assumption); (case k1 => k_asm); (case k2 => k_asm); (case k3 => k_asm); (case k4 => k_asm); (case k5 => k_asm); (case k6 => k_is); (case k7 => k_is); (case k8 => ktr_room); (case k9 => first | exact BindsTo.of_eq rfl | exact binds_K (by k_in) rfl (by k_is) rfl rfl rfl); (case c5 => decide); (case kB => exact locs rfl); (case c2 => exact rfl); (case c3 => exact rfl); (case c4 => exact rfl); k_whole; intro g' L' h' FG' F' N' B' X' T'; (try dsimp only); (try k_lift B'); (try k_fold))
  have C1' := CodeHd.keeps C1 FG'.keep
  have C2' := CodeHd.keeps C2 FG'.keep
  repeat' (first | ((fail_if_success (with_reducible show wpAny _ _ (call (Value.builtin "divmod") _) _ _ _)); first | (k_unfold; (try dsimp only)) | (k_end; wrow_close) | walk1 | (dsimp only; walk1) | (leave1; (try dsimp only))))
  refine my_divmod (by assumption) (by assumption) (by first | assumption | omega) (by assumption) ?_
  intro l9 t9 u9 h9 tk9 F9 N9 l91
  k_steps
  exact hret _ _ _ _ _ (by assumption) (by assumption) (by assumption)

end
end
section
set_option maxRecDepth 100000
set_option maxHeartbeats 400000

def nth : Nat → List Stmt → Stmt
  | 0, s :: _ => s
  | n + 1, _ :: r => nth n r
  | _, [] => .Pass default
def dBody : Stmt → List Stmt
  | .FunctionDef _ _ b _ _ _ _ _ _ _ => b
  | _ => []
def in1 : Stmt := nth 1 (dBody (nth 5 PySem.Challenge.pw_wy0067_01.main.body))
def in2 : Stmt := nth 0 (dBody (nth 6 PySem.Challenge.pw_wy0067_01.main.body))

/-- the number that the digits tell, the lowest first, two to the n-th a place -/
def val (n : Nat) : List Int → Int
  | [] => 0
  | d :: r => d + 2 ^ n * val n r

theorem val_app (n : Nat) : ∀ a b : List Int, val n (a ++ b) = val n a + 2 ^ (n * a.length) * val n b
  | [], b => by simp [val]
  | d :: r, b => by
    rw [List.cons_append, val, val_app n r b, val, List.length_cons, Nat.mul_succ, Int.pow_add]
    grind

theorem Sm.le {x y : Int} (h : Sm x) (hy : y.natAbs ≤ x.natAbs) : Sm y := Nat.lt_of_le_of_lt hy h

theorem and_mul_pow (x s : Nat) : x &&& (x / 2 ^ s * 2 ^ s) = x / 2 ^ s * 2 ^ s := by
  apply Nat.eq_of_testBit_eq
  intro i
  rw [Nat.testBit_and, ← Nat.shiftRight_eq_div_pow, ← Nat.shiftLeft_eq, Nat.testBit_shiftLeft, Nat.testBit_shiftRight]
  by_cases h : s ≤ i
  · simp [h, Nat.add_sub_cancel' h]
  · simp [h]

theorem split_bits {x up us lw : Int} {s : Nat} (h0 : 0 ≤ x) (eup : x.fdiv (2 ^ s) = up) (eus : up * 2 ^ s = us) (elw : Builtin.bitXor x us = lw) :
    lw + 2 ^ s * up = x ∧ 0 ≤ lw ∧ lw ≤ x ∧ 0 ≤ up ∧ up ≤ x := by
  have hp : (0 : Int) < 2 ^ s := Int.pow_pos (by decide)
  rw [Int.fdiv_eq_ediv_of_nonneg _ (Int.le_of_lt hp)] at eup
  obtain ⟨m, rfl⟩ := Int.eq_ofNat_of_zero_le h0
  have hup : up = ((m / 2 ^ s : Nat) : Int) := by rw [← eup]; push_cast; rfl
  have hus : us = ((m / 2 ^ s * 2 ^ s : Nat) : Int) := by rw [← eus, hup]; push_cast; rfl
  have hnat := and_mul_pow m s
  have hle : m / 2 ^ s ≤ m := Nat.div_le_self _ _
  have hmul : m / 2 ^ s * 2 ^ s ≤ m := Nat.div_mul_le_self _ _
  have hcomm : (2 : Int) ^ s * up = us := by rw [← eus, Int.mul_comm]
  generalize m / 2 ^ s * 2 ^ s = u at hus hnat hmul
  generalize m / 2 ^ s = q at hup hle
  have hand : Builtin.bitAnd (m : Int) us = us := by
    rw [hus]
    have e1 : decide ((0 : Int) ≤ (m : Int)) = true := decide_eq_true (Int.natCast_nonneg _)
    have e2 : decide ((0 : Int) ≤ (u : Int)) = true := decide_eq_true (Int.natCast_nonneg _)
    unfold Builtin.bitAnd
    rw [e1, e2]
    show (((m : Int).toNat &&& (u : Int).toNat : Nat) : Int) = _
    rw [Int.toNat_natCast, Int.toNat_natCast, hnat]
  have hlw : lw = m - us := by rw [← elw, bitXor_and, hand]; omega
  rw [hcomm]
  refine ⟨?_, ?_, ?_, ?_, ?_⟩ <;> omega


end
local macro_rules | `(tactic| k_mem) => `(tactic| first | with_reducible assumption | exact List.mem_cons_self | (refine List.mem_cons_of_mem _ ?_; k_mem))
section
set_option maxRecDepth 100000
set_option maxHeartbeats 400000

section
variable {w : World} {p : Program} {loose : List Str} {mean : ExcName → Option Value} {mg mb : Str → Option Value} {news : List (Addr × Obj)}

/-- what is said of a call of int2digits' inner def upon at most sz places -/
def Inner1 (w : World) (p : Program) (loose : List Str) (mean : ExcName → Option Value) (mg mb : Str → Option Value) (news : List (Addr × Obj)) (f lst : Addr) (n : Int) (sz : Nat) : Prop :=
  ∀ (pre mid post : List Int) (x lo hi : Int) (tx tL tR : Tok) (vs : List Value) (k : Nat), 0 ≤ x → Sm x → lo = pre.length → hi = lo + mid.length → mid ≠ [] → mid.length ≤ sz → (pre ++ mid ++ post).length ≤ 100 → IntsAre vs (pre ++ mid ++ post) →
    Ctr w p loose mean mg mb ((lst, W.listOf vs.toArray k) :: news) f [.int x tx, .int lo tL, .int hi tR] (sz + 2) (8 * (sz + 2))
    (fun h₀ L m s Q _ => ∀ vs' ds h' tk', Fr h₀ L h' m → News h₀ L h' ((lst, W.listOf vs'.toArray k) :: news) → IntsAre vs' (pre ++ ds ++ post) → ds.length = mid.length → val n.toNat ds = x → (∀ z ∈ ds, 0 ≤ z ∧ z ≤ x) → Q .none { s with heap := h', toks := tk' })

theorem inner1_spec {nm bd qual : Str} {ar : Arguments} {bo : List Stmt} {sc : Scope} {ps : Pos} (hin : in1 = .FunctionDef nm ar bo [] none [] sc none bd ps)
    {f lst cA cI cN c' : Addr} {oA oI oN oc : Obj} {doc pm ctv : Value} {vs0 : Array Value} {t0 tn : Tok} {n : Int}
    (hf : (f, fnMade nm qual ar bo sc [("n", cN), ("inner", cI), ("a_digits", cA)] doc pm c' ctv) ∈ news) (hc : (c', oc) ∈ news) (hoc : oc.data = .fields vs0) (hov : vs0[1]? = some (.str qual t0))
    (hA : (cA, oA) ∈ news) (hoA : oA.data = .cell (some (.ref lst))) (hI : (cI, oI) ∈ news) (hoI : oI.data = .cell (some (.ref f))) (hN : (cN, oN) ∈ news) (hoN : oN.data = .cell (some (.int n tn)))
    (hl : ∀ p ∈ news, p.1 ≠ lst) (hn0 : 0 < n) (hn1 : n < 100000) : ∀ sz : Nat, Inner1 w p loose mean mg mb news f lst n sz := by
  injection hin with e1 e2 e3 e4 e5 e6 e7 e8 e9 e10
  subst e1 e2 e3 e7 e9 e10
  clear e4 e5 e6 e8
  intro sz
  induction sz with
  | zero => unfold Inner1; intro pre mid post x lo hi tx tL tR vs k h0 hx hlo hhi hm hs; exact absurd (List.length_eq_zero_iff.mp (Nat.le_zero.mp hs)) hm
  | succ sz ih =>
  unfold Inner1
  intro pre mid post x lo hi tx tL tR vs k h0 hx hlo hhi hm hs hlen hv
  unfold Ctr
  k_fill
  w_top off
  k_with_none
  k_with "binaryOp RShift int int" => (refine my_rshift (by with_reducible assumption) (by first | with_reducible assumption | decide) ?_)
  k_with "binaryOp LShift int int" => (refine my_lshift (by with_reducible assumption) (by with_reducible assumption) (by with_reducible assumption) ?_)
  k_with "binaryOp BitXor int int" => (refine my_xor (by with_reducible assumption) ?_)
  k_with "binaryOp Mult int int" => (refine my_mul (by with_reducible assumption) (by with_reducible assumption) ?_)
  k_with "eval Name" => (k_here; kc_free; k_dflt (refine' nameX_F ?zzN ?zzc ?zzm ?zzd ?_ ?zza ?zzb; (case zza => rfl); (case zzb => rfl); (case zzN => k_asm); (case zzc => rfl); (case zzm => k_mem); (case zzd => k_asm); k_whole))
  intro dp un gd cn cs a0 ccd cl outer A₀ base h₀ L m s Q E B F X C1 C2 N T hk hdp hun hret
  have hf' := List.mem_cons_of_mem (lst, W.listOf vs.toArray k) hf
  have hc' := List.mem_cons_of_mem (lst, W.listOf vs.toArray k) hc
  refine wpAny_call ?_
  k_dflt (refine' code_nest ?k1 ?k2 ?k3 ?k4 ?k5 ?kA ?kF ?kK ?k6 ?k7 ?k8 ?k9 ?kB ?_ ?c2 ?c3 ?c4 ?c5; (case kA => exact rfl); (case kF => exact rfl); (case kK => assumption); (case k1 => k_asm); (case k2 => k_asm); (case k3 => k_asm); (case k4 => k_asm); (case k5 => k_asm); (case k6 => exact hf'); (case k7 => exact codeRec_news (by k_asm) hc' (by assumption) (by assumption)); (case k8 => ktr_room); (case k9 => exact BindsTo.of_eq rfl); (case c5 => decide); (case kB => exact locs rfl); (case c2 => exact rfl); (case c3 => exact rfl); (case c4 => exact rfl); k_whole; intro g' L' h' FG' F' N' B' X' T'; (try dsimp only); (try k_lift B'); (try k_fold))
  have C1' := CodeHd.keeps C1 FG'.keep
  have C2' := CodeHd.keeps C2 FG'.keep
  have hm1 : 1 ≤ mid.length := List.length_pos_iff.mpr hm
  simp only [List.length_append] at hlen
  have hil : vs.length = pre.length + mid.length + post.length := by rw [hv.length]; simp; omega
  cases hone : (lo + 1 == hi) with
  | true =>
    have hone' : lo + 1 = hi := by simpa using hone
    have hD : mid.length = 1 := by omega
    k_steps
    obtain ⟨d0, hd0⟩ := List.length_eq_one_iff.mp hD
    subst hd0
    refine hret _ [x] _ _ (by assumption) (by assumption) ?_ rfl (by simp [val]) (by simp [h0])
    rename IntsAre (List.set _ _ _) _ => hset
    rw [hlo, Int.toNat_natCast] at hset ⊢
    have e : (pre ++ [d0] ++ post).set pre.length x = pre ++ [x] ++ post := by simp
    rw [e] at hset
    exact hset
  | false => 
    have hone' : lo + 1 ≠ hi := by simpa using hone
    have hD : 2 ≤ mid.length := by omega
    obtain ⟨a, ha⟩ : ∃ a : Nat, mid.length / 2 = a := ⟨_, rfl⟩
    obtain ⟨md, emd⟩ : ∃ md, Int.fdiv (lo + hi) (2 ^ Int.toNat 1) = md := ⟨_, rfl⟩
    have hmd : md = lo + a := by
      rw [← emd, show (2 : Int) ^ Int.toNat 1 = 2 from rfl, Int.fdiv_eq_ediv_of_nonneg _ (by decide)]; omega
    obtain ⟨sh, esh⟩ : ∃ sh, (md - lo) * n = sh := ⟨_, rfl⟩
    have hsh : sh = ((a * n.toNat : Nat) : Int) := by
      rw [← esh, hmd]; push_cast; rw [Int.toNat_of_nonneg (by omega)]; grind
    have hsh0 : 0 ≤ sh := by omega
    have hshn : sh.toNat = n.toNat * a := by rw [hsh, Int.toNat_natCast, Nat.mul_comm]
    obtain ⟨up, eup⟩ : ∃ up, x.fdiv (2 ^ sh.toNat) = up := ⟨_, rfl⟩
    obtain ⟨us, eus⟩ : ∃ us, up * 2 ^ sh.toNat = us := ⟨_, rfl⟩
    obtain ⟨lw, elw⟩ : ∃ lw, Builtin.bitXor x us = lw := ⟨_, rfl⟩
    obtain ⟨xe, lw0, lwx, up0, upx⟩ := split_bits h0 eup eus elw
    rw [hshn] at xe
    have hlw : Sm lw := Sm.le hx (by omega)
    have hup : Sm up := Sm.le hx (by omega)
    have hmm : IntMulOk (md - lo) n := IntMulOk.of_right (PySem.intBits_le_64 (by omega) (by omega))
    have hls : (Builtin.Int.intBits up : Int) + sh ≤ 2 ^ 27 := by
      have := sm_bits hup
      have h3 : a * n.toNat ≤ 100 * 100000 := Nat.mul_le_mul (by omega) (by omega)
      omega
    have hal : (mid.take a).length = a := by rw [List.length_take]; omega
    have hbl : (mid.drop a).length = mid.length - a := List.length_drop
    have hsplit : mid.take a ++ mid.drop a = mid := List.take_append_drop a mid
    generalize mid.take a = m1 at hal hsplit
    generalize mid.drop a = m2 at hbl hsplit
    subst hsplit
    simp only [List.length_append] at hD hlen hil hs hbl ha hhi hm1
    repeat' (first | ((fail_if_success (with_reducible show wpAny _ _ (call (Value.ref _) _) _ _ _)); first | (k_unfold; (try dsimp only)) | (k_end; wrow_close) | walk1 | (dsimp only; walk1) | (leave1; (try dsimp only))))
    unfold Inner1 at ih
    have ih1 := ih pre m1 (m2 ++ post) lw lo md
    have ih2 := ih
    clear ih
    k_dflt (refine' ih1 _ _ _ vs k lw0 hlw hlo (by omega) (fun e => by have := congrArg List.length e; simp only [List.length_nil] at this; omega) (by omega) (by simp only [List.length_append]; omega) (by simpa using hv) _ _ _ _ _ _ _ _ _ _ _ _ _ _ _ _ _ ?uB ?uF ?uX ?uC ?uD ?uN ?uT ?uk ?ud ?uu ?_; (case uB => k_asm); (case uF => k_asm); (case uX => k_asm); (case uC => k_asm); (case uD => k_asm); (case uN => k_asm); (case uT => k_asm); (case uk => first | exact rfl | assumption); (case ud => ktr_room); (case uu => ktr_units))
    clear ih1
    intro vs1 d1 h1 tk1 F1 N1 i1 l1 v1 z1
    have hvs1 := i1.length
    simp only [List.length_append] at hvs1
    repeat' (first | ((fail_if_success (with_reducible show wpAny _ _ (call (Value.ref _) _) _ _ _)); first | (k_unfold; (try dsimp only)) | (k_end; wrow_close) | walk1 | (dsimp only; walk1) | (leave1; (try dsimp only))))
    k_dflt (refine' ih2 (pre ++ d1) m2 post up md hi _ _ _ vs1 k up0 hup (by rw [List.length_append]; omega) (by omega) (fun e => by have := congrArg List.length e; simp only [List.length_nil] at this; omega) (by omega) (by simp only [List.length_append]; omega) (by simpa using i1) _ _ _ _ _ _ _ _ _ _ _ _ _ _ _ _ _ ?uB ?uF ?uX ?uC ?uD ?uN ?uT ?uk ?ud ?uu ?_; (case uB => k_asm); (case uF => k_asm); (case uX => k_asm); (case uC => k_asm); (case uD => k_asm); (case uN => k_asm); (case uT => k_asm); (case uk => first | exact rfl | assumption); (case ud => ktr_room); (case uu => ktr_units))
    clear ih2
    intro vs2 d2 h2 tk2 F2 N2 i2 l2 v2 z2
    k_steps
    refine hret vs2 (d1 ++ d2) _ _ (by assumption) (by assumption) (by simpa using i2) (by rw [List.length_append, List.length_append, l1, l2]) ?_ ?_
    · rw [val_app, v1, v2, l1, hal, xe]
    · intro z hz
      rcases List.mem_append.mp hz with hz | hz
      · have := z1 z hz; omega
      · have := z2 z hz; omega
end
end
section
set_option maxRecDepth 100000
set_option maxHeartbeats 4000000

/-- a table of inner code objects: empty still, or with its one entry -/
def Tab (pos : Pos) (qual : Str) (ps : Array Value) (news : List (Addr × Obj)) : Prop :=
  ps = #[] ∨ ∃ c' oc vs t, ps = #[rawInt pos.line, rawInt pos.col, .ref c'] ∧ (c', oc) ∈ news ∧ oc.data = .fields vs ∧ vs[1]? = some (.str qual t)
theorem Tab.mono {pos : Pos} {qual : Str} {ps : Array Value} {news news' : List (Addr × Obj)} (h : Tab pos qual ps news) (hs : ∀ p ∈ news, p ∈ news') : Tab pos qual ps news' :=
  h.imp id fun ⟨c', oc, vs, t, a, b, r⟩ => ⟨c', oc, vs, t, a, hs _ b, r⟩
theorem ints_rep (t : Tok) : ∀ K : Nat, IntsAre (List.replicate K (Value.int 0 t)) (List.replicate K 0)
  | 0 => .nil
  | K + 1 => .cons 0 t (ints_rep t K)
def pos1 : Pos := ⟨73, 4, 82, 28⟩
def q1 : Str := (Str.ofString "_int2digits" ++ (".<locals>." : Str)) ++ Str.ofString "inner"
def pos2 : Pos := ⟨88, 4, 93, 57⟩
def q2 : Str := (Str.ofString "_digits2int" ++ (".<locals>." : Str)) ++ Str.ofString "inner"

section
variable {M : Model} {A : Around} {E : Value → Shared → Prop} {s : Shared} {h₀ : Heap} {L a c P : Addr} {m mg mb : Str → Option Value} {cn : Str} {cs : Scope} {ccd : Value} {cl : List (Str × Addr)} {news nt : List (Addr × Obj)} {g : Obj → List (Addr × Obj)}
  {p : Program} {loose : List Str} {mean : ExcName → Option Value} {name qual : Str} {params : Arguments} {body : List Stmt} {scope : Scope} {ps : Array Value} {pos : Pos} {firstLine : Nat} {clos : List (Str × Addr)}
theorem my_nest {Q : Value → Shared → Prop} (F : Fr h₀ L s.heap m) (N : News h₀ L s.heap news) (T : Top p loose mean mg mb h₀) (C : CodeHd h₀ c P) (hcd : ccd = .ref c) (U : UpdF P (tabObj ps) news g) (hst : Tab pos qual ps nt) (hnt : ∀ q ∈ nt, q ∈ news)
    (hcl : closureFor scope (envX cn cs L a ccd cl) = pure clos)
    (h : ∀ f c' oc vs t ctv doc h' tk, Fr h₀ L h' m →
      News h₀ L h' ((f, fnMade name qual params body scope clos doc ((mg "__name__").getD .none) c' ctv) :: (c', oc) :: g (tabObj #[rawInt pos.line, rawInt pos.col, .ref c'])) →
      oc.data = .fields vs → vs[1]? = some (.str qual t) → (∀ q ∈ news, q.1 < f) → c' < f → ((c', oc) ∈ nt ∨ AllLt c' news) → Q (.ref f) { s with heap := h', toks := tk }) :
    wpAny M A (makeFunction name qual params (.stmts body) scope (envX cn cs L a ccd cl) [] [] [] pos firstLine) Q E s := by
  rcases hst with e | ⟨c', oc, vs, t, e, hm, hd, hv⟩
  · subst e
    exact nest_K F N T C hcd U True.intro rfl hcl fun f c' oc vs t ctv doc h' tk F' N' d1 d2 l1 l2 => h f c' oc vs t ctv doc h' tk F' N' d1 d2 (fun q hq => Nat.lt_trans (l1 q hq) l2) l2 (.inr (allLt_of l1))
  · subst e
    obtain ⟨own, rest, hl, hg, _, _⟩ := U.split
    have hP : (P, tabObj #[rawInt pos.line, rawInt pos.col, .ref c']) ∈ news := by rw [hl]; exact List.mem_append_right _ (.head _)
    refine nestHit_K (c' := c') F N T C hcd hP (by simp [TriplesOk, rawInt]) (by simp [codeAmong, rawInt]) hcl fun f ctv doc h' tk F' N' l1 => ?_
    refine h f c' oc vs t ctv doc h' tk F' (fun q hq => ?_) hd hv l1 (l1 _ (hnt _ hm)) (.inl hm)
    rcases List.mem_cons.mp hq with rfl | hq
    · exact N' _ (.head _)
    · rcases List.mem_cons.mp hq with rfl | hq
      · exact N' _ (.tail _ (hnt _ hm))
      · rw [hg, ← hl] at hq; exact N' _ (.tail _ hq)
end

theorem ho_low {c' b : Addr} {oc : Obj} {q : Addr × Obj} {nt news : List (Addr × Obj)} (h : (c', oc) ∈ nt ∨ AllLt c' (q :: news)) (lo : ∀ p ∈ nt, p.1 < b) : @LT.lt Nat _ c' b ∨ @LT.lt Nat _ q.1 c' := h.imp (fun hq => lo _ hq) fun hq => hq.1

theorem digits_count {a n kk : Int} (hn : 0 < n) (hk : Builtin.Int.intBits a ≤ 8 * n) (ek : Int.fdiv (Builtin.Int.intBits a + n - 1) n = kk) : 0 ≤ kk ∧ kk ≤ 8 ∧ (a ≠ 0 → 0 < kk) ∧ (a = 0 → kk = 0) := by
  rw [Int.fdiv_eq_ediv_of_nonneg _ (Int.le_of_lt hn)] at ek
  have h1 : a ≠ 0 → 1 ≤ Builtin.Int.intBits a := fun h => by unfold Builtin.Int.intBits; rw [if_neg (by simpa using h)]; omega
  have h2 : a = 0 → Builtin.Int.intBits a = 0 := fun h => by unfold Builtin.Int.intBits; rw [if_pos (by simpa using h)]
  generalize Builtin.Int.intBits a = b at *
  refine ⟨?_, ?_, fun h => ?_, fun h => ?_⟩
  · rw [← ek]; exact Int.ediv_nonneg (by omega) (by omega)
  · rw [← ek]; exact Int.le_of_lt_add_one (Int.ediv_lt_of_lt_mul hn (by omega))
  · have := h1 h; rw [← ek]; exact (Int.le_ediv_iff_mul_le hn).mpr (by omega)
  · have := h2 h; rw [← ek, this]; exact Int.ediv_eq_zero_of_lt (by omega) (by omega)

section
variable {w : World} {p : Program} {loose : List Str} {mean : ExcName → Option Value} {mg mb : Str → Option Value} {news : List (Addr × Obj)}

theorem i2d_spec {nt : List (Addr × Obj)} {a n : Int} {ps : Array Value} {ta tb : Tok} (h38 : ∀ p ∈ news, p.1 ≠ 38) (hst : Tab pos1 q1 ps nt) (hnt : ∀ p ∈ nt, p ∈ news) (ha : 0 ≤ a) (hn : 0 < n) (hn2 : n < 100000) (ha2 : Sm a) (hbk : Builtin.Int.intBits a ≤ 8 * n) : Ctr w p loose mean mg mb ((38, tabObj ps) :: news) 43 [.int a ta, .int n tb] 40 400
    (fun h₀ L m s Q _ => ∀ lst vs ds c' oc vs0 t0 h' tk', Fr h₀ L h' m → News h₀ L h' ((lst, W.listOf vs.toArray 0) :: (c', oc) :: (38, tabObj #[rawInt pos1.line, rawInt pos1.col, .ref c']) :: news) →
      IntsAre vs ds → ds.length ≤ 16 → val n.toNat ds = a → (∀ z ∈ ds, 0 ≤ z ∧ z ≤ a) → oc.data = .fields vs0 → vs0[1]? = some (.str q1 t0) → (38 < lst ∧ ∀ p ∈ news, p.1 < lst) → c' ≠ lst → ((c', oc) ∈ nt ∨ (38 < c' ∧ ∀ p ∈ news, p.1 < c')) → Q (.ref lst) { s with heap := h', toks := tk' }) := by
  unfold Ctr
  k_fill
  w_top off
  k_with_none
  k_with "call builtin:len" => (k_here; (with_reducible show wpAny _ _ (call (Value.builtin "len") [Value.ref _]) _ _ _); first
        | refine kst_len (by assumption) (by k_mem) (List.length_replicate ..) (by omega) ?_
        | refine kst_len (by assumption) (by k_mem) rfl (by omega) ?_)
  intro dp un gd cn cs a0 ccd cl outer A₀ base h₀ L m s Q E B F X C1 C2 N T hk hdp hun hret
  have hbits := sm_bits ha2
  obtain ⟨kk, ek⟩ : ∃ kk, Int.fdiv (Builtin.Int.intBits a + n - 1) n = kk := ⟨_, rfl⟩
  obtain ⟨hk0, hk1, hk2, hk3⟩ : 0 ≤ kk ∧ kk ≤ 8 ∧ (a ≠ 0 → 0 < kk) ∧ (a = 0 → kk = 0) := digits_count hn hbk ek
  refine wpAny_call ?_
  k_dflt (refine' code_defC ?k1 ?k2 ?k3 ?k4 ?k5 ?kA ?kF ?kK ?k6 ?k7 ?k8 ?k9 ?kB ?kD ?_ ?c2 ?c3 ?c4; (case kA => exact rfl); (case kF => exact rfl); (case kK => assumption); (case k1 => k_asm); (case k2 => k_asm); (case k3 => k_asm); (case k4 => k_asm); (case k5 => k_asm); (case k6 => k_is); (case k7 => k_is); (case k8 => ktr_room); (case k9 => first | exact BindsTo.of_eq rfl | exact binds_K (by k_in) rfl (by k_is) rfl rfl rfl); (case kB => exact rfl); (case kD => decide +kernel); (case c2 => exact rfl); (case c3 => exact rfl); (case c4 => exact rfl); k_whole; intro g' L' h' tk' cells' FG' F' N' Y' B' X' T' l1; (try k_lt l1); k_cells Y'; (try simp only [List.cons_append, List.nil_append] at N'); (try dsimp only); (try k_lift B'); (try k_fold))
  have C1' := CodeHd.keeps C1 FG'.keep
  have C2' := CodeHd.keeps C2 FG'.keep
  have lo := kst_ltOf l1.2
  have lo9 : ∀ p ∈ nt, p.1 < L' := fun p hp => lo p (hnt p hp)
  repeat' (first | ((fail_if_success (with_reducible show wpAny _ _ (binaryOp _ (Value.ref _) (Value.int _ _)) _ _ _)); first | (k_unfold; (try dsimp only)) | (k_end; wrow_close) | walk1 | (dsimp only; walk1) | (leave1; (try dsimp only))))
  rename_i o1 o2 o3 d1 d2 d3 lt ht1 F7 N7 lt1
  refine my_rep (by assumption) (by assumption) (by k_mem) (by omega) (by omega) ?_
  intro ll ht2 F7b N7b ll1
  (try k_lt ll1)
  repeat' (first | ((fail_if_success (with_reducible show wpAny _ _ (exec (Stmt.FunctionDef _ _ _ _ _ _ _ _ _) _) _ _ _)); first | (k_unfold; (try dsimp only)) | (k_end; wrow_close) | walk1 | (dsimp only; walk1) | (leave1; (try dsimp only))))
  rename_i ht3 oA F8 N8 dA
  (k_dflt (refine' nestDef_K ?d0 ?k0 ?a0 ?_; (case d0 => exact rfl); (case k0 => exact rfl); (case a0 => exact rfl)); k_dflt (refine' my_nest (nt := ?knt) ?F ?N ?T ?C ?cd ?U ?kst ?hnt ?cl ?_; (case F => k_asm); (case N => k_asm); (case T => k_asm); (case cd => exact rfl); (case C => kn_code); (case U => k_updF); (case kst => assumption); (case hnt => (intro p hp; (repeat (first | exact hp | refine List.mem_cons_of_mem _ ?_)); first | done | (revert hp; revert p; with_reducible assumption))); (case cl => exact rfl)))
  intro f c' oc vs0 t0 ct dc hq tkq Fq Nq doc dov lf lcf ho
  clear F8 N8
  (try dsimp only at Nq)
  (try k_lt lf)
  (try k_lt2 lcf)
  have ho3 := ho_low ho (by with_reducible assumption)
  (try dsimp only at ho3)
  repeat' (first | ((fail_if_success (with_reducible show wpAny _ _ (exec (Stmt.If _ _ _ _) _) _ _ _)); first | (k_unfold; (try dsimp only)) | (k_end; wrow_close) | walk1 | (dsimp only; walk1) | (leave1; (try dsimp only))))
  rename_i hq2 oI Fz Nz dI
  by_cases h0 : a = 0
  · have h0' : (a != 0) = false := by simp [h0]
    k_steps
    rename_i kF kN Tc kX
    have e0 : kk = 0 := hk3 h0
    rw [ek, e0, Int.toNat_zero, List.replicate_zero] at kN
    refine hret ll _ [] c' oc vs0 t0 _ _ kF (kst_newsOf (l' := (ll, _) :: (c', oc) :: (38, _) :: news) kN (List.forall_mem_cons.mpr ⟨by k_mem, List.forall_mem_cons.mpr ⟨by k_mem, List.forall_mem_cons.mpr ⟨by k_mem, fun p hp => by repeat (first | exact hp | refine List.mem_cons_of_mem _ ?_)⟩⟩⟩)) .nil (by simp) (by simp [val, h0]) (by simp) doc dov ⟨ltN (by omega), fun p hp => Nat.lt_trans (lo p hp) (by omega)⟩ (neN (by omega)) (ho.imp_right fun h => ⟨kst_ltOf h (38, _) (by k_mem), fun p hp => kst_ltOf h p (by repeat (first | exact hp | refine List.mem_cons_of_mem _ ?_))⟩)
  · have h0' : (a != 0) = true := by simp [h0]
    repeat' (first | ((fail_if_success (with_reducible show wpAny _ _ (call (Value.ref _) _) _ _ _)); first | (k_unfold; (try dsimp only)) | (k_end; wrow_close) | walk1 | (dsimp only; walk1) | (leave1; (try dsimp only))))
    have hpos := hk2 h0
    obtain ⟨K, rfl⟩ : ∃ K : Nat, kk = K := ⟨kk.toNat, by omega⟩
    rw [ek, Int.toNat_natCast] at Nz ⊢
    have N9 := kst_newsOf (l' := (ll, _) :: (f, _) :: (c', oc) :: (L' + 1 + 1, oA) :: (L' + 1 + 1 + 1, oI) :: (L' + 1, o3) :: (38, _) :: news) Nz (List.forall_mem_cons.mpr ⟨by k_mem, List.forall_mem_cons.mpr ⟨by k_mem, List.forall_mem_cons.mpr ⟨by k_mem, List.forall_mem_cons.mpr ⟨by k_mem, List.forall_mem_cons.mpr ⟨by k_mem, List.forall_mem_cons.mpr ⟨by k_mem, List.forall_mem_cons.mpr ⟨by k_mem, fun p hp => by repeat (first | exact hp | refine List.mem_cons_of_mem _ ?_)⟩⟩⟩⟩⟩⟩⟩)
    clear Nz
    have hsp : ∀ t, IntsAre (List.replicate K (Value.int 0 t)) ([] ++ List.replicate K 0 ++ []) := fun t => by rw [List.nil_append, List.append_nil]; exact ints_rep t K
    k_dflt (refine' inner1_spec (w := w) (n := n) (tn := tb) (oA := oA) (oI := oI) (oN := o3) (oc := oc) (lst := ll) ?hin ?hf ?hc doc dov ?hA dA ?hI dI ?hN (d3.trans rfl) ?hl hn hn2 K [] (List.replicate K 0) [] a 0 K _ _ _ _ 0 ha ha2 rfl ?e1 ?e2 ?e3 ?e4 (hsp _) _ _ _ _ _ _ _ _ _ _ _ _ _ _ _ _ _ ?uB ?uF ?uX ?uC ?uD N9 ?uT ?uk ?ud ?uu ?_)
    case hin => rfl
    case hf => exact List.Mem.head _
    case hc => exact List.Mem.tail _ (List.Mem.head _)
    case hA => k_mem
    case hI => k_mem
    case hN => k_mem
    case hl =>
      refine List.forall_mem_cons.mpr ⟨?_, List.forall_mem_cons.mpr ⟨?_, List.forall_mem_cons.mpr ⟨?_, List.forall_mem_cons.mpr ⟨?_, List.forall_mem_cons.mpr ⟨?_, List.forall_mem_cons.mpr ⟨?_, ne_low lo ?_⟩⟩⟩⟩⟩⟩ <;> first | k_ne | exact Nat.le_of_lt (ltN (by omega))
    case e1 => simp
    case e2 => exact fun e => by have := congrArg List.length e; simp only [List.length_replicate, List.length_nil] at this; omega
    case e3 => simp
    case e4 => simp only [List.length_append, List.length_replicate, List.length_nil]; omega
    case uB => k_asm
    case uF => k_asm
    case uX => k_asm
    case uC => k_asm
    case uD => k_asm
    case uT => k_asm
    case uk => first | exact rfl | assumption
    case ud => have : K ≤ 8 := by omega
               ktr_room
    case uu => have : K ≤ 8 := by omega
               ktr_units
    intro vs1 ds h1 tk1 F1 N1 i1 l1' v1 z1
    rw [List.nil_append, List.append_nil] at i1
    rw [List.length_replicate] at l1'
    k_steps
    rename News _ _ _ _ => kN
    rename Fr _ _ _ _ => kF
    exact hret ll _ ds c' oc vs0 t0 _ _ kF (kst_newsOf (l' := (ll, _) :: (c', oc) :: (38, _) :: news) kN (List.forall_mem_cons.mpr ⟨by k_mem, List.forall_mem_cons.mpr ⟨by k_mem, List.forall_mem_cons.mpr ⟨by k_mem, fun p hp => by repeat (first | exact hp | refine List.mem_cons_of_mem _ ?_)⟩⟩⟩)) i1 (by omega) v1 z1 doc dov ⟨ltN (by omega), fun p hp => Nat.lt_trans (lo p hp) (by omega)⟩ (neN (by omega)) (ho.imp_right fun h => ⟨kst_ltOf h (38, _) (by k_mem), fun p hp => kst_ltOf h p (by repeat (first | exact hp | refine List.mem_cons_of_mem _ ?_))⟩)
end
end
section
set_option maxRecDepth 100000
set_option maxHeartbeats 4000000

theorem val_nonneg (n : Nat) : ∀ {a : List Int}, (∀ z ∈ a, 0 ≤ z) → 0 ≤ val n a
  | [], _ => Int.le_refl 0
  | d :: r, h => by
    have h1 := val_nonneg n (a := r) fun z hz => h z (.tail _ hz)
    have h2 := h d (.head _)
    show 0 ≤ d + 2 ^ n * val n r
    have := Int.mul_nonneg (a := 2 ^ n) (Int.le_of_lt (Int.pow_pos (by decide : (0:Int) < 2))) h1
    omega
theorem le_mul_pow (k : Nat) {x : Int} (h : 0 ≤ x) : x ≤ 2 ^ k * x := by
  have h1 : (1 : Int) ≤ 2 ^ k := Int.pow_pos (by decide)
  have := Int.mul_le_mul_of_nonneg_right h1 h
  omega
theorem val_mid (n : Nat) {pre mid post : List Int} (h : ∀ z ∈ pre ++ mid ++ post, 0 ≤ z) : 0 ≤ val n mid ∧ val n mid ≤ val n (pre ++ mid ++ post) := by
  have h1 := val_nonneg n (a := pre) fun z hz => h z (by simp [hz])
  have h2 := val_nonneg n (a := mid) fun z hz => h z (by simp [hz])
  have h3 := val_nonneg n (a := post) fun z hz => h z (by simp [hz])
  refine ⟨h2, ?_⟩
  rw [List.append_assoc, val_app, val_app]
  have h4 := Int.mul_nonneg (a := 2 ^ (n * mid.length)) (Int.le_of_lt (Int.pow_pos (by decide : (0:Int) < 2))) h3
  have h5 := le_mul_pow (n * pre.length) (x := val n mid + 2 ^ (n * mid.length) * val n post) (by omega)
  omega


section
variable {w : World} {p : Program} {loose : List Str} {mean : ExcName → Option Value} {mg mb : Str → Option Value} {news : List (Addr × Obj)}

def Inner2 (w : World) (p : Program) (loose : List Str) (mean : ExcName → Option Value) (mg mb : Str → Option Value) (news : List (Addr × Obj)) (f : Addr) (ds : List Int) (n : Int) (sz : Nat) : Prop :=
  ∀ (pre mid post : List Int) (lo hi : Int) (tL tR : Tok), ds = pre ++ mid ++ post → lo = pre.length → hi = lo + mid.length → mid ≠ [] → mid.length ≤ sz →
    Ctr w p loose mean mg mb news f [.int lo tL, .int hi tR] (sz + 2) (8 * (sz + 2))
    (fun h₀ L m s Q _ => ∀ t h' tk', Fr h₀ L h' m → News h₀ L h' news → Q (.int (val n.toNat mid) t) { s with heap := h', toks := tk' })

theorem inner2_spec {nm bd qual : Str} {ar : Arguments} {bo : List Stmt} {sc : Scope} {ps : Pos} (hin : in2 = .FunctionDef nm ar bo [] none [] sc none bd ps)
    {f dl cD cI cN c' : Addr} {oD oI oN oc : Obj} {doc pm ctv : Value} {vs0 : Array Value} {t0 tn : Tok} {n : Int} {vs : List Value} {kd : Nat} {ds : List Int}
    (hf : (f, fnMade nm qual ar bo sc [("n", cN), ("inner", cI), ("digits", cD)] doc pm c' ctv) ∈ news) (hc : (c', oc) ∈ news) (hoc : oc.data = .fields vs0) (hov : vs0[1]? = some (.str qual t0))
    (hD : (cD, oD) ∈ news) (hoD : oD.data = .cell (some (.ref dl))) (hI : (cI, oI) ∈ news) (hoI : oI.data = .cell (some (.ref f))) (hN : (cN, oN) ∈ news) (hoN : oN.data = .cell (some (.int n tn)))
    (hl : (dl, W.listOf vs.toArray kd) ∈ news) (hv : IntsAre vs ds) (hz : ∀ z ∈ ds, 0 ≤ z) (hsm : Sm (val n.toNat ds)) (hlen : ds.length ≤ 100) (hn0 : 0 < n) (hn1 : n < 100000) : ∀ sz : Nat, Inner2 w p loose mean mg mb news f ds n sz := by
  injection hin with e1 e2 e3 e4 e5 e6 e7 e8 e9 e10
  subst e1 e2 e3 e7 e9 e10
  clear e4 e5 e6 e8
  intro sz
  induction sz with
  | zero => unfold Inner2; intro pre mid post lo hi tL tR hds hlo hhi hm hs; exact absurd (List.length_eq_zero_iff.mp (Nat.le_zero.mp hs)) hm
  | succ sz ih =>
  unfold Inner2
  intro pre mid post lo hi tL tR hds hlo hhi hm hs
  unfold Ctr
  k_fill
  w_top off
  k_with_none
  k_with "binaryOp RShift int int" => (refine my_rshift (by with_reducible assumption) (by first | with_reducible assumption | decide) ?_)
  k_with "binaryOp LShift int int" => (refine my_lshift (by with_reducible assumption) (by with_reducible assumption) (by with_reducible assumption) ?_)
  k_with "binaryOp Mult int int" => (refine my_mul (by with_reducible assumption) (by with_reducible assumption) ?_)
  k_with "eval Name" => (k_here; kc_free; k_dflt (refine' nameX_F ?zzN ?zzc ?zzm ?zzd ?_ ?zza ?zzb; (case zza => rfl); (case zzb => rfl); (case zzN => k_asm); (case zzc => rfl); (case zzm => k_mem); (case zzd => k_asm); k_whole))
  intro dp un gd cn cs a0 ccd cl outer A₀ base h₀ L m s Q E B F X C1 C2 N T hk hdp hun hret
  have hf' := hf
  have hc' := hc
  refine wpAny_call ?_
  k_dflt (refine' code_nest ?k1 ?k2 ?k3 ?k4 ?k5 ?kA ?kF ?kK ?k6 ?k7 ?k8 ?k9 ?kB ?_ ?c2 ?c3 ?c4 ?c5; (case kA => exact rfl); (case kF => exact rfl); (case kK => assumption); (case k1 => k_asm); (case k2 => k_asm); (case k3 => k_asm); (case k4 => k_asm); (case k5 => k_asm); (case k6 => exact hf'); (case k7 => exact codeRec_news (by k_asm) hc' (by assumption) (by assumption)); (case k8 => ktr_room); (case k9 => exact BindsTo.of_eq rfl); (case c5 => decide); (case kB => exact locs rfl); (case c2 => exact rfl); (case c3 => exact rfl); (case c4 => exact rfl); k_whole; intro g' L' h' FG' F' N' B' X' T'; (try dsimp only); (try k_lift B'); (try k_fold))
  have C1' := CodeHd.keeps C1 FG'.keep
  have C2' := CodeHd.keeps C2 FG'.keep
  have hm1 : 1 ≤ mid.length := List.length_pos_iff.mpr hm
  have hdl : ds.length = pre.length + mid.length + post.length := by rw [hds]; simp; omega
  cases hone : (lo + 1 == hi) with
  | true =>
    have hone' : lo + 1 = hi := by simpa using hone
    have hD1 : mid.length = 1 := by omega
    obtain ⟨d0, hd0⟩ := List.length_eq_one_iff.mp hD1
    subst hd0
    k_steps
    have e : ds.getD lo.toNat 0 = val n.toNat [d0] := by rw [hds, hlo, Int.toNat_natCast]; simp [val]
    rw [e]
    exact hret _ _ _ (by assumption) (by assumption)
  | false =>
    have hone' : lo + 1 ≠ hi := by simpa using hone
    have hD2 : 2 ≤ mid.length := by omega
    obtain ⟨a, ha⟩ : ∃ a : Nat, mid.length / 2 = a := ⟨_, rfl⟩
    obtain ⟨md, emd⟩ : ∃ md, Int.fdiv (lo + hi) (2 ^ Int.toNat 1) = md := ⟨_, rfl⟩
    have hmd : md = lo + a := by
      rw [← emd, show (2 : Int) ^ Int.toNat 1 = 2 from rfl, Int.fdiv_eq_ediv_of_nonneg _ (by decide)]; omega
    obtain ⟨sh, esh⟩ : ∃ sh, (md - lo) * n = sh := ⟨_, rfl⟩
    have hsh : sh = ((a * n.toNat : Nat) : Int) := by
      rw [← esh, hmd]; push_cast; rw [Int.toNat_of_nonneg (by omega)]; grind
    have hsh0 : 0 ≤ sh := by omega
    have hshn : sh.toNat = n.toNat * a := by rw [hsh, Int.toNat_natCast, Nat.mul_comm]
    have hal : (mid.take a).length = a := by rw [List.length_take]; omega
    have hbl : (mid.drop a).length = mid.length - a := List.length_drop
    have hsplit : mid.take a ++ mid.drop a = mid := List.take_append_drop a mid
    generalize mid.take a = m1 at hal hsplit
    generalize mid.drop a = m2 at hbl hsplit
    subst hsplit
    simp only [List.length_append] at hD2 hdl hs hbl ha hhi hm1
    obtain ⟨v20, v2x⟩ := val_mid n.toNat (pre := pre ++ m1) (mid := m2) (post := post) (by intro z hz'; exact hz z (by rw [hds]; simpa using hz'))
    have hsm2 : Sm (val n.toNat m2) := Sm.le hsm (by rw [hds, ← List.append_assoc]; omega)
    have hmm : IntMulOk (md - lo) n := IntMulOk.of_right (PySem.intBits_le_64 (by omega) (by omega))
    obtain ⟨u2, eu2⟩ : ∃ u2, val n.toNat m2 * 2 ^ sh.toNat = u2 := ⟨_, rfl⟩
    have hls : (Builtin.Int.intBits (val n.toNat m2) : Int) + sh ≤ 2 ^ 27 := by
      have := sm_bits hsm2
      have h3 : a * n.toNat ≤ 100 * 100000 := Nat.mul_le_mul (by omega) (by omega)
      omega
    repeat' (first | ((fail_if_success (with_reducible show wpAny _ _ (call (Value.ref _) _) _ _ _)); first | (k_unfold; (try dsimp only)) | (k_end; wrow_close) | walk1 | (dsimp only; walk1) | (leave1; (try dsimp only))))
    unfold Inner2 at ih
    have ih1 := ih (pre ++ m1) m2 post md hi
    have ih2 := ih pre m1 (m2 ++ post) lo md
    clear ih
    k_dflt (refine' ih1 _ _ (by rw [hds]; simp) (by rw [List.length_append]; omega) (by omega) (fun e => by have := congrArg List.length e; simp only [List.length_nil] at this; omega) (by omega) _ _ _ _ _ _ _ _ _ _ _ _ _ _ _ _ _ ?uB ?uF ?uX ?uC ?uD ?uN ?uT ?uk ?ud ?uu ?_; (case uB => k_asm); (case uF => k_asm); (case uX => k_asm); (case uC => k_asm); (case uD => k_asm); (case uN => k_asm); (case uT => k_asm); (case uk => first | exact rfl | assumption); (case ud => ktr_room); (case uu => ktr_units))
    clear ih1
    intro t1 h1 tk1 F1 N1
    repeat' (first | ((fail_if_success (with_reducible show wpAny _ _ (call (Value.ref _) _) _ _ _)); first | (k_unfold; (try dsimp only)) | (k_end; wrow_close) | walk1 | (dsimp only; walk1) | (leave1; (try dsimp only))))
    k_dflt (refine' ih2 _ _ (by rw [hds]; simp) hlo (by omega) (fun e => by have := congrArg List.length e; simp only [List.length_nil] at this; omega) (by omega) _ _ _ _ _ _ _ _ _ _ _ _ _ _ _ _ _ ?uB ?uF ?uX ?uC ?uD ?uN ?uT ?uk ?ud ?uu ?_; (case uB => k_asm); (case uF => k_asm); (case uX => k_asm); (case uC => k_asm); (case uD => k_asm); (case uN => k_asm); (case uT => k_asm); (case uk => first | exact rfl | assumption); (case ud => ktr_room); (case uu => ktr_units))
    clear ih2
    intro t2 h2 tk2 F2 N2
    have e : u2 + val n.toNat m1 = val n.toNat (m1 ++ m2) := by
      rw [val_app, ← eu2, hshn, hal]; grind
    k_steps
    rw [e]
    exact hret _ _ _ (by assumption) (by assumption)
end


section
variable {w : World} {p : Program} {loose : List Str} {mean : ExcName → Option Value} {mg mb : Str → Option Value} {news : List (Addr × Obj)}

theorem d2i_spec {nt : List (Addr × Obj)} {dl : Addr} {vs : List Value} {kd : Nat} {ds : List Int} {n : Int} {ps : Array Value} {tb : Tok} (h45 : ∀ p ∈ news, p.1 ≠ 45) (hst : Tab pos2 q2 ps nt) (hnt : ∀ p ∈ nt, p ∈ news) (hl : (dl, W.listOf vs.toArray kd) ∈ news) (hv : IntsAre vs ds) (hz : ∀ z ∈ ds, 0 ≤ z) (hsm : Sm (val n.toNat ds)) (hlen : ds.length ≤ 16)
    (hn : 0 < n) (hn2 : n < 100000) : Ctr w p loose mean mg mb ((45, tabObj ps) :: news) 50 [.ref dl, .int n tb] 40 400
    (fun h₀ L m s Q _ => ∀ c' oc vs0 t0 t h' tk', Fr h₀ L h' m → News h₀ L h' ((c', oc) :: (45, tabObj #[rawInt pos2.line, rawInt pos2.col, .ref c']) :: news) →
      oc.data = .fields vs0 → vs0[1]? = some (.str q2 t0) → ((c', oc) ∈ nt ∨ (45 < c' ∧ ∀ p ∈ news, p.1 < c')) → Q (.int (val n.toNat ds) t) { s with heap := h', toks := tk' }) := by
  unfold Ctr
  k_fill
  w_top off
  k_with_none
  k_with "binaryOp RShift int int" => (refine my_rshift (by with_reducible assumption) (by first | with_reducible assumption | decide) ?_)
  k_with "binaryOp LShift int int" => (refine my_lshift (by with_reducible assumption) (by with_reducible assumption) (by with_reducible assumption) ?_)
  k_with "binaryOp Mult int int" => (refine my_mul (by with_reducible assumption) (by with_reducible assumption) ?_)
  k_with "eval Name" => (k_here; kc_free; k_dflt (refine' nameX_F ?zzN ?zzc ?zzm ?zzd ?_ ?zza ?zzb; (case zza => rfl); (case zzb => rfl); (case zzN => k_asm); (case zzc => rfl); (case zzm => k_mem); (case zzd => k_asm); k_whole))
  k_with "truthy ref" => (k_here; (with_reducible show wpAny _ _ (truthy (Value.ref _)) _ _ _); refine kgr_truthy (by assumption) (by k_mem) rfl rfl (by first | omega | decide) ?_)
  k_with "call builtin:len" => (k_here; (with_reducible show wpAny _ _ (call (Value.builtin "len") [Value.ref _]) _ _ _); first
        | refine kst_len (by assumption) (by k_mem) (by with_reducible assumption) (by omega) ?_)
  intro dp un gd cn cs a0 ccd cl outer A₀ base h₀ L m s Q E B F X C1 C2 N T hk hdp hun hret
  have hvl : vs.length = ds.length := hv.length
  refine wpAny_call ?_
  k_dflt (refine' code_defC ?k1 ?k2 ?k3 ?k4 ?k5 ?kA ?kF ?kK ?k6 ?k7 ?k8 ?k9 ?kB ?kD ?_ ?c2 ?c3 ?c4; (case kA => exact rfl); (case kF => exact rfl); (case kK => assumption); (case k1 => k_asm); (case k2 => k_asm); (case k3 => k_asm); (case k4 => k_asm); (case k5 => k_asm); (case k6 => k_is); (case k7 => k_is); (case k8 => ktr_room); (case k9 => first | exact BindsTo.of_eq rfl | exact binds_K (by k_in) rfl (by k_is) rfl rfl rfl); (case kB => exact rfl); (case kD => decide +kernel); (case c2 => exact rfl); (case c3 => exact rfl); (case c4 => exact rfl); k_whole; intro g' L' h' tk' cells' FG' F' N' Y' B' X' T' l1; (try k_lt l1); k_cells Y'; (try simp only [List.cons_append, List.nil_append] at N'); (try dsimp only); (try k_lift B'); (try k_fold))
  have C1' := CodeHd.keeps C1 FG'.keep
  have C2' := CodeHd.keeps C2 FG'.keep
  have lo := kst_ltOf l1.2
  have lo9 : ∀ p ∈ nt, p.1 < L' := fun p hp => lo p (hnt p hp)
  have hdl : dl < L' := lo _ hl
  repeat' (first | ((fail_if_success (with_reducible show wpAny _ _ (exec (Stmt.FunctionDef _ _ _ _ _ _ _ _ _) _) _ _ _)); first | (k_unfold; (try dsimp only)) | (k_end; wrow_close) | walk1 | (dsimp only; walk1) | (leave1; (try dsimp only))))
  rename_i o1 o2 o3 d1 d2 d3
  (k_dflt (refine' nestDef_K ?d0 ?k0 ?a0 ?_; (case d0 => exact rfl); (case k0 => exact rfl); (case a0 => exact rfl)); k_dflt (refine' my_nest (nt := ?knt) ?F ?N ?T ?C ?cd ?U ?kst ?hnt ?cl ?_; (case F => k_asm); (case N => k_asm); (case T => k_asm); (case cd => exact rfl); (case C => kn_code); (case U => k_updF); (case kst => assumption); (case hnt => (intro p hp; (repeat (first | exact hp | refine List.mem_cons_of_mem _ ?_)); first | done | (revert hp; revert p; with_reducible assumption))); (case cl => exact rfl)))
  intro f c' oc vs0 t0 ct dc hq tkq Fq Nq doc dov lf lcf ho
  (try dsimp only at Nq)
  (try k_lt lf)
  (try k_lt2 lcf)
  have ho3 := ho_low ho (by with_reducible assumption)
  (try dsimp only at ho3)
  repeat' (first | ((fail_if_success (with_reducible show wpAny _ _ (exec (Stmt.Return _ _) _) _ _ _)); first | (k_unfold; (try dsimp only)) | (k_end; wrow_close) | walk1 | (dsimp only; walk1) | (leave1; (try dsimp only))))
  rename_i hq2 oI Fz Nz dI
  by_cases h0 : ds = []
  · subst h0
    cases hv
    k_steps
    rename_i kF kN Tc kX
    exact hret c' oc vs0 t0 _ _ _ kF (kst_newsOf (l' := (c', oc) :: (45, _) :: news) kN (List.forall_mem_cons.mpr ⟨by k_mem, List.forall_mem_cons.mpr ⟨by k_mem, fun p hp => by repeat (first | exact hp | refine List.mem_cons_of_mem _ ?_)⟩⟩)) doc dov (ho.imp_right fun h => ⟨kst_ltOf h (45, _) (by k_mem), fun p hp => kst_ltOf h p (by repeat (first | exact hp | refine List.mem_cons_of_mem _ ?_))⟩)
  · have he : (!vs.isEmpty) = true := by
      cases vs with
      | nil => exact absurd (List.length_eq_zero_iff.mp hvl.symm) h0
      | cons _ _ => rfl
    repeat' (first | ((fail_if_success (with_reducible show wpAny _ _ (call (Value.ref _) _) _ _ _)); first | (k_unfold; (try dsimp only)) | (k_end; wrow_close) | walk1 | (dsimp only; walk1) | (leave1; (try dsimp only))))
    k_dflt (refine' inner2_spec (w := w) (n := n) (tn := tb) (vs := vs) (kd := kd) (oD := o3) (oI := oI) (oN := o2) (oc := oc) ?hin ?hf ?hc doc dov ?hD (d3.trans rfl) ?hI dI ?hN (d2.trans rfl) ?hl hv hz hsm ?hl2 hn hn2 ds.length [] ds [] 0 ds.length _ _ ?e0 rfl ?e1 h0 ?e2 _ _ _ _ _ _ _ _ _ _ _ _ _ _ _ _ _ ?uB ?uF ?uX ?uC ?uD Nz ?uT ?uk ?ud ?uu ?_)
    case hin => rfl
    case hf => exact List.Mem.head _
    case hc => exact List.Mem.tail _ (List.Mem.head _)
    case hD => k_mem
    case hI => k_mem
    case hN => k_mem
    case hl => k_mem
    case hl2 => omega
    case e0 => simp
    case e1 => simp
    case e2 => exact Nat.le_refl _
    case uB => k_asm
    case uF => k_asm
    case uX => k_asm
    case uC => k_asm
    case uD => k_asm
    case uT => k_asm
    case uk => first | exact rfl | assumption
    case ud => ktr_room
    case uu => ktr_units
    intro t9 h9 tk9 F9 N9
    k_steps
    rename News _ _ _ _ => kN
    rename Fr _ _ _ _ => kF
    exact hret c' oc vs0 t0 _ _ _ kF (kst_newsOf (l' := (c', oc) :: (45, _) :: news) kN (List.forall_mem_cons.mpr ⟨by k_mem, List.forall_mem_cons.mpr ⟨by k_mem, fun p hp => by repeat (first | exact hp | refine List.mem_cons_of_mem _ ?_)⟩⟩)) doc dov (ho.imp_right fun h => ⟨kst_ltOf h (45, _) (by k_mem), fun p hp => kst_ltOf h p (by repeat (first | exact hp | refine List.mem_cons_of_mem _ ?_))⟩)
end
end
section
set_option maxRecDepth 100000
set_option maxHeartbeats 4000000

section
variable {prog : Program} {w : World} {A : Around} {E : Value → Shared → Prop} {s : Shared} {env : Env} {h₀ : Heap} {x : Str} {body : List Stmt} {Q : Flow → Shared → Prop}
/-- a loop over reversed(l), l a list of ints that the loop lets alone -/
theorem kst_rev {σ : Type} {l D : Addr} {vs : List Value} {ns : List Int} {k : Nat} {m₀ : Str → Option Value} {news : List (Addr × Obj)} (Led : σ → List (Addr × Obj)) (ps : σ → List (Str × Value)) (Facts : σ → Prop) (stored : List Str) (P : List Int → σ → Prop) (c₀ : σ)
    (hh : A.handled = none) (hD : (D, revObj l ((vs.length : Int) - 1)) ∈ news) (hl : (l, W.listOf vs.toArray k) ∈ news) (hi : IntsAre vs ns) (F : Fr h₀ env.locals s.heap m₀) (N : News h₀ env.locals s.heap news) (hle : ∀ q ∈ Led c₀, q ∈ news) (hfp : ∀ q ∈ Led c₀, q.1 ≠ D ∧ q.1 ≠ l) (hlD : l ≠ D)
    (hf : Facts c₀) (hk : ∀ p ∈ ps c₀, m₀ p.1 = some p.2) (hp : P [] c₀)
    (turn : ∀ (c : σ) pre post n t (u : Str → Option Value) h tk own, ns.reverse = pre ++ n :: post → OwnOff own ((Led c₀).map (·.1)) → Facts c → P pre c →
      Fr h₀ env.locals h (fun y => if y = x then some (.int n t) else kstB (fun z => if stored.contains z then u z else m₀ z) (ps c) y) → News h₀ env.locals h (Led c ++ own) →
      wpAny (model prog w) A (execs body env) (InvPostN h₀ env.locals (KstS Led ps Facts x stored m₀ P (pre ++ [n])) own ((Led c₀).map (·.1)) { s with heap := h, toks := tk } Q) E { s with heap := h, toks := tk })
    (done : ∀ (c : σ) (u : Str → Option Value) h tk, Facts c → P ns.reverse c → Fr h₀ env.locals h (fun y => if y = x then u y else kstB (fun z => if stored.contains z then u z else m₀ z) (ps c) y) → News h₀ env.locals h (Led c) → Q .next { s with heap := h, toks := tk }) :
    wpAny (model prog w) A (pyIter (.ref D)) (fun it s₂ => LoopAtV prog w A h₀ env x body Q E it s₂) E s := by
  have hDn := N _ hD
  have hln := N _ hl
  have hrev : s.heap.IsRevIter D l ((vs.toArray.size : Int) - 1 - ((0 : Nat) : Int)) := ⟨_, hDn.1, rfl, by simp [revObj]⟩
  have hlist : s.heap.IsList l vs.toArray := ⟨_, hln.1, rfl, k, rfl⟩
  have hsz : vs.toArray.size = ns.length := by rw [List.size_toArray]; exact hi.length
  refine wpAny_pyIter_revIter hrev ?_
  have W := Walks.listRev (prog := prog) (w := w) hh D l hlD vs.toArray
  rw [hsz] at W
  refine loop_invN (fun i m nx => KstS Led ps Facts x stored m₀ P (ns.reverse.take i) m nx) W ?_ ?_ ?_ ?_ ⟨Nat.zero_le _, by rw [hsz] at hrev; exact hrev, hlist⟩ F (fun q hq => N q (hle q hq)) ⟨c₀, rfl, hf, hk, fun _ _ _ _ => rfl, by simpa using hp⟩ ?_ ?_
  · intro hm
    rcases List.mem_cons.mp hm with e | hm
    · exact hDn.2.1 e.symm
    · exact hln.2.1 (List.mem_singleton.mp hm).symm
  · intro b hb
    rw [List.mem_singleton.mp hb]
    exact hDn.2.2
  · intro q hq hI
    exact (hfp q hq).1 (List.mem_singleton.mp hI)
  · intro q hq hI
    rcases List.mem_cons.mp hI with e | hI
    · exact (hfp q hq).1 e
    · exact (hfp q hq).2 (List.mem_singleton.mp hI)
  · rintro i v m₁ nx h tk own hi' hv _ hoff ⟨c, rfl, hf', h1, h2, hp'⟩ F₁ N₁
    have hj : ns.length - 1 - i < ns.length := by omega
    have hr : ns.reverse[i]? = some ns[ns.length - 1 - i] := by
      rw [List.getElem?_eq_getElem (by rw [List.length_reverse]; exact hi'), List.getElem_reverse]
    obtain ⟨t, ht⟩ := hi.get (ns.length - 1 - i) ns[ns.length - 1 - i] (by simp)
    have hv' : vs[ns.length - 1 - i]? = some v := by simpa using hv
    rw [ht] at hv'
    cases hv'
    have hs : ns.reverse.take (i + 1) = ns.reverse.take i ++ [ns[ns.length - 1 - i]] := by simp only [List.take_add_one, hr]; rfl
    have e : ns.reverse = ns.reverse.take i ++ ns[ns.length - 1 - i] :: ns.reverse.drop (i + 1) := by
      have ht := List.take_append_drop (i + 1) ns.reverse
      rw [hs, List.append_assoc] at ht
      exact ht.symm
    rw [hs]
    exact turn c _ _ _ t m₁ h tk own e hoff hf' hp' (kst_fr h1 h2 F₁) N₁
  · rintro m₁ nx h tk ⟨c, rfl, hf', h1, h2, hp'⟩ F₁ N₁
    have hl : ns.reverse.take ns.length = ns.reverse := List.take_of_length_le (by simp)
    rw [hl] at hp'
    exact done c m₁ h tk hf' hp' (kst_frOut h1 h2 F₁) N₁
end

def Sb (k : Nat) (x : Int) : Prop := x.natAbs < 2 ^ k
theorem Sb.sm {k : Nat} {x : Int} (h : Sb k x) (hk : k ≤ 1000) : Sm x := Nat.lt_of_lt_of_le h (Nat.pow_le_pow_right (by decide) hk)
theorem Sb.bits {k : Nat} {x : Int} (h : Sb k x) : Builtin.Int.intBits x ≤ k := by
  unfold Builtin.Int.intBits
  by_cases h0 : x = 0
  · rw [if_pos (by simp [h0])]; omega
  · rw [if_neg (by simp [h0])]; exact (Nat.log2_lt (by omega)).mpr h

/-- a step of the division digit by digit -/
theorem long_step {r d n : Nat} {b : Int} (hb : 0 < b) (h1 : (r : Int) < b) (hr : Sb 400 b) (hn : n ≤ 400) (hd : Sb 400 (d : Int)) : Sm ((r : Int) * 2 ^ n + d) := by
  unfold Sb at hr hd
  unfold Sm
  have e : ((r : Int) * 2 ^ n + d).natAbs = r * 2 ^ n + d := by
    have : ((r : Int) * 2 ^ n + d) = ((r * 2 ^ n + d : Nat) : Int) := by push_cast; rfl
    rw [this, Int.natAbs_natCast]
  rw [e]
  have h2 : r < 2 ^ 400 := by omega
  have h3 : (2 : Nat) ^ n ≤ 2 ^ 400 := Nat.pow_le_pow_right (by decide) hn
  have h4 : r * 2 ^ n ≤ 2 ^ 400 * 2 ^ 400 := Nat.mul_le_mul (Nat.le_of_lt h2) h3
  rw [Int.natAbs_natCast] at hd
  have h5 : (2 : Nat) ^ 400 * 2 ^ 400 + 2 ^ 400 ≤ 2 ^ 1000 := by decide +kernel
  omega


theorem my_reverse {prog : Program} {w : World} {A : Around} {E : Value → Shared → Prop} {s : Shared} {h₀ : Heap} {L D : Addr} {m : Str → Option Value} {news news' : List (Addr × Obj)} {vs : List Value} {n : Nat} {Q : Value → Shared → Prop} (F : Fr h₀ L s.heap m) (N : News h₀ L s.heap news)
    (U : Upd D (W.listOf vs.toArray n) (W.listOf vs.reverse.toArray n) news news') (hz : vs.length ≤ 1000)
    (h : ∀ h', Fr h₀ L h' m → News h₀ L h' news' → Q .none { s with heap := h' }) : wpAny (model prog w) A (call (.builtin "list.reverse") [.ref D]) Q E s :=
  kl_reverse F N rfl U (by rw [sizeLine_eq]; show vs.length ≤ _; omega) h

section
variable {w : World} {p : Program} {loose : List Str} {mean : ExcName → Option Value} {mg mb : Str → Option Value} {news : List (Addr × Obj)}

theorem fdivmod_pos {x b : Int} (hb : 0 < b) (hx : 0 ≤ x) : 0 ≤ x.fdiv b ∧ 0 ≤ x.fmod b ∧ x.fmod b < b ∧ x = b * x.fdiv b + x.fmod b := by
  rw [Int.fdiv_eq_ediv_of_nonneg _ (Int.le_of_lt hb), Int.fmod_eq_emod_of_nonneg _ (Int.le_of_lt hb)]
  exact ⟨Int.ediv_nonneg hx (Int.le_of_lt hb), Int.emod_nonneg _ (by omega), Int.emod_lt_of_pos _ hb, (Int.mul_ediv_add_emod x b).symm⟩
theorem fdivmod_unique {a b q r : Int} (hb : 0 < b) (r0 : 0 ≤ r) (rb : r < b) (e : a = b * q + r) : a.fdiv b = q ∧ a.fmod b = r := by
  rw [Int.fdiv_eq_ediv_of_nonneg _ (Int.le_of_lt hb), Int.fmod_eq_emod_of_nonneg _ (Int.le_of_lt hb)]
  exact (Int.ediv_emod_unique hb).mpr ⟨by rw [e, Int.add_comm], r0, rb⟩

theorem ints_rev : ∀ {vs : List Value} {ns : List Int}, IntsAre vs ns → IntsAre vs.reverse ns.reverse
  | _, _, .nil => .nil
  | _, _, .cons n t r => by rw [List.reverse_cons, List.reverse_cons]; exact IntsAre.append (ints_rev r) (.cons n t .nil)

structure DS where
  r : Int
  tr : Tok
  vs : List Value
  nn : Nat

theorem dmp_spec {nt : List (Addr × Obj)} {a b : Int} {p1 p2 : Array Value} {ta tb : Tok} (h38 : ∀ p ∈ news, p.1 ≠ 38) (h45 : ∀ p ∈ news, p.1 ≠ 45) (hs1 : Tab pos1 q1 p1 nt) (hs2 : Tab pos2 q2 p2 nt) (hnt : ∀ p ∈ nt, p ∈ news)
    (ha : 0 ≤ a) (hb : 0 < b) (sa : Sb 400 a) (sb : Sb 400 b) (hbits : Builtin.Int.intBits a ≤ 8 * Builtin.Int.intBits b) : Ctr w p loose mean mg mb ((38, tabObj p1) :: (45, tabObj p2) :: news) 57 [.int a ta, .int b tb] 60 600
    (fun h₀ L m s Q _ => ∀ l c1 o1 v1 t1 c2 o2 v2 t2 tq tr h' tk', Fr h₀ L h' m →
      News h₀ L h' ((l, { cls := .type "tuple", data := .seq [.int (a.fdiv b) tq, .int (a.fmod b) tr].toArray }) :: (c1, o1) :: (c2, o2) :: (38, tabObj #[rawInt pos1.line, rawInt pos1.col, .ref c1]) :: (45, tabObj #[rawInt pos2.line, rawInt pos2.col, .ref c2]) :: news) →
      o1.data = .fields v1 → v1[1]? = some (.str q1 t1) → o2.data = .fields v2 → v2[1]? = some (.str q2 t2) → ((c1, o1) ∈ nt ∨ (45 < c1 ∧ ∀ p ∈ news, p.1 < c1)) → ((c2, o2) ∈ nt ∨ (45 < c2 ∧ ∀ p ∈ news, p.1 < c2)) → (45 < l ∧ ∀ p ∈ news, p.1 < l) → Q (.ref l) { s with heap := h', toks := tk' }) := by
  unfold Ctr
  k_fill
  w_top off
  k_with_none
  k_with "binaryOp LShift int int" => (refine my_lshift (by with_reducible assumption) (by with_reducible assumption) (by with_reducible assumption) ?_)
  intro dp un gd cn cs a0 ccd cl outer A₀ base h₀ L m s Q E B F X C1 C2 N T hk hdp hun hret
  have sma := sa.sm (by decide)
  have hn0 : 0 < Builtin.Int.intBits b := by unfold Builtin.Int.intBits; rw [if_neg (by simp; omega)]; omega
  have hn4 : Builtin.Int.intBits b ≤ 400 := sb.bits
  refine wpAny_call ?_
  k_dflt (refine' code_def ?k1 ?k2 ?k3 ?k4 ?k5 ?kA ?kF ?kK ?k6 ?k7 ?k8 ?k9 ?kB ?_ ?c2 ?c3 ?c4 ?c5; (case kA => exact rfl); (case kF => exact rfl); (case kK => assumption); (case k1 => k_asm); (case k2 => k_asm); (case k3 => k_asm); (case k4 => k_asm); (case k5 => k_asm); (case k6 => k_is); (case k7 => k_is); (case k8 => ktr_room); (case k9 => first | exact BindsTo.of_eq rfl | exact binds_K (by k_in) rfl (by k_is) rfl rfl rfl); (case c5 => decide); (case kB => exact locs rfl); (case c2 => exact rfl); (case c3 => exact rfl); (case c4 => exact rfl); k_whole; intro g' L' h' FG' F' N' B' X' T'; (try dsimp only); (try k_lift B'); (try k_fold))
  have C1' := CodeHd.keeps C1 FG'.keep
  have C2' := CodeHd.keeps C2 FG'.keep
  repeat' (first | ((fail_if_success (with_reducible show wpAny _ _ (call (Value.ref _) _) _ _ _)); first | (k_unfold; (try dsimp only)) | (k_end; wrow_close) | walk1 | (dsimp only; walk1) | (leave1; (try dsimp only))))
  rename Fr _ _ _ _ => F0
  rename News _ _ _ _ => N0
  have hi2d := fun ta tb => i2d_spec (ta := ta) (tb := tb) (w := w) (p := p) (loose := loose) (mean := mean) (mg := mg) (mb := mb) (nt := nt) (news := (45, tabObj p2) :: news) (a := a) (n := Builtin.Int.intBits b) (ps := p1)
    (List.forall_mem_cons.mpr ⟨(by decide : (45 : Nat) ≠ 38), h38⟩) hs1 (fun p hp => List.mem_cons_of_mem _ (hnt p hp)) ha (by omega) (by omega) sma (by omega)
  k_dflt (refine' hi2d _ _ _ _ _ _ _ _ _ _ _ _ _ _ _ _ _ _ _ ?uB ?uF ?uX ?uC ?uD ?uN ?uT ?uk ?ud ?uu ?_; (case uB => k_asm); (case uF => k_asm); (case uX => k_asm); (case uC => k_asm); (case uD => k_asm); (case uN => k_asm); (case uT => k_asm); (case uk => first | exact rfl | assumption); (case ud => ktr_room); (case uu => ktr_units))
  clear hi2d F0 N0
  intro ll vs ds c1 o1 v1 t1 h1 tk1 F1 N1 i1 dl1 vl1 z1 d1 dv1 lo1 hcl ho1
  have lo2 : @LT.lt Nat _ 38 ll := lo1.1
  have lo3 : @LT.lt Nat _ 45 ll := lo1.2 _ (.head _)
  have hcl : @Ne Nat c1 ll := hcl
  rw [Int.toNat_natCast] at vl1
  repeat' (first | ((fail_if_success (with_reducible show wpAny _ _ (pyIter _) _ _ _)); first | (k_unfold; (try dsimp only)) | (k_end; wrow_close) | walk1 | (dsimp only; walk1) | (leave1; (try dsimp only))))
  rename_i hA hB hC ql hD lq hE D hF Fz Nz lD
  refine kst_rev (σ := DS) (l := ll) (D := D) (fun c => (ql, W.listOf c.vs.toArray c.nn) :: (c1, o1) :: (38, tabObj #[rawInt pos1.line, rawInt pos1.col, .ref c1]) :: (45, tabObj p2) :: news) (fun c => [(Str.ofString "r", .int c.r c.tr)]) (fun _ => True) [Str.ofString "q_digit"]
    (fun pre c => ∃ qs, IntsAre c.vs qs ∧ qs.length = pre.length ∧ (∀ z ∈ qs, 0 ≤ z) ∧ 0 ≤ c.r ∧ c.r < b ∧ val (Builtin.Int.intBits b) pre.reverse = b * val (Builtin.Int.intBits b) qs.reverse + c.r) ⟨0, _, [], 0⟩ rfl (by k_mem) (by k_mem) i1 Fz Nz ?hle ?hfp (Nat.ne_of_lt (ltN (by omega))) trivial (by kst_all) ⟨[], .nil, rfl, by simp, Int.le_refl 0, hb, by simp [val]⟩ ?turn ?done
  case hle => exact fun q hq => List.forall_mem_cons.mpr ⟨by k_mem, fun q hq => by repeat (first | exact hq | refine List.mem_cons_of_mem _ ?_)⟩ q hq
  case hfp => 
    refine List.forall_mem_cons.mpr ⟨⟨by k_ne, by k_ne⟩, List.forall_mem_cons.mpr ⟨⟨by k_ne, by k_ne⟩, List.forall_mem_cons.mpr ⟨⟨by k_ne, by k_ne⟩, List.forall_mem_cons.mpr ⟨⟨by k_ne, by k_ne⟩, fun q hq => ⟨Nat.ne_of_lt (Nat.lt_trans (lo1.2 q (.tail _ hq)) (ltN (by omega))), Nat.ne_of_lt (lo1.2 q (.tail _ hq))⟩⟩⟩⟩⟩
  · intro c pre post d t u h tk own hsp hoff hf hp F2 N2
    clear Fz Nz
    (try k_unmd)
    (try k_fold)
    obtain ⟨r, tr, vq, nn⟩ := c
    obtain ⟨qs, iq, lqs, zq, r0, rb, hval⟩ := hp
    dsimp only [kstB] at iq r0 rb hval F2 N2
    simp only [List.cons_append] at N2
    have hne : ∀ p ∈ news ++ own, p.1 ≠ ql := fun q hq => by
      rcases List.mem_append.mp hq with h | h
      · exact Nat.ne_of_lt (Nat.lt_trans (lo1.2 q (.tail _ h)) (ltN (by omega)))
      · exact hoff q h ql (.head _)
    obtain ⟨r', rfl⟩ : ∃ r' : Nat, r = r' := ⟨r.toNat, by omega⟩
    have hdmem : d ∈ ds := by
      have : d ∈ ds.reverse := by rw [hsp]; simp
      simpa using this
    obtain ⟨hd0, hda⟩ := z1 d hdmem
    obtain ⟨d', rfl⟩ : ∃ d' : Nat, d = d' := ⟨d.toNat, by omega⟩
    have sd : Sb 400 (d' : Int) := Nat.lt_of_le_of_lt (by omega) sa
    have hlen16 : vq.length ≤ 16 := by
      have h1 := iq.length
      have h2 := congrArg List.length hsp
      simp only [List.length_reverse, List.length_append, List.length_cons] at h2
      omega
    obtain ⟨rs, ers⟩ : ∃ rs, (r' : Int) * 2 ^ Int.toNat (Builtin.Int.intBits b : Int) = rs := ⟨_, rfl⟩
    have hn00 : (0 : Int) ≤ (Builtin.Int.intBits b : Int) := by omega
    have hls : (Builtin.Int.intBits (r' : Int) : Int) + (Builtin.Int.intBits b : Int) ≤ 2 ^ 27 := by
      have := Sb.bits (x := (r' : Int)) (k := 400) (Nat.lt_of_le_of_lt (by omega) sb)
      omega
    have hsm : Sm (rs + d') := by
      rw [← ers, Int.toNat_natCast]; exact long_step hb rb sb hn4 sd
    repeat' (first | ((fail_if_success (with_reducible show wpAny _ _ (call (Value.ref _) _) _ _ _)); first | (k_unfold; (try dsimp only)) | (k_end; wrow_close) | walk1 | (dsimp only; walk1) | (leave1; (try dsimp only))))
    k_dflt (refine' div2_spec (w := w) hsm (sb.sm (by decide)) (by omega) hn00 _ _ _ _ _ _ _ _ _ _ _ _ _ _ _ _ _ ?uB ?uF ?uX ?uC ?uD ?uN ?uT ?uk ?ud ?uu ?_; (case uB => k_asm); (case uF => k_asm); (case uX => k_asm); (case uC => k_asm); (case uD => k_asm); (case uN => k_asm); (case uT => k_asm); (case uk => first | exact rfl | assumption); (case ud => ktr_room); (case uu => ktr_units))
    intro tl tq tu h5 tk5 F5 N5 l5
    k_lt l5
    repeat' (first | ((fail_if_success (with_reducible show InvPostN _ _ _ _ _ _ _ _ _)); first | (k_unfold; (try dsimp only)) | (k_end; wrow_close) | walk1 | (dsimp only; walk1) | (leave1; (try dsimp only))))
    rename Fr _ _ _ _ => Fy
    rename News _ _ _ _ => Ny
    rw [List.push_toArray] at Ny
    obtain ⟨q0, m0, mb', e0⟩ := fdivmod_pos (x := rs + d') hb (by rw [← ers]; exact Int.add_nonneg (Int.mul_nonneg r0 (Int.le_of_lt (Int.pow_pos (by decide)))) hd0)
    refine kst_end (σ := DS) ⟨(rs + d').fmod b, tu, vq ++ [.int ((rs + d').fdiv b) tq], nn + 1⟩ Fy Ny ?n1 ?n2 rfl trivial (by kst_all) (by intro z h1 h2 h3; simp only [List.forall_mem_cons, List.not_mem_nil, false_implies, implies_true, and_true, ne_eq] at h2; simp only [List.contains_cons, List.contains_nil, Bool.or_false, beq_eq_false_iff_ne, ne_eq] at h3; simp only [h1, h2, h3, if_false, List.contains_cons, List.contains_nil, Bool.or_false, beq_iff_eq]) ⟨qs ++ [(rs + d').fdiv b], IntsAre.append iq (.cons _ _ .nil), by simp [lqs], ?z9, m0, mb', ?v9⟩
    case n1 => exact fun q hq => List.forall_mem_cons.mpr ⟨by k_mem, List.forall_mem_cons.mpr ⟨by k_mem, List.forall_mem_cons.mpr ⟨by k_mem, List.forall_mem_cons.mpr ⟨by k_mem, fun p hp => List.mem_cons_of_mem _ (List.mem_cons_of_mem _ (List.mem_cons_of_mem _ (List.mem_cons_of_mem _ (List.mem_cons_of_mem _ (List.mem_append_left _ hp)))))⟩⟩⟩⟩ q hq
    case n2 => exact fun p hp => List.mem_cons_of_mem _ (List.mem_cons_of_mem _ (List.mem_cons_of_mem _ (List.mem_cons_of_mem _ (List.mem_cons_of_mem _ (List.mem_append_right _ hp)))))
    case z9 =>
      intro z hz
      rcases List.mem_append.mp hz with h | h
      · exact zq z h
      · rw [List.mem_singleton.mp h]; exact q0
    case v9 =>
      show val _ (pre ++ [(d' : Int)]).reverse = b * val _ (qs ++ [(rs + d').fdiv b]).reverse + (rs + d').fmod b
      rw [List.reverse_append, List.reverse_append]
      show (d' : Int) + 2 ^ _ * val _ pre.reverse = b * ((rs + d').fdiv b + 2 ^ _ * val _ qs.reverse) + (rs + d').fmod b
      rw [hval]
      rw [Int.toNat_natCast] at ers
      generalize (rs + (d' : Int)).fdiv b = q9 at *
      generalize (rs + (d' : Int)).fmod b = m9 at *
      grind
  · intro c u h tk hf hp F2 N2
    clear Fz Nz
    obtain ⟨r, tr, vq, nn⟩ := c
    obtain ⟨qs, iq, lqs, zq, r0, rb, hval⟩ := hp
    dsimp only [kstB] at iq r0 rb hval F2 N2
    have hvq : vq.length ≤ 16 := by have := iq.length; rw [lqs, List.length_reverse] at this; omega
    rw [List.reverse_reverse, vl1] at hval
    have qv0 := val_nonneg (Builtin.Int.intBits b) (a := qs.reverse) (fun z hz => zq z (by simpa using hz))
    have hqa : val (Builtin.Int.intBits b) qs.reverse ≤ a := by
      have h1 : (1 : Int) * val (Builtin.Int.intBits b) qs.reverse ≤ b * val (Builtin.Int.intBits b) qs.reverse := Int.mul_le_mul_of_nonneg_right (by omega) qv0
      omega
    have sqv : Sm (val (Builtin.Int.intBits b) qs.reverse) := Sm.le sma (by omega)
    obtain ⟨eq, er⟩ := fdivmod_unique hb r0 rb hval
    have irev := ints_rev iq
    repeat' (first | ((fail_if_success (with_reducible show wpAny _ _ (call (Value.builtin "list.reverse") _) _ _ _)); first | (k_unfold; (try dsimp only)) | (k_end; wrow_close) | walk1 | (dsimp only; walk1) | (leave1; (try dsimp only))))
    k_dflt (refine' my_reverse ?zzF ?zzN ?zzU ?zzz ?_; (case zzF => k_asm); (case zzN => k_asm); (case zzU => k_upd); (case zzz => omega))
    intro h9r F9r N9r
    repeat' (first | ((fail_if_success (with_reducible show wpAny _ _ (call (Value.ref _) _) _ _ _)); first | (k_unfold; (try dsimp only)) | (k_end; wrow_close) | walk1 | (dsimp only; walk1) | (leave1; (try dsimp only))))
    rename News _ _ _ _ => Nx
    have Ny := kst_newsOf (l' := (45, tabObj p2) :: (ql, W.listOf vq.reverse.toArray nn) :: (c1, o1) :: (38, tabObj #[rawInt pos1.line, rawInt pos1.col, .ref c1]) :: news) Nx (List.forall_mem_cons.mpr ⟨by k_mem, List.forall_mem_cons.mpr ⟨by k_mem, List.forall_mem_cons.mpr ⟨by k_mem, List.forall_mem_cons.mpr ⟨by k_mem, fun p hp => by repeat (first | exact hp | refine List.mem_cons_of_mem _ ?_)⟩⟩⟩⟩)
    clear Nx
    have c145 : @Ne Nat c1 45 := ho1.elim (fun h => h45 _ (hnt _ h)) fun h => Nat.ne_of_gt (h.2 _ (.head _))
    have hd2i := fun tb => d2i_spec (tb := tb) (w := w) (p := p) (loose := loose) (mean := mean) (mg := mg) (mb := mb) (nt := nt) (ps := p2) (news := (ql, W.listOf vq.reverse.toArray nn) :: (c1, o1) :: (38, tabObj #[rawInt pos1.line, rawInt pos1.col, .ref c1]) :: news) (dl := ql) (vs := vq.reverse) (kd := nn) (ds := qs.reverse) (n := (Builtin.Int.intBits b : Int))
      (List.forall_mem_cons.mpr ⟨neN (by omega), List.forall_mem_cons.mpr ⟨c145, List.forall_mem_cons.mpr ⟨(by decide : (38 : Nat) ≠ 45), h45⟩⟩⟩) hs2 (fun p hp => List.mem_cons_of_mem _ (List.mem_cons_of_mem _ (List.mem_cons_of_mem _ (hnt p hp)))) (.head _) irev (fun z hz => zq z (by simpa using hz)) (by rw [Int.toNat_natCast]; exact sqv) (by simp [lqs]; omega) (by omega) (by omega)
    k_dflt (refine' hd2i _ _ _ _ _ _ _ _ _ _ _ _ _ _ _ _ _ _ ?uB ?uF ?uX ?uC ?uD ?uN ?uT ?uk ?ud ?uu ?_; (case uB => k_asm); (case uF => k_asm); (case uX => k_asm); (case uC => k_asm); (case uD => k_asm); (case uN => k_asm); (case uT => k_asm); (case uk => first | exact rfl | assumption); (case ud => ktr_room); (case uu => ktr_units))
    clear hd2i
    intro c2 o2 v2 t2 t6 h6 tk6 F6 N6 d2 dv2 ho2
    rw [Int.toNat_natCast]
    k_steps
    rename_i Dt ht Ft Nt lt kF kN Tc kX
    rw [eq, er] at hret
    exact hret Dt c1 o1 v1 t1 c2 o2 v2 t2 _ _ _ _ kF (kst_newsOf (l' := (Dt, _) :: (c1, o1) :: (c2, o2) :: (38, _) :: (45, _) :: news) kN (List.forall_mem_cons.mpr ⟨by k_mem, List.forall_mem_cons.mpr ⟨by k_mem, List.forall_mem_cons.mpr ⟨by k_mem, List.forall_mem_cons.mpr ⟨by k_mem, List.forall_mem_cons.mpr ⟨by k_mem, fun p hp => by repeat (first | exact hp | refine List.mem_cons_of_mem _ ?_)⟩⟩⟩⟩⟩)) d1 dv1 d2 dv2
      (ho1.imp_right fun h => ⟨h.2 _ (.head _), fun p hp => h.2 p (.tail _ hp)⟩) (ho2.imp_right fun h => ⟨h.1, fun p hp => h.2 p (.tail _ (.tail _ (.tail _ hp)))⟩) ⟨ltN (by omega), fun p hp => Nat.lt_trans (lo1.2 p (.tail _ hp)) (ltN (by omega))⟩
end
end
section
set_option maxRecDepth 100000
set_option maxHeartbeats 4000000

theorem bits_le {x : Int} {k : Nat} : Builtin.Int.intBits x ≤ k ↔ x.natAbs < 2 ^ k := by
  unfold Builtin.Int.intBits
  by_cases h0 : x = 0
  · rw [if_pos (by simp [h0])]; simp [h0, Nat.pos_of_ne_zero]
  · rw [if_neg (by simp [h0])]; exact Nat.log2_lt (by omega)
theorem bits_mono {x y : Int} (h : x.natAbs ≤ y.natAbs) : Builtin.Int.intBits x ≤ Builtin.Int.intBits y :=
  bits_le.mpr (Nat.lt_of_le_of_lt h (bits_le.mp (Nat.le_refl _)))


section
variable {w : World} {p : Program} {loose : List Str} {mean : ExcName → Option Value} {mg mb : Str → Option Value} {news nt : List (Addr × Obj)}

def IdmRet (nt news : List (Addr × Obj)) (a b : Int) : Heap → Addr → (Str → Option Value) → Shared → (Value → Shared → Prop) → (Value → Shared → Prop) → Prop :=
  fun h₀ L m s Q _ => ∀ l c1 o1 v1 t1 c2 o2 v2 t2 tq tr h' tk', Fr h₀ L h' m →
      News h₀ L h' ((l, { cls := .type "tuple", data := .seq [.int (a.fdiv b) tq, .int (a.fmod b) tr].toArray }) :: (c1, o1) :: (c2, o2) :: (38, tabObj #[rawInt pos1.line, rawInt pos1.col, .ref c1]) :: (45, tabObj #[rawInt pos2.line, rawInt pos2.col, .ref c2]) :: news) →
      o1.data = .fields v1 → v1[1]? = some (.str q1 t1) → o2.data = .fields v2 → v2[1]? = some (.str q2 t2) → ((c1, o1) ∈ nt ∨ (45 < c1 ∧ ∀ p ∈ news, p.1 < c1)) → ((c2, o2) ∈ nt ∨ (45 < c2 ∧ ∀ p ∈ news, p.1 < c2)) → (45 < l ∧ ∀ p ∈ news, p.1 < l) → Q (.ref l) { s with heap := h', toks := tk' }

theorem idm_pos {a b : Int} {p1 p2 : Array Value} {ta tb : Tok} (h38 : ∀ p ∈ news, p.1 ≠ 38) (h45 : ∀ p ∈ news, p.1 ≠ 45) (hs1 : Tab pos1 q1 p1 nt) (hs2 : Tab pos2 q2 p2 nt) (hnt : ∀ p ∈ nt, p ∈ news)
    (ha : 0 ≤ a) (hb : 0 < b) (sa : Sb 400 a) (sb : Sb 400 b) (hbits : Builtin.Int.intBits a ≤ 8 * Builtin.Int.intBits b) : Ctr w p loose mean mg mb ((38, tabObj p1) :: (45, tabObj p2) :: news) 64 [.int a ta, .int b tb] 70 700 (IdmRet nt news a b) := by
  unfold Ctr IdmRet
  k_fill
  w_top off
  k_with_none
  intro dp un gd cn cs a0 ccd cl outer A₀ base h₀ L m s Q E B F X C1 C2 N T hk hdp hun hret
  have e1 : (b == 0) = false := by simp; omega
  have e2 : ¬ (b < 0) := by omega
  have e3 : ¬ (a < 0) := by omega
  refine wpAny_call ?_
  k_dflt (refine' code_def ?k1 ?k2 ?k3 ?k4 ?k5 ?kA ?kF ?kK ?k6 ?k7 ?k8 ?k9 ?kB ?_ ?c2 ?c3 ?c4 ?c5; (case kA => exact rfl); (case kF => exact rfl); (case kK => assumption); (case k1 => k_asm); (case k2 => k_asm); (case k3 => k_asm); (case k4 => k_asm); (case k5 => k_asm); (case k6 => k_is); (case k7 => k_is); (case k8 => ktr_room); (case k9 => first | exact BindsTo.of_eq rfl | exact binds_K (by k_in) rfl (by k_is) rfl rfl rfl); (case c5 => decide); (case kB => exact locs rfl); (case c2 => exact rfl); (case c3 => exact rfl); (case c4 => exact rfl); k_whole; intro g' L' h' FG' F' N' B' X' T'; (try dsimp only); (try k_lift B'); (try k_fold))
  have C1' := CodeHd.keeps C1 FG'.keep
  have C2' := CodeHd.keeps C2 FG'.keep
  repeat' (first | ((fail_if_success (with_reducible show wpAny _ _ (call (Value.ref _) _) _ _ _)); first | (k_unfold; (try dsimp only)) | (k_end; wrow_close) | walk1 | (dsimp only; walk1) | (leave1; (try dsimp only))))
  k_dflt (refine' dmp_spec (w := w) (nt := nt) h38 h45 hs1 hs2 hnt ha hb sa sb hbits _ _ _ _ _ _ _ _ _ _ _ _ _ _ _ _ _ ?uB ?uF ?uX ?uC ?uD ?uN ?uT ?uk ?ud ?uu ?_; (case uB => k_asm); (case uF => k_asm); (case uX => k_asm); (case uC => k_asm); (case uD => k_asm); (case uN => k_asm); (case uT => k_asm); (case uk => first | exact rfl | assumption); (case ud => ktr_room); (case uu => ktr_units))
  intro l c1 o1 v1 t1 c2 o2 v2 t2 tq tr h9 tk9 F9 N9 d1 dv1 d2 dv2 ho1 ho2 hl
  k_steps
  rename_i kF kN Tc kX
  exact hret l c1 o1 v1 t1 c2 o2 v2 t2 tq tr _ _ kF kN d1 dv1 d2 dv2 ho1 ho2 hl

theorem idm_spec {a b : Int} {p1 p2 : Array Value} {ta tb : Tok} (h38 : ∀ p ∈ news, p.1 ≠ 38) (h45 : ∀ p ∈ news, p.1 ≠ 45) (hs1 : Tab pos1 q1 p1 nt) (hs2 : Tab pos2 q2 p2 nt) (hnt : ∀ p ∈ nt, p ∈ news)
    (hb : 0 < b) (sa : Sb 400 a) (sb : Sb 400 b) (hbits : Builtin.Int.intBits a ≤ 8 * Builtin.Int.intBits b) : Ctr w p loose mean mg mb ((38, tabObj p1) :: (45, tabObj p2) :: news) 64 [.int a ta, .int b tb] 80 800 (IdmRet nt news a b) := by
  by_cases ha : 0 ≤ a
  · intro dp un gd cn cs a0 ccd cl outer A₀ base h₀ L m s Q E B F X C1 C2 N T hk hdp hun hret
    exact idm_pos h38 h45 hs1 hs2 hnt ha hb sa sb hbits dp un gd cn cs a0 ccd cl outer A₀ base h₀ L m s Q E B F X C1 C2 N T hk (by omega) (by omega) hret
  · unfold Ctr
    k_fill
    w_top off
    k_with_none
    intro dp un gd cn cs a0 ccd cl outer A₀ base h₀ L m s Q E B F X C1 C2 N T hk hdp hun hret
    have e1 : (b == 0) = false := by simp; omega
    have e2 : ¬ (b < 0) := by omega
    have e3 : a < 0 := by omega
    refine wpAny_call ?_
    k_dflt (refine' code_def ?k1 ?k2 ?k3 ?k4 ?k5 ?kA ?kF ?kK ?k6 ?k7 ?k8 ?k9 ?kB ?_ ?c2 ?c3 ?c4 ?c5; (case kA => exact rfl); (case kF => exact rfl); (case kK => assumption); (case k1 => k_asm); (case k2 => k_asm); (case k3 => k_asm); (case k4 => k_asm); (case k5 => k_asm); (case k6 => k_is); (case k7 => k_is); (case k8 => ktr_room); (case k9 => first | exact BindsTo.of_eq rfl | exact binds_K (by k_in) rfl (by k_is) rfl rfl rfl); (case c5 => decide); (case kB => exact locs rfl); (case c2 => exact rfl); (case c3 => exact rfl); (case c4 => exact rfl); k_whole; intro g' L' h' FG' F' N' B' X' T'; (try dsimp only); (try k_lift B'); (try k_fold))
    have C1' := CodeHd.keeps C1 FG'.keep
    have C2' := CodeHd.keeps C2 FG'.keep
    repeat' (first | ((fail_if_success (with_reducible show wpAny _ _ (call (Value.ref _) _) _ _ _)); first | (k_unfold; (try dsimp only)) | (k_end; wrow_close) | walk1 | (dsimp only; walk1) | (leave1; (try dsimp only))))
    have hx : Builtin.bitNot a = -a - 1 := rfl
    have x0 : 0 ≤ Builtin.bitNot a := by rw [hx]; omega
    have xa : (Builtin.bitNot a).natAbs ≤ a.natAbs := by rw [hx]; omega
    k_dflt (refine' idm_pos (w := w) (nt := nt) h38 h45 hs1 hs2 hnt x0 hb (Nat.lt_of_le_of_lt xa sa) sb (Nat.le_trans (bits_mono xa) hbits) _ _ _ _ _ _ _ _ _ _ _ _ _ _ _ _ _ ?uB ?uF ?uX ?uC ?uD ?uN ?uT ?uk ?ud ?uu ?_; (case uB => k_asm); (case uF => k_asm); (case uX => k_asm); (case uC => k_asm); (case uD => k_asm); (case uN => k_asm); (case uT => k_asm); (case uk => first | exact rfl | assumption); (case ud => ktr_room); (case uu => ktr_units))
    unfold IdmRet
    intro l c1 o1 v1 t1 c2 o2 v2 t2 tq tr h9 tk9 F9 N9 d1 dv1 d2 dv2 ho1 ho2 hl
    obtain ⟨q0, m0, mb', ee⟩ := fdivmod_pos (x := Builtin.bitNot a) hb x0
    have eq : a.fdiv b = Builtin.bitNot ((Builtin.bitNot a).fdiv b) ∧ a.fmod b = b + Builtin.bitNot ((Builtin.bitNot a).fmod b) := by
      show a.fdiv b = -((Builtin.bitNot a).fdiv b) - 1 ∧ a.fmod b = b + (-((Builtin.bitNot a).fmod b) - 1)
      refine fdivmod_unique hb (by omega) (by omega) ?_
      rw [hx] at ee m0 mb' ⊢
      generalize (-a - 1).fdiv b = q at *
      generalize (-a - 1).fmod b = r at *
      grind
    k_steps
    rename_i Dt ht Ft Nt lt kF kN Tc kX
    unfold IdmRet at hret
    rw [eq.1, eq.2] at hret
    exact hret Dt c1 o1 v1 t1 c2 o2 v2 t2 _ _ _ _ kF (kst_newsOf (l' := (Dt, _) :: (c1, o1) :: (c2, o2) :: (38, _) :: (45, _) :: news) kN (List.forall_mem_cons.mpr ⟨by k_mem, List.forall_mem_cons.mpr ⟨by k_mem, List.forall_mem_cons.mpr ⟨by k_mem, List.forall_mem_cons.mpr ⟨by k_mem, List.forall_mem_cons.mpr ⟨by k_mem, fun p hp => by repeat (first | exact hp | refine List.mem_cons_of_mem _ ?_)⟩⟩⟩⟩⟩)) d1 dv1 d2 dv2 ho1 ho2
      ⟨Nat.lt_trans hl.1 (ltN (by omega)), fun p hp => Nat.lt_trans (hl.2 p hp) (ltN (by omega))⟩
end
end
section
set_option maxRecDepth 100000
set_option maxHeartbeats 4000000

/-! the plain law of the halver -/
theorem ediv2 {n b c : Int} (hb : 0 < b) : n / b / c = n / (b * c) := by
  rw [Int.ediv_ediv, if_neg (by omega), Int.sub_zero]
theorem emod_mul_ediv {n b c : Int} (hb : 0 < b) (hc : 0 < c) : (n % (b * c)) / b = n / b % c := by
  have h1 : n % (b * c) = n - b * (c * (n / (b * c))) := by
    have := Int.mul_ediv_add_emod n (b * c); rw [Int.mul_assoc] at this; omega
  have h2 : n / (b * c) = n / b / c := (ediv2 hb).symm
  rw [h1, h2]
  have h3 : n - b * (c * (n / b / c)) = n + b * (-(c * (n / b / c))) := by rw [Int.mul_neg]; omega
  rw [h3, Int.add_mul_ediv_left _ _ (by omega)]
  have := Int.mul_ediv_add_emod (n / b) c
  omega
theorem figs_split {b : Int} (hb : 0 < b) : ∀ (k m : Nat) (n : Int), figs b (k + m) n = figs b k (n.fmod (b ^ k)) ++ figs b m (n.fdiv (b ^ k))
  | 0, m, n => by rw [Nat.zero_add, Int.pow_zero, Int.fdiv_one]; rfl
  | k + 1, m, n => by
    have hp : 0 < b ^ k := Int.pow_pos hb
    have hp1 : 0 < b ^ (k + 1) := Int.pow_pos hb
    rw [Nat.add_right_comm, figs, figs_split hb k m, figs]
    rw [Int.fmod_eq_emod_of_nonneg _ (Int.le_of_lt hb), Int.fdiv_eq_ediv_of_nonneg _ (Int.le_of_lt hb), Int.fmod_eq_emod_of_nonneg _ (Int.le_of_lt hp), Int.fdiv_eq_ediv_of_nonneg _ (Int.le_of_lt hp), Int.fmod_eq_emod_of_nonneg _ (Int.le_of_lt hp1), Int.fmod_eq_emod_of_nonneg _ (Int.le_of_lt hb),
      Int.fdiv_eq_ediv_of_nonneg _ (Int.le_of_lt hb), Int.fdiv_eq_ediv_of_nonneg _ (Int.le_of_lt hp1), Int.pow_succ, Int.mul_comm (b ^ k) b, emod_mul_ediv hb hp, Int.emod_emod_of_dvd _ (Int.dvd_mul_right b _), ediv2 hb]
    rfl

/-- what the halver asks for, in its order (f: more than enough turns) -/
def askedL (lim : Nat) : Nat → Nat → List Int
  | 0, _ => []
  | f + 1, c => if c ≤ lim then [] else ((c / 2 : Nat) : Int) :: (askedL lim f (c / 2) ++ askedL lim f (c - c / 2))
theorem askedL_fuel {lim : Nat} (hl : 1 ≤ lim) : ∀ {f g c : Nat}, c ≤ f → c ≤ g → askedL lim f c = askedL lim g c
  | 0, 0, _, _, _ => rfl
  | 0, g + 1, c, h, _ => by rw [askedL, askedL, if_pos (by omega)]
  | f + 1, 0, c, _, h => by rw [askedL, askedL, if_pos (by omega)]
  | f + 1, g + 1, c, h1, h2 => by
    rw [askedL, askedL]
    by_cases hc : c ≤ lim
    · rw [if_pos hc, if_pos hc]
    · rw [if_neg hc, if_neg hc, askedL_fuel hl (f := f) (g := g) (c := c / 2) (by omega) (by omega), askedL_fuel hl (f := f) (g := g) (c := c - c / 2) (by omega) (by omega)]
theorem askedL_len {lim : Nat} (hl : 1 ≤ lim) : ∀ {f c : Nat}, 1 ≤ c → (askedL lim f c).length + 1 ≤ c
  | 0, c, h => by simpa [askedL] using h
  | f + 1, c, h => by
    rw [askedL]
    by_cases hc : c ≤ lim
    · rw [if_pos hc]; simpa using h
    · rw [if_neg hc, List.length_cons, List.length_append]
      have h1 := askedL_len hl (f := f) (c := c / 2) (by omega)
      have h2 := askedL_len hl (f := f) (c := c - c / 2) (by omega)
      omega
theorem askedL_step {lim c : Nat} (hl : 1 ≤ lim) (hc : ¬ c ≤ lim) : askedL lim c c = ((c / 2 : Nat) : Int) :: (askedL lim (c / 2) (c / 2) ++ askedL lim (c - c / 2) (c - c / 2)) := by
  obtain ⟨f, rfl⟩ : ∃ f, c = f + 1 := ⟨c - 1, by omega⟩
  rw [askedL, if_neg hc, askedL_fuel hl (f := f) (g := (f + 1) / 2) (c := (f + 1) / 2) (by omega) (by omega), askedL_fuel hl (f := f) (g := f + 1 - (f + 1) / 2) (c := f + 1 - (f + 1) / 2) (by omega) (by omega)]
theorem askedL_stop {lim c : Nat} (hc : c ≤ lim) : askedL lim c c = [] := by
  cases c with
  | zero => rfl
  | succ f => rw [askedL, if_pos hc]

/-- the bounds of both parts -/
theorem part_bounds {b x : Int} {c l : Nat} (hb : 2 ≤ b) (h1 : -(b ^ c) ≤ x) (h2 : x < b ^ c) (hl : l ≤ c) :
    0 ≤ x.fmod (b ^ l) ∧ x.fmod (b ^ l) < b ^ l ∧ -(b ^ (c - l)) ≤ x.fdiv (b ^ l) ∧ x.fdiv (b ^ l) < b ^ (c - l) := by
  have hp : 0 < b ^ l := Int.pow_pos (by omega)
  rw [Int.fdiv_eq_ediv_of_nonneg _ (Int.le_of_lt hp), Int.fmod_eq_emod_of_nonneg _ (Int.le_of_lt hp)]
  have e : b ^ c = b ^ (c - l) * b ^ l := by rw [← Int.pow_add]; congr 1; omega
  refine ⟨Int.emod_nonneg _ (by omega), Int.emod_lt_of_pos _ hp, ?_, ?_⟩
  · refine (Int.le_ediv_iff_mul_le hp).mpr ?_
    rw [Int.neg_mul, ← e]; exact h1
  · refine (Int.ediv_lt_iff_lt_mul hp).mpr ?_
    rw [← e]; exact h2
theorem pow_sb {b : Int} {c : Nat} (h0 : 0 ≤ b) (hb : b ≤ 10) (hc : c ≤ 60) : b ^ c < 2 ^ 300 := by
  obtain ⟨B, rfl⟩ : ∃ B : Nat, b = B := ⟨b.toNat, by omega⟩
  have h1 : B ^ c ≤ 10 ^ c := Nat.pow_le_pow_left (by omega) c
  have h2 : (10 : Nat) ^ c ≤ 10 ^ 60 := Nat.pow_le_pow_right (by decide) hc
  have h3 : (10 : Nat) ^ 60 < 2 ^ 300 := by decide +kernel
  have h4 : ((B ^ c : Nat) : Int) < ((2 ^ 300 : Nat) : Int) := Int.ofNat_lt.mpr (by omega)
  push_cast at h4
  exact h4
/-- the divided number has at most eight times the bits of the divisor -/
theorem cut_bits {b x : Int} {c : Nat} (hb : 2 ≤ b) (h1 : -(b ^ c) ≤ x) (h2 : x < b ^ c) (hc : 2 ≤ c) : Builtin.Int.intBits x ≤ 8 * Builtin.Int.intBits (b ^ (c / 2)) := by
  have hx : x.natAbs ≤ (b ^ c).natAbs := by omega
  refine Nat.le_trans (bits_mono hx) ?_
  refine bits_le.mpr ?_
  obtain ⟨B, rfl⟩ : ∃ B : Nat, b = B := ⟨b.toNat, by omega⟩
  have e : ∀ k : Nat, (((B : Int) ^ k)).natAbs = B ^ k := fun k => by rw [Int.natAbs_pow, Int.natAbs_natCast]
  have hn : B ^ (c / 2) < 2 ^ Builtin.Int.intBits ((B : Int) ^ (c / 2)) := by
    have := bits_le.mp (Nat.le_refl (Builtin.Int.intBits ((B : Int) ^ (c / 2))))
    rwa [e] at this
  generalize Builtin.Int.intBits ((B : Int) ^ (c / 2)) = k at hn
  rw [e]
  calc B ^ c ≤ B ^ (c / 2 * 8) := Nat.pow_le_pow_right (by omega) (by omega)
    _ = (B ^ (c / 2)) ^ 8 := Nat.pow_mul ..
    _ < (2 ^ k) ^ 8 := Nat.pow_lt_pow_left hn (by decide)
    _ = 2 ^ (8 * k) := by rw [← Nat.pow_mul, Nat.mul_comm]
end
section
set_option maxRecDepth 100000
set_option maxHeartbeats 4000000

/-- an item of a dict of ints -/
theorem my_item {prog : Program} {w : World} {A : Around} {E : Value → Shared → Prop} {s : Shared} {h₀ : Heap} {L d : Addr} {news : List (Addr × Obj)} {o : Obj} {kvs : List (Int × Value)} {D : List (PyData × PyData)} {value slice : PySem.Expr} {i z : Int} {t : Tok} {Q : Value → Shared → Prop}
    (N : News h₀ L s.heap news) (hm : (d, o) ∈ news) (lo : (d == sysModules) = false) (hd : o.IsDictOf (intKind prog w) kvs) (hf : PyProof.V.FlatPairs PyData.int kvs D) (hl : lookup (.int i) D = some (.int z))
    (h : ∀ t', Q (.int z t') { s with toks := s.toks + 1 })
    (hs : subscripted slice false (.ref d) (.int i t) = operate [.ref d, .int i t] (getItem (.ref d) (.int i t)) := by with_unfolding_all rfl) (hg : ∀ r, letTemporaryGo value (.ref d) r = pure () := by intro _; with_unfolding_all rfl) :
    wpAny (model prog w) A (subscriptTail value slice (.ref d) (.int i t)) Q E s :=
  item_intTab (TabAt.ofNews N hm lo hd hf) hl (fun v hv => by cases hv default; exact h _) hs hg

theorem my_fdiv {prog : Program} {w : World} {A : Around} {E : Value → Shared → Prop} {s : Shared} {a b z : Int} {t u : Tok} {Q : Value → Shared → Prop} (hz : a.fdiv b = z) (hb : b ≠ 0) (hs : b.natAbs < 1073741824)
    (h : Q (.int z s.toks) { s with toks := s.toks + 1 }) : wpAny (model prog w) A (binaryOp .FloorDiv (.int a t) (.int b u)) Q E s := by
  subst hz; exact floordiv_int hb h (Or.inl (PyProof.noPylong_small hs))

theorem pack_list {h₀ h : Heap} {L asked : Addr} {va : List Value} {x : Int} {t : Tok} {ka : Nat} {rest : List (Addr × Obj)} {ns : List Int} (N : News h₀ L h ((asked, W.listOf (va ++ [Value.int x t]).toArray ka) :: rest)) (hi : IntsAre va ns) :
    ∃ va2, IntsAre va2 (ns ++ [x]) ∧ News h₀ L h ((asked, W.listOf va2.toArray ka) :: rest) := ⟨_, IntsAre.append hi (.cons _ _ .nil), N⟩

section
variable {w : World} {p : Program} {loose : List Str} {mean : ExcName → Option Value} {mg mb : Str → Option Value}

/-- what is said of a call of the halver upon at most N figures -/
def CutAt (w : World) (p : Program) (loose : List Str) (mean : ExcName → Option Value) (mg mb : Str → Option Value) (pd asked : Addr) (od : Obj) (D : List (PyData × PyData)) (lim : Nat) (b : Int) (N : Nat) : Prop :=
  ∀ (news : List (Addr × Obj)) (c : Nat) (x : Int) (tx tc tb tl : Tok) (va : List Value) (ns : List Int) (ka : Nat) (p1 p2 : Array Value) (ci li : Int),
    1 ≤ c → c ≤ N → (∀ z ∈ askedL lim c c, lookup (.int z) D = some (.int (b ^ z.toNat))) → ci = c → li = lim → -(b ^ c) ≤ x → x < b ^ c → (pd, od) ∈ news → (∀ p ∈ news, p.1 ≠ 38) → (∀ p ∈ news, p.1 ≠ 45) → (∀ p ∈ news, p.1 ≠ asked) → Tab pos1 q1 p1 news → Tab pos2 q2 p2 news → IntsAre va ns → ns.length + c ≤ 1000 →
    Ctr w p loose mean mg mb ((asked, W.listOf va.toArray ka) :: (38, tabObj p1) :: (45, tabObj p2) :: news) 99 [.int x tx, .int ci tc, .int b tb, .ref pd, .int li tl, .ref asked] (N + 100) (8 * N + 1000)
    (fun h₀ L m s Q _ => ∀ rl vr kr va' ka' p1' p2' ex h' tk', Fr h₀ L h' m → News h₀ L h' ((rl, W.listOf vr.toArray kr) :: (asked, W.listOf va'.toArray ka') :: (38, tabObj p1') :: (45, tabObj p2') :: (ex ++ news)) →
      IntsAre vr (figs b c x) → IntsAre va' (ns ++ askedL lim c c) → Tab pos1 q1 p1' (ex ++ news) → Tab pos2 q2 p2' (ex ++ news) → (∀ q ∈ ex, q.1 ≠ 38 ∧ q.1 ≠ 45 ∧ q.1 ≠ asked) →
      (asked < rl ∧ 38 < rl ∧ 45 < rl ∧ ∀ p ∈ news, p.1 < rl) → Q (.ref rl) { s with heap := h', toks := tk' })

theorem cut_spec {pd asked : Addr} {od : Obj} {kvs : List (Int × Value)} {D : List (PyData × PyData)} {lim : Nat} {b : Int} (lo : (pd == sysModules) = false) (hdd : od.IsDictOf (intKind PySem.Challenge.rw_wy0067_01.row.toRowW.prog w) kvs) (hff : PyProof.V.FlatPairs PyData.int kvs D)
    (hl : 1 ≤ lim) (hb : 2 ≤ b) (hb10 : b ≤ 10) (hpa : @Ne Nat pd asked) (ha38 : @LT.lt Nat _ 45 asked) :
    ∀ N, N ≤ 60 → CutAt w p loose mean mg mb pd asked od D lim b N := by
  intro N
  induction N with
  | zero => intro _ news c x tx tc tb tl va ns ka p1 p2 ci li h1 h2; exact absurd h2 (by omega)
  | succ N ih =>
  intro hNC
  unfold CutAt
  intro news c x tx tc tb tl va ns ka p1 p2 ci li hc1 hcN hkeys hci hli hx1 hx2 hpd h38 h45 hask hs1 hs2 hva hlen
  unfold Ctr
  k_fill
  w_top off
  k_with_none
  k_with "binaryOp FloorDiv int int" => (refine my_fdiv (by with_reducible assumption) (by first | decide | omega) (by first | decide | omega) ?_)
  k_with "subscriptTail" => (k_here; (with_reducible show wpAny _ _ (subscriptTail _ _ (Value.ref _) (Value.int _ _)) _ _ _); k_dflt (refine' my_item ?zzN ?zzm ?zzlo ?zzhd ?zzhf ?zzhl ?_ ?zzk7; (case zzN => k_asm); (case zzlo => with_reducible assumption); (case zzhd => with_reducible assumption); (case zzhf => with_reducible assumption); (case zzm => k_mem); (case zzhl => with_reducible assumption); (case zzk7 => with_unfolding_all rfl)); intro _)
  intro dp un gd cn cs a0 ccd cl outer A₀ base h₀ L m s Q E B F X C1 C2 N T hk hdp hun hret
  refine wpAny_call ?_
  k_dflt (refine' code_def ?k1 ?k2 ?k3 ?k4 ?k5 ?kA ?kF ?kK ?k6 ?k7 ?k8 ?k9 ?kB ?_ ?c2 ?c3 ?c4 ?c5; (case kA => exact rfl); (case kF => exact rfl); (case kK => assumption); (case k1 => k_asm); (case k2 => k_asm); (case k3 => k_asm); (case k4 => k_asm); (case k5 => k_asm); (case k6 => k_is); (case k7 => k_is); (case k8 => ktr_room); (case k9 => first | exact BindsTo.of_eq rfl | exact binds_K (by k_in) rfl (by k_is) rfl rfl rfl); (case c5 => decide); (case kB => exact locs rfl); (case c2 => exact rfl); (case c3 => exact rfl); (case c4 => exact rfl); k_whole; intro g' L' h' FG' F' N' B' X' T'; (try dsimp only); (try k_lift B'); (try k_fold))
  have C1' := CodeHd.keeps C1 FG'.keep
  have C2' := CodeHd.keeps C2 FG'.keep
  by_cases hcl : c ≤ lim
  · have hcond : ci ≤ li := by omega
    repeat' (first | ((fail_if_success (with_reducible show wpAny _ _ (call (Value.ref _) _) _ _ _)); first | (k_unfold; (try dsimp only)) | (k_end; wrow_close) | walk1 | (dsimp only; walk1) | (leave1; (try dsimp only))))
    k_dflt (refine' fig_spec (w := w) (x := x) (b := b) (n := ci) ⟨by omega, hb10, by omega, by omega⟩ _ _ _ _ _ _ _ _ _ _ _ _ _ _ _ _ _ ?uB ?uF ?uX ?uC ?uD ?uN ?uT ?uk ?ud ?uu ?_; (case uB => k_asm); (case uF => k_asm); (case uX => k_asm); (case uC => k_asm); (case uD => k_asm); (case uN => k_asm); (case uT => k_asm); (case uk => first | exact rfl | assumption); (case ud => ktr_room); (case uu => ktr_units))
    intro l vs nn h9 tk9 F9 N9 i9 l9
    rw [hci, Int.toNat_natCast] at i9
    have l92 : @LT.lt Nat _ asked l ∧ @LT.lt Nat _ 38 l ∧ @LT.lt Nat _ 45 l := ⟨l9 _ (.head _), l9 _ (.tail _ (.head _)), l9 _ (.tail _ (.tail _ (.head _)))⟩
    k_steps
    rename_i kF kN Tc kX
    refine hret l vs nn va ka p1 p2 [] _ _ kF kN i9 (by rw [askedL_stop hcl, List.append_nil]; exact hva) hs1 hs2 (fun _ h => nomatch h) ⟨l92.1, l92.2.1, l92.2.2, fun p hp => l9 p (.tail _ (.tail _ (.tail _ hp)))⟩
  · have hcond : ¬ (ci ≤ li) := by omega
    obtain ⟨low, elow⟩ : ∃ low, Int.fdiv ci 2 = low := ⟨_, rfl⟩
    have hlow : low = ((c / 2 : Nat) : Int) := by rw [← elow, hci, Int.fdiv_eq_ediv_of_nonneg _ (by decide)]; omega
    have hit : lookup (.int low) D = some (.int (b ^ (c / 2))) := by
      rw [hlow]
      have := hkeys ((c / 2 : Nat) : Int) (by rw [askedL_step hl hcl]; exact .head _)
      rwa [Int.toNat_natCast] at this
    have hval : va.length = ns.length := hva.length
    have hne : ∀ p ∈ news, p.1 ≠ asked := hask
    obtain ⟨f0, fl, ul, uu⟩ := part_bounds (l := c / 2) hb hx1 hx2 (by omega)
    have hcut := cut_bits hb hx1 hx2 (by omega)
    have pb := pow_sb (b := b) (c := c) (by omega) hb10 (by omega)
    have pb2 := pow_sb (b := b) (c := c / 2) (by omega) hb10 (by omega)
    have pb0 : 0 < b ^ (c / 2) := Int.pow_pos (by omega)
    have sx : Sb 400 x := by unfold Sb; have : (2 : Nat) ^ 300 < 2 ^ 400 := by decide +kernel
                             omega
    have sbb : Sb 400 (b ^ (c / 2)) := by unfold Sb; have : (2 : Nat) ^ 300 < 2 ^ 400 := by decide +kernel
                                          omega
    repeat' (first | ((fail_if_success (with_reducible show wpAny _ _ (call (Value.ref _) _) _ _ _)); first | (k_unfold; (try dsimp only)) | (k_end; wrow_close) | walk1 | (dsimp only; walk1) | (leave1; (try dsimp only))))
    rename News _ _ _ _ => Nx
    rw [List.push_toArray] at Nx
    obtain ⟨va2, hva2, Nx2⟩ := pack_list Nx hva
    clear Nx
    have Ny := kst_newsOf (l' := (38, tabObj p1) :: (45, tabObj p2) :: (asked, W.listOf va2.toArray (ka + 1))   :: news) Nx2 (List.forall_mem_cons.mpr ⟨by k_mem, List.forall_mem_cons.mpr ⟨by k_mem, List.forall_mem_cons.mpr ⟨by k_mem, fun p hp => by repeat (first | exact hp | refine List.mem_cons_of_mem _ ?_)⟩⟩⟩)
    clear Nx2
    have hidm := fun ta tb => idm_spec (ta := ta) (tb := tb) (w := w) (p := p) (loose := loose) (mean := mean) (mg := mg) (mb := mb) (nt := news) (news := (asked, W.listOf va2.toArray (ka + 1)) :: news) (p1 := p1) (p2 := p2) (a := x) (b := b ^ (c / 2))
      (List.forall_mem_cons.mpr ⟨neN (by omega), h38⟩) (List.forall_mem_cons.mpr ⟨neN (by omega), h45⟩) hs1 hs2 (fun p hp => .tail _ hp) pb0 sx sbb hcut
    k_dflt (refine' hidm _ _ _ _ _ _ _ _ _ _ _ _ _ _ _ _ _ _ _ ?uB ?uF ?uX ?uC ?uD ?uN ?uT ?uk ?ud ?uu ?_; (case uB => k_asm); (case uF => k_asm); (case uX => k_asm); (case uC => k_asm); (case uD => k_asm); (case uN => k_asm); (case uT => k_asm); (case uk => first | exact rfl | assumption); (case ud => ktr_room); (case uu => ktr_units))
    clear hidm
    unfold IdmRet
    intro l c1 o1 v1 t1 c2 o2 v2 t2 tq tr h9 tk9 F9 N9 d1 dv1 d2 dv2 ho1 ho2 hl9
    repeat' (first | ((fail_if_success (with_reducible show wpAny _ _ (call (Value.ref _) _) _ _ _)); first | (k_unfold; (try dsimp only)) | (k_end; wrow_close) | walk1 | (dsimp only; walk1) | (leave1; (try dsimp only))))
    rename News _ _ _ _ => Nx
    have c1a : @Ne Nat c1 38 ∧ @Ne Nat c1 45 ∧ @Ne Nat c1 asked := ho1.elim (fun h => ⟨h38 _ h, h45 _ h, hask _ h⟩) fun h => ⟨Nat.ne_of_gt (Nat.lt_trans (by decide : (38 : Nat) < 45) h.1), Nat.ne_of_gt h.1, Nat.ne_of_gt (h.2 _ (.head _))⟩
    have c2a : @Ne Nat c2 38 ∧ @Ne Nat c2 45 ∧ @Ne Nat c2 asked := ho2.elim (fun h => ⟨h38 _ h, h45 _ h, hask _ h⟩) fun h => ⟨Nat.ne_of_gt (Nat.lt_trans (by decide : (38 : Nat) < 45) h.1), Nat.ne_of_gt h.1, Nat.ne_of_gt (h.2 _ (.head _))⟩
    have Ny := kst_newsOf (l' := (asked, W.listOf va2.toArray (ka + 1)) :: (38, _) :: (45, _) :: (c1, o1) :: (c2, o2) :: news) Nx (List.forall_mem_cons.mpr ⟨by k_mem, List.forall_mem_cons.mpr ⟨by k_mem, List.forall_mem_cons.mpr ⟨by k_mem, List.forall_mem_cons.mpr ⟨by k_mem, List.forall_mem_cons.mpr ⟨by k_mem, fun p hp => by repeat (first | exact hp | refine List.mem_cons_of_mem _ ?_)⟩⟩⟩⟩⟩)
    clear Nx
    have ih := ih (by omega)
    unfold CutAt at ih
    have hk1 : ∀ z ∈ askedL lim (c / 2) (c / 2), lookup (.int z) D = some (.int (b ^ z.toNat)) := fun z hz => hkeys z (by rw [askedL_step hl hcl]; exact .tail _ (List.mem_append_left _ hz))
    have hk2 : ∀ z ∈ askedL lim (c - c / 2) (c - c / 2), lookup (.int z) D = some (.int (b ^ z.toNat)) := fun z hz => hkeys z (by rw [askedL_step hl hcl]; exact .tail _ (List.mem_append_right _ hz))
    have ih1 := fun tx tc tb tl => ih ((c1, o1) :: (c2, o2) :: news) (c / 2) (x.fmod (b ^ (c / 2))) tx tc tb tl va2 (ns ++ [low]) (ka + 1) _ _ low li (by omega) (by omega) hk1 hlow hli (by omega) fl
      (.tail _ (.tail _ hpd)) (List.forall_mem_cons.mpr ⟨c1a.1, List.forall_mem_cons.mpr ⟨c2a.1, h38⟩⟩) (List.forall_mem_cons.mpr ⟨c1a.2.1, List.forall_mem_cons.mpr ⟨c2a.2.1, h45⟩⟩) (List.forall_mem_cons.mpr ⟨c1a.2.2, List.forall_mem_cons.mpr ⟨c2a.2.2, hask⟩⟩)
      (.inr ⟨c1, o1, v1, t1, rfl, .head _, d1, dv1⟩) (.inr ⟨c2, o2, v2, t2, rfl, .tail _ (.head _), d2, dv2⟩) hva2 (by rw [List.length_append, List.length_singleton]; omega)
    k_dflt (refine' ih1 _ _ _ _ _ _ _ _ _ _ _ _ _ _ _ _ _ _ _ _ _ ?uB ?uF ?uX ?uC ?uD ?uN ?uT ?uk ?ud ?uu ?_; (case uB => k_asm); (case uF => k_asm); (case uX => k_asm); (case uC => k_asm); (case uD => k_asm); (case uN => k_asm); (case uT => k_asm); (case uk => first | exact rfl | assumption); (case ud => ktr_room); (case uu => ktr_units))
    clear ih1
    intro rl1 vr1 kr1 va3 ka3 p13 p23 ex1 h10 tk10 F10 N10 ir1 iv3 hs13 hs23 hex1 hrl1
    repeat' (first | ((fail_if_success (with_reducible show wpAny _ _ (call (Value.ref _) _) _ _ _)); first | (k_unfold; (try dsimp only)) | (k_end; wrow_close) | walk1 | (dsimp only; walk1) | (leave1; (try dsimp only))))
    rename News _ _ _ _ => Nx
    have hci2 : ci - low = ((c - c / 2 : Nat) : Int) := by omega
    have l10 : @LT.lt Nat _ asked rl1 ∧ @LT.lt Nat _ 38 rl1 ∧ @LT.lt Nat _ 45 rl1 := ⟨hrl1.1, hrl1.2.1, hrl1.2.2.1⟩
    have rln : @Ne Nat rl1 38 ∧ @Ne Nat rl1 45 ∧ @Ne Nat rl1 asked := ⟨Nat.ne_of_gt l10.2.1, Nat.ne_of_gt l10.2.2, Nat.ne_of_gt l10.1⟩
    have hlen3 : (ns ++ [low] ++ askedL lim (c / 2) (c / 2)).length + (c - c / 2) ≤ 1000 := by
      have h1 := askedL_len hl (f := c / 2) (c := c / 2) (by omega)
      rw [List.length_append, List.length_append, List.length_singleton]; omega
    have ih2 := fun tx tc tb tl => ih ((rl1, W.listOf vr1.toArray kr1) :: (ex1 ++ (c1, o1) :: (c2, o2) :: news)) (c - c / 2) (x.fdiv (b ^ (c / 2))) tx tc tb tl va3 _ ka3 p13 p23 (ci - low) li (by omega) (by omega) hk2 hci2 hli ul uu
      (.tail _ (List.mem_append_right _ (.tail _ (.tail _ hpd)))) (List.forall_mem_cons.mpr ⟨rln.1, List.forall_mem_append.mpr ⟨fun q hq => (hex1 q hq).1, List.forall_mem_cons.mpr ⟨c1a.1, List.forall_mem_cons.mpr ⟨c2a.1, h38⟩⟩⟩⟩)
      (List.forall_mem_cons.mpr ⟨rln.2.1, List.forall_mem_append.mpr ⟨fun q hq => (hex1 q hq).2.1, List.forall_mem_cons.mpr ⟨c1a.2.1, List.forall_mem_cons.mpr ⟨c2a.2.1, h45⟩⟩⟩⟩)
      (List.forall_mem_cons.mpr ⟨rln.2.2, List.forall_mem_append.mpr ⟨fun q hq => (hex1 q hq).2.2, List.forall_mem_cons.mpr ⟨c1a.2.2, List.forall_mem_cons.mpr ⟨c2a.2.2, hask⟩⟩⟩⟩)
      (hs13.mono fun p hp => .tail _ hp) (hs23.mono fun p hp => .tail _ hp) iv3 hlen3
    have Nw := kst_newsOf (l' := (asked, W.listOf va3.toArray ka3) :: (38, tabObj p13) :: (45, tabObj p23) :: (rl1, W.listOf vr1.toArray kr1) :: (ex1 ++ (c1, o1) :: (c2, o2) :: news)) Nx (List.forall_mem_cons.mpr ⟨by k_mem, List.forall_mem_cons.mpr ⟨by k_mem, List.forall_mem_cons.mpr ⟨by k_mem, List.forall_mem_cons.mpr ⟨by k_mem, fun p hp => by repeat (first | exact hp | refine List.mem_cons_of_mem _ ?_)⟩⟩⟩⟩)
    clear Nx
    k_dflt (refine' ih2 _ _ _ _ _ _ _ _ _ _ _ _ _ _ _ _ _ _ _ _ _ ?uB ?uF ?uX ?uC ?uD ?uN ?uT ?uk ?ud ?uu ?_; (case uB => k_asm); (case uF => k_asm); (case uX => k_asm); (case uC => k_asm); (case uD => k_asm); (case uN => k_asm); (case uT => k_asm); (case uk => first | exact rfl | assumption); (case ud => ktr_room); (case uu => ktr_units))
    clear ih2
    intro rl2 vr2 kr2 va4 ka4 p14 p24 ex2 h11 tk11 F11 N11 ir2 iv4 hs14 hs24 hex2 hrl2
    have hm1 : (rl1, W.listOf vr1.toArray kr1) ∈ (rl2, W.listOf vr2.toArray kr2) :: (asked, W.listOf va4.toArray ka4) :: (38, tabObj p14) :: (45, tabObj p24) :: (ex2 ++ (rl1, W.listOf vr1.toArray kr1) :: (ex1 ++ (c1, o1) :: (c2, o2) :: news)) := .tail _ (.tail _ (.tail _ (.tail _ (List.mem_append_right _ (.head _)))))
    have hm2 : (rl2, W.listOf vr2.toArray kr2) ∈ (rl2, W.listOf vr2.toArray kr2) :: (asked, W.listOf va4.toArray ka4) :: (38, tabObj p14) :: (45, tabObj p24) :: (ex2 ++ (rl1, W.listOf vr1.toArray kr1) :: (ex1 ++ (c1, o1) :: (c2, o2) :: news)) := .head _
    have hll : (figs b (c / 2) (x.fmod (b ^ (c / 2)))).length + (figs b (c - c / 2) (x.fdiv (b ^ (c / 2)))).length ≤ sizeLine := by rw [figs_len, figs_len, sizeLine_eq]; omega
    repeat' (first | ((fail_if_success (with_reducible show wpAny _ _ (binaryOp _ (Value.ref _) (Value.ref _)) _ _ _)); first | (k_unfold; (try dsimp only)) | (k_end; wrow_close) | walk1 | (dsimp only; walk1) | (leave1; (try dsimp only))))
    refine kmk_add_ints (by with_reducible assumption) (by with_reducible assumption) (News.isList N11 hm1) (News.isList N11 hm2) ir1 ir2 ?_ hll
    intro D' us h12 F12 N12 l12 iu
    k_steps
    rename_i kF kN Tc kX
    have hass : ex2 ++ (rl1, W.listOf vr1.toArray kr1) :: (ex1 ++ (c1, o1) :: (c2, o2) :: news) = (ex2 ++ (rl1, W.listOf vr1.toArray kr1) :: (ex1 ++ [(c1, o1), (c2, o2)])) ++ news := by simp
    refine hret D' us 0 va4 ka4 p14 p24 (ex2 ++ (rl1, W.listOf vr1.toArray kr1) :: (ex1 ++ [(c1, o1), (c2, o2)])) _ _ kF ?_ ?_ ?_ ?_ ?_ ?_ ?_
    · rw [← hass]
      exact kst_newsOf kN (List.forall_mem_cons.mpr ⟨by k_mem, fun p hp => .tail _ (.tail _ hp)⟩)
    · have e := figs_split (b := b) (by omega) (c / 2) (c - c / 2) x
      rw [show c / 2 + (c - c / 2) = c by omega] at e
      rw [e]; exact iu
    · rw [askedL_step hl hcl, ← hlow, show ns ++ low :: (askedL lim (c / 2) (c / 2) ++ askedL lim (c - c / 2) (c - c / 2)) = ns ++ [low] ++ askedL lim (c / 2) (c / 2) ++ askedL lim (c - c / 2) (c - c / 2) by simp]
      exact iv4
    · rw [← hass]; exact hs14
    · rw [← hass]; exact hs24
    · refine List.forall_mem_append.mpr ⟨hex2, List.forall_mem_cons.mpr ⟨rln, List.forall_mem_append.mpr ⟨hex1, List.forall_mem_cons.mpr ⟨c1a, List.forall_mem_cons.mpr ⟨c2a, fun _ h => nomatch h⟩⟩⟩⟩⟩
    · refine ⟨l12 _ (.tail _ (.head _)), l12 _ (.tail _ (.tail _ (.head _))), l12 _ (.tail _ (.tail _ (.tail _ (.head _)))), fun p hp => l12 p ?_⟩
      rw [hass]; exact .tail _ (.tail _ (.tail _ (.tail _ (List.mem_append_right _ hp))))
end
end
section
set_option maxRecDepth 100000

/-! the table of a set: its places rise -/
def Rise (xs : Array Nat) : Prop := xs.toList.Pairwise (· < ·)
theorem Rise.lt {xs : Array Nat} (h : Rise xs) {i k : Nat} (hik : i < k) (hk : k < xs.size) : xs.getD i 0 < xs.getD k 0 := by
  have hi : i < xs.size := by omega
  have := List.pairwise_iff_getElem.mp h i k (by simpa using hi) (by simpa using hk) hik
  simpa [Array.getD, hi, hk] using this
theorem below_go {xs : Array Nat} {j : Nat} (hr : Rise xs) : ∀ (f lo hi : Nat), lo ≤ hi → hi ≤ xs.size → hi - lo ≤ f → (∀ i, i < lo → xs.getD i 0 < j) → (∀ i, hi ≤ i → i < xs.size → j ≤ xs.getD i 0) →
    SetTable.below.go xs j f lo hi ≤ xs.size ∧ (∀ i, i < SetTable.below.go xs j f lo hi → xs.getD i 0 < j) ∧ ∀ i, SetTable.below.go xs j f lo hi ≤ i → i < xs.size → j ≤ xs.getD i 0
  | 0, lo, hi, h1, h2, h3, ha, hb => by
    have e : lo = hi := by omega
    subst e
    exact ⟨h2, ha, hb⟩
  | f + 1, lo, hi, h1, h2, h3, ha, hb => by
    rw [SetTable.below.go]
    by_cases hlt : lo < hi
    · rw [if_pos hlt]
      dsimp only
      rw [show xs.getD ((lo + hi) / 2) j = xs.getD ((lo + hi) / 2) 0 by simp [Array.getD, show (lo + hi) / 2 < xs.size by omega]]
      by_cases hm : xs.getD ((lo + hi) / 2) 0 < j
      · rw [if_pos hm]
        refine below_go hr f _ _ (by omega) h2 (by omega) (fun i hi' => ?_) hb
        by_cases he : i = (lo + hi) / 2
        · rw [he]; exact hm
        · exact Nat.lt_trans (hr.lt (k := (lo + hi) / 2) (by omega) (by omega)) hm
      · rw [if_neg hm]
        refine below_go hr f _ _ (by omega) (by omega) (by omega) ha (fun i hi' hs => ?_)
        by_cases he : i = (lo + hi) / 2
        · rw [he]; omega
        · have := hr.lt (i := (lo + hi) / 2) (k := i) (by omega) hs
          omega
    · rw [if_neg hlt]
      have e : lo = hi := by omega
      subst e
      exact ⟨h2, ha, hb⟩
theorem below_spec {xs : Array Nat} (hr : Rise xs) (j : Nat) : SetTable.below xs j ≤ xs.size ∧ (∀ i, i < SetTable.below xs j → xs.getD i 0 < j) ∧ ∀ i, SetTable.below xs j ≤ i → i < xs.size → j ≤ xs.getD i 0 :=
  below_go hr _ _ _ (Nat.zero_le _) (Nat.le_refl _) (Nat.le_refl _) (fun _ h => absurd h (Nat.not_lt_zero _)) fun _ h1 h2 => absurd h2 (Nat.not_lt.mpr h1)
theorem below_zero {xs : Array Nat} (hr : Rise xs) : SetTable.below xs 0 = 0 := by
  obtain ⟨_, b, _⟩ := below_spec hr 0
  rcases Nat.eq_zero_or_pos (SetTable.below xs 0) with h | h
  · exact h
  · exact absurd (b 0 h) (Nat.not_lt_zero _)
theorem below_next {xs : Array Nat} (hr : Rise xs) {i : Nat} (hi : i < xs.size) : SetTable.below xs (xs.getD i 0 + 1) = i + 1 := by
  obtain ⟨a, b, c⟩ := below_spec hr (xs.getD i 0 + 1)
  rcases Nat.lt_or_ge i (SetTable.below xs (xs.getD i 0 + 1)) with h | h
  · rcases Nat.lt_or_ge (i + 1) (SetTable.below xs (xs.getD i 0 + 1)) with h2 | h2
    · have h3 := b (i + 1) h2
      have h4 := hr.lt (i := i) (k := i + 1) (by omega) (by omega)
      omega
    · omega
  · have := c i h hi
    omega
def Dead (t : SetTable) (j : Nat) : Prop := ¬ t.place[SetTable.below t.place j]? = some j
theorem put_rise {t : SetTable} {j : Nat} (hr : Rise t.place) (hd : Dead t j) : Rise (t.put j).1.place := by
  obtain ⟨a, b, c⟩ := below_spec hr j
  unfold SetTable.put Rise
  dsimp only
  rw [SetTable.toList_insertAt, List.pairwise_append]
  have hp := hr
  unfold Rise at hp
  have get : ∀ i (h : i < t.place.size), t.place.toList[i]'(by simpa using h) = t.place.getD i 0 := fun i h => by simp [Array.getD, h]
  have hdrop : ∀ x ∈ t.place.toList.drop (SetTable.below t.place j), j < x := by
    intro x hx
    obtain ⟨i, hi, e⟩ := List.mem_drop_iff_getElem.mp hx
    have hi' : SetTable.below t.place j + i < t.place.size := by simpa [Nat.add_comm] using hi
    rw [← e, get _ hi']
    have h1 := c _ (Nat.le_add_right _ i) hi'
    rcases Nat.lt_or_ge j (t.place.getD (SetTable.below t.place j + i) 0) with h | h
    · exact h
    · exfalso
      have he : t.place.getD (SetTable.below t.place j + i) 0 = j := by omega
      rcases Nat.eq_zero_or_pos i with h0 | h0
      · subst h0
        refine hd ?_
        rw [Nat.add_zero] at he hi'
        rw [Array.getElem?_eq_getElem hi']
        simpa [Array.getD, hi'] using he
      · have h3 := hr.lt (i := SetTable.below t.place j) (k := SetTable.below t.place j + i) (by omega) hi'
        have h4 := c _ (Nat.le_refl _) (by omega : SetTable.below t.place j < t.place.size)
        omega
  have htake : ∀ x ∈ t.place.toList.take (SetTable.below t.place j), x < j := by
    intro x hx
    obtain ⟨i, hi, e⟩ := List.mem_take_iff_getElem.mp hx
    have hi1 : i < SetTable.below t.place j := by omega
    rw [← e, get _ (by omega)]
    exact b _ hi1
  refine ⟨hp.sublist (List.take_sublist _ _), List.pairwise_cons.mpr ⟨hdrop, hp.sublist (List.drop_sublist _ _)⟩, fun x hx y hy => ?_⟩
  rcases List.mem_cons.mp hy with rfl | hy
  · exact htake x hx
  · exact Nat.lt_trans (htake x hx) (hdrop y hy)
theorem probe_dead {t : SetTable} {ha : Nat → Int} {h : Int} : ∀ (f : Nat) (p : SetTable.Probe) (j : Nat) (d : Option Nat), (∀ x, p.dummy = some x → Dead t x) → SetTable.probe.go t ha h f p = some (.empty j d) → Dead t (d.getD j)
  | 0, p, j, d, _, e => by simp [SetTable.probe.go] at e
  | f + 1, p, j, d, hp, e => by
    have dead : ∀ x, (∀ i, t.slot x ≠ .live i) → Dead t x := by
      intro x hx hh
      refine hx (SetTable.below t.place x) ?_
      unfold SetTable.slot
      dsimp only
      rw [hh]; simp
    have adv : ∀ q : SetTable.Probe, (t.advance q).dummy = q.dummy := by
      intro q; unfold SetTable.advance; split <;> rfl
    rw [SetTable.probe.go] at e
    split at e
    · rename_i hs
      simp only [Option.some.injEq, SetTable.Met.empty.injEq] at e
      obtain ⟨rfl, rfl⟩ := e
      cases hd : p.dummy with
      | none => exact dead _ fun i hi => by rw [Option.getD_none, hs] at hi; cases hi
      | some x => exact hp x hd
    · rename_i hs
      refine probe_dead f _ j d (fun x hx => ?_) e
      rw [adv] at hx
      simp only [Option.some.injEq] at hx
      subst hx
      exact dead _ fun i hi => by rw [hs] at hi; cases hi
    · split at e
      · cases e
      · exact probe_dead f _ j d (fun x hx => hp x (by rw [adv] at hx; exact hx)) e
theorem free_dead {t : SetTable} {h : Int} {j : Nat} {b : Bool} (e : t.freeSlot h = some (j, b)) : Dead t j := by
  unfold SetTable.freeSlot at e
  split at e
  · rename_i j' d hp
    simp only [Option.some.injEq, Prod.mk.injEq] at e
    obtain ⟨rfl, _⟩ := e
    exact probe_dead _ _ j' d (fun x hx => by unfold SetTable.probeStart at hx; cases hx) hp
  · cases e
theorem standIn_rise (t : SetTable) (n : Nat) : Rise (t.standIn n).place := by
  unfold SetTable.standIn Rise
  simp only [Array.toList_range]
  exact List.pairwise_lt_range
theorem laid_rise {mask finger moves : Nat} {led plain : Bool} {hs : Array Int} {t : SetTable} {o : Array Nat} (e : SetTable.laid mask finger moves led plain hs = some (t, o)) : Rise t.place ∧ t.led = led := by
  unfold SetTable.laid at e
  cases hl : SetTable.layClean mask hs with
  | none => rw [hl] at e; cases e
  | some owner =>
    rw [hl] at e
    simp only [bind, Option.bind, pure, Option.some.injEq, Prod.mk.injEq] at e
    obtain ⟨rfl, _⟩ := e
    refine ⟨?_, rfl⟩
    unfold Rise
    dsimp only
    rw [List.pairwise_map, List.pairwise_filterMap]
    refine List.Pairwise.imp ?_ List.pairwise_lt_range
    intro a b hab x hx y hy
    obtain ⟨u, _, rfl⟩ := Option.map_eq_some_iff.mp hx
    obtain ⟨v, _, rfl⟩ := Option.map_eq_some_iff.mp hy
    exact hab
end
section
set_option maxRecDepth 100000
set_option maxHeartbeats 4000000

def kOf (e : Int × Value) : Int := match e.2 with
  | .int k _ => k
  | _ => 0
def IsK (e : Int × Value) : Prop := ∃ (k : Int) (t : Tok), e = (hashInt k, Value.int k t)
def Good (w : World) (t : SetTable) : Prop := w.params.followText "set-order" = true ∨ (t.led = true ∧ Rise t.place)
/-- a set of the ints ks, in a table that pops and walks without a stop -/
def SetX (w : World) (o : Obj) (ks : List Int) : Prop :=
  o.ExactSet ∧ ∃ es ep t, o.data = .set es ep t ∧ (∀ e ∈ es.toList, IsK e) ∧ (es.toList.map kOf).Perm ks ∧ ks.Nodup ∧ t.fits es.size = true ∧ Good w t

theorem SetX.perm {w : World} {o : Obj} {ks ks' : List Int} (h : SetX w o ks) (p : ks.Perm ks') : SetX w o ks' :=
  let ⟨a, es, ep, t, b, c, d, e, f⟩ := h; ⟨a, es, ep, t, b, c, d.trans p, p.nodup_iff.mp e, f⟩
theorem isK_is {e : Int × Value} (h : IsK e) (k : Int) : Value.isInt k e.2 = true ↔ kOf e = k := by
  obtain ⟨k', t, rfl⟩ := h
  simp [Value.isInt, kOf]
theorem isK_elems {prog : Program} {w : World} {l : List (Int × Value)} (h : ∀ e ∈ l, IsK e) : ElemsOf (intKind prog w) l := by
  intro e he
  obtain ⟨k, t, rfl⟩ := h e he
  exact ⟨⟨k, intKind_is _ _ _ _, rfl⟩, rfl⟩
theorem SetX.obj {w : World} {o : Obj} {ks : List Int} (h : SetX w o ks) (prog : Program) : o.SetObjOf (intKind prog w) (fun k => decide (k ∈ ks)) ks.length := by
  obtain ⟨a, es, ep, t, b, c, d, e, f, g⟩ := h
  refine ⟨a, es, ep, t, b, isK_elems c, fun k => ?_, by rw [← d.length_eq, List.length_map, Array.length_toList], f⟩
  rw [decide_eq_true_eq, ← d.mem_iff, List.mem_map]
  exact ⟨fun ⟨x, hx, hk⟩ => ⟨x, hx, (isK_is (c x hx) k).mpr hk⟩, fun ⟨x, hx, hk⟩ => ⟨x, hx, (isK_is (c x hx) k).mp hk⟩⟩

section
variable {prog : Program} {w : World} {A : Around} {E : Value → Shared → Prop} {s : Shared} {a : Addr}

theorem newX_tree {Q : Value → Shared → Prop} (h : ∀ o, SetX w o [] → Obj.isFreed o = false → Q (.ref s.heap.objs.size) { s with heap := s.heap.push o }) :
    wpAny (model prog w) A (newSet (.type "set")) Q E s := by
  unfold newSet setsByText
  refine wpAny_bind (wpAny_bind (wpAny_askSetting (wpAny_pure ?_)))
  dsimp only
  simp only [newObj]
  refine wpAny_bind (wpAny_alloc (wpAny_pure (h _ ⟨⟨rfl, rfl, rfl⟩, #[], 0, _, rfl, fun e he => by simp at he, by simp, .nil, by rfl, ?_⟩ rfl)))
  unfold Good
  cases hb : w.params.followText "set-order" with
  | true => exact .inl rfl
  | false =>
    refine .inr ⟨?_, ?_⟩
    · show (!w.params.followText "set-order") = true
      rw [hb]; rfl
    · exact List.Pairwise.nil

/-- layNew keeps the table good -/
theorem layNew_good {t : SetTable} {es : Array (Int × Value)} {h : Int} {x : Value} (hg : Good w t) : Good w (layNew t es h x).2.1 := by
  rcases hg with hg | ⟨h1, h2⟩
  · exact .inl hg
  · refine .inr ?_
    unfold layNew
    split
    · rename_i slot d hf
      dsimp only
      unfold SetTable.orStandIn
      split
      · exact ⟨h1, put_rise h2 (free_dead hf)⟩
      · exact ⟨h1, standIn_rise _ _⟩
    · exact ⟨h1, standIn_rise _ _⟩
theorem relayAll_good {t : SetTable} {es : Array (Int × Value)} {n : Nat} (hg : Good w t) : Good w (relayAll t es n).2.1 := by
  rcases hg with hg | ⟨h1, h2⟩
  · exact .inl hg
  · refine .inr ?_
    unfold relayAll
    split
    · rename_i t' o hr
      dsimp only
      split
      · obtain ⟨a, b⟩ := laid_rise hr
        exact ⟨b.trans h1, a⟩
      · exact ⟨h1, standIn_rise _ _⟩
    · exact ⟨h1, standIn_rise _ _⟩

theorem store_get {o : Obj} {es : Array (Int × Value)} {ep : Nat} {t : SetTable} {es' : Array (Int × Value)} {t' : SetTable} {h : Heap} (ho : h.get? a = some o) (hd : o.data = .set es ep t) :
    (h.update a (Obj.putSet es' t')).get? a = some { o with data := .set es' (ep + 1) t' } := by
  have := Heap.get?_update_self (Obj.putSet es' t') ho (by rw [putSet_of es' t' hd]; rfl)
  rw [putSet_of es' t' hd] at this; exact this

theorem addX_tree {o : Obj} {ks : List Int} {k : Int} {tk : Tok} {Q : Bool → Shared → Prop} (ho : s.heap.get? a = some o) (hx : SetX w o ks) (hroom : ks.length + 1 < scanBound)
    (h : ∀ h' o', Heap.SameBut a s.heap h' → h'.get? a = some o' → SetX w o' (if k ∈ ks then ks else k :: ks) → Q (!decide (k ∈ ks)) { s with heap := h' }) :
    wpAny (model prog w) A (setAddHashed a (.int k tk) (hashInt k)) Q E s := by
  obtain ⟨hex, es, ep, t, hd, hel, hp, hnd, hf, hg⟩ := id hx
  have hn : es.size = ks.length := by rw [← hp.length_eq, List.length_map, Array.length_toList]
  have hb : es.size < scanBound := by omega
  have hb1 : es.size + 1 < scanBound := by omega
  have hE := isK_elems (prog := prog) (w := w) hel
  have hkey : (intKind prog w).is k (.int k tk) = true := intKind_is _ _ _ _
  unfold setAddHashed setAddHashedIn
  refine wpAny_holding (wpAny_bind (wpAny_setState_of ho hd hf ?_))
  dsimp only
  rw [byScan_of (knd := intKind prog w) rfl hb hE]
  simp only [↓reduceIte]
  unfold setAddByScan
  refine wpAny_bind ?_
  refine wpAny_bind (wpAny_rule ?_)
  refine wpAny_bind (wpAny_setScan_of (knd := intKind prog w) (k := k) hkey ho hd hf hE ?_)
  cases hr : List.findIdx? (fun e => (intKind prog w).is k e.2) es.toList with
  | some j =>
    dsimp only
    obtain ⟨hj, hpj, _⟩ := List.findIdx?_eq_some_iff_getElem.mp hr
    have hk : k ∈ ks := hp.mem_iff.mp (List.mem_map.mpr ⟨_, List.getElem_mem hj, (isK_is (hel _ (List.getElem_mem hj)) k).mp hpj⟩)
    have := h s.heap o (Heap.SameBut.refl a s.heap) ho (by rw [if_pos hk]; exact hx)
    rw [decide_eq_true hk] at this
    exact wpAny_pure (wpAny_pure this)
  | none =>
    dsimp only
    have hk : ¬ k ∈ ks := fun hk => by
      obtain ⟨e, he, hke⟩ := List.mem_map.mp (hp.mem_iff.mpr hk)
      have := List.findIdx?_eq_none_iff.mp hr e he
      rw [show (intKind prog w).is k e.2 = true from (isK_is (hel e he) k).mpr hke] at this
      cases this
    rw [decide_eq_false hk, if_neg hk] at h
    have hperm := layNew_perm t es (hashInt k) (.int k tk)
    have hfits := layNew_fits t es (hashInt k) (.int k tk)
    have hgood := layNew_good (es := es) (h := hashInt k) (x := .int k tk) hg
    generalize hL : layNew t es (hashInt k) (.int k tk) = L at hperm hfits hgood ⊢
    obtain ⟨es1, t1, wasDummy, gave⟩ := L
    dsimp only at hperm hfits hgood ⊢
    rw [Array.toList_push] at hperm
    have hel1 : ∀ e ∈ es1.toList, IsK e := fun e he => by
      rcases List.mem_append.mp (hperm.mem_iff.mp he) with he | he
      · exact hel e he
      · rw [List.mem_singleton.mp he]; exact ⟨k, tk, rfl⟩
    have hp1 : (es1.toList.map kOf).Perm (k :: ks) := by
      refine (hperm.map kOf).trans ?_
      rw [List.map_append]
      refine List.perm_append_comm.trans ?_
      exact List.Perm.cons _ hp
    have hnd1 : (k :: ks).Nodup := List.nodup_cons.mpr ⟨hk, hnd⟩
    have hsz1 : es1.size = es.size + 1 := by rw [← Array.length_toList, hperm.length_eq, List.length_append, Array.length_toList]; rfl
    refine wpAny_bind ?_
    have gw : ∀ (b : Bool) {s₁ : Shared} {Q' : Unit → Shared → Prop}, Q' () s₁ → wpAny (model prog w) A (match b with | true => rule "set.scan.the-table-gave-way" | false => pure ()) Q' E s₁ :=
      fun b s₁ Q' hq => by cases b <;> first | exact wpAny_pure hq | exact wpAny_rule hq
    refine gw gave ?_
    have tail : ∀ t2 : SetTable, t2.fits es1.size = true → Good w t2 → wpAny (model prog w) A (do
        storeSet a es1 t2
        if (!wasDummy && t2.tooFull) = true then do
            (match (relayAll t2 es1 (SetTable.grown es1.size)).2.2 with | true => rule "set.scan.the-table-gave-way" | false => pure ())
            storeSet a (relayAll t2 es1 (SetTable.grown es1.size)).1 (relayAll t2 es1 (SetTable.grown es1.size)).2.1
            pure (some true)
          else pure (some true)) (fun r s' => wpAny (model prog w) A (match r with | some added => pure added | none => setAddHashedIn a (.int k tk) (hashInt k) 99999) Q E s') E s := by
      intro t2 hf2 hg2
      refine wpAny_bind (wpAny_storeSet_of ho hd ?_ (fits_of_scanBound (by omega)))
      have hsb1 := Heap.SameBut.update s.heap a (Obj.putSet es1 t2)
      have ho1 := store_get (es' := es1) (t' := t2) ho hd
      split
      · have hpr := relayAll_perm t2 es1 (SetTable.grown es1.size)
        have hfr := relayAll_fits t2 es1 (SetTable.grown es1.size)
        have hgr := relayAll_good (es := es1) (n := SetTable.grown es1.size) hg2
        generalize hRl : relayAll t2 es1 (SetTable.grown es1.size) = Rl at hpr hfr hgr ⊢
        obtain ⟨es2, t3, gave2⟩ := Rl
        dsimp only at hpr hfr hgr ⊢
        have hsz : es2.size = es1.size := by rw [← Array.length_toList, hpr.length_eq, Array.length_toList]
        refine wpAny_bind (gw gave2 ?_)
        refine wpAny_bind (wpAny_storeSet_of ho1 rfl ?_ (fits_of_scanBound (by omega)))
        refine wpAny_pure (wpAny_pure (h _ _ (hsb1.trans (Heap.SameBut.update _ a _)) (store_get ho1 rfl) ?_))
        exact ⟨hex, es2, _, t3, rfl, fun e he => hel1 e (hpr.mem_iff.mp he), (hpr.map kOf).trans hp1, hnd1, hfr, hgr⟩
      · exact wpAny_pure (wpAny_pure (h _ _ hsb1 ho1 ⟨hex, es1, _, t2, rfl, hel1, hp1, hnd1, hf2, hg2⟩))
    split
    · refine wpAny_bind ?_
      rw [hashByValue_scannable 8 rfl]
      refine wpAny_pure ?_
      exact tail _ hfits hgood
    · refine wpAny_bind (wpAny_pure ?_)
      exact tail _ hfits hgood
end
end
section
set_option maxRecDepth 100000
set_option maxHeartbeats 4000000

/-- an empty set as a call of set makes it -/
def setNil (w : World) : Obj := { cls := .type "set", dict := none, data := .set #[] 0 (.fresh 0 0 (!w.params.followText "set-order")) }
theorem setNil_x (w : World) : SetX w (setNil w) [] := by
  refine ⟨⟨rfl, rfl, rfl⟩, #[], 0, _, rfl, fun e he => by simp at he, by simp, .nil, by rfl, ?_⟩
  unfold Good
  cases hb : w.params.followText "set-order" with
  | true => exact .inl rfl
  | false => exact .inr ⟨rfl, List.Pairwise.nil⟩

section
variable {prog : Program} {w : World} {A : Around} {E : Value → Shared → Prop} {s : Shared} {a : Addr}

theorem my_set_new {Q₁ : Value → Shared → Prop} (h : Q₁ (.ref s.heap.objs.size) { s with heap := s.heap.push (setNil w) }) :
    codeAny (model prog w) A (.call (.builtin "set.__new__") ⟨[.type "set"], []⟩) (wants Q₁ E) s := by
  refine codeAny_of_tree ?_
  show wpAny _ A.in1 (do checkBuiltinCall "set.__new__" ⟨[.type "set"], []⟩; again (.builtin "set.__new__" ⟨[.type "set"], []⟩)) _ _ s
  refine wpAny_bind (wpAny_of_eq F.newCall_set_0 (wpAny_pure ⟨plainId_quiet F.plain_set_new _, codeAny_builtin F.entry_set_new ?_⟩))
  rw [Around.under_plainId F.plain_set_new _]
  unfold Builtin.«set.__new__» Builtin.Frozenset.newClass
  have hsub := sub_set_self
  obtain ⟨hp, g, d, tk, os⟩ := s
  dsimp only
  wp_walk
  refine wpAny_askSetting (wpAny_pure ?_)
  dsimp only
  simp only [newObj]
  refine wpAny_bind (wpAny_alloc (wpAny_pure ?_))
  exact wpAny_pure h

theorem my_set_call {Q : Value → Shared → Prop} (h : Q (.ref s.heap.objs.size) { s with heap := s.heap.push (setNil w) }) :
    wpAny (model prog w) A (call (.type "set") []) Q E s := by
  obtain ⟨c, tl, hmro⟩ := F.called_set.mro
  have hmade := F.called_set.made
  have hsub := F.called_set.sub
  refine wpAny_call (codeAny_of_tree ?_)
  show wpAny _ _ (callAny (.type "set") _) _ _ _
  refine wpAny_pure ⟨Code.quiet_builtin _ (by decide +kernel), codeAny_builtin F.entry_type_call ?_⟩
  rw [Around.under_plain (weight_type_call_type "set" [] []) rfl]
  have h1 := F.called_set.notType
  have h2 := F.called_set.canCreate
  have hct := F.typeCall_set_0
  repeat (any_goals (first | assumption | wp_step))
  refine codeAny_mono (my_set_new (E := E) (Q₁ := fun obj s₁ => obj = .ref s.heap.objs.size ∧ s₁ = { s with heap := s.heap.push (setNil w) }) ⟨rfl, rfl⟩) fun r s₁ hr => ?_
  cases r with
  | error e => exact hr
  | ok fl =>
    cases fl with
    | ret obj =>
      obtain ⟨rfl, rfl⟩ := hr
      have hS : (s.heap.push (setNil w)).get? s.heap.objs.size = some (setNil w) := Heap.get?_push_size _ rfl
      unfold setNil at hS h ⊢
      have hT : Shared.TypeIs { s with heap := s.heap.push { cls := .type "set", dict := none, data := .set #[] 0 (.fresh 0 0 (!w.params.followText "set-order")) } } (.ref s.heap.objs.size) "set" := ⟨_, hS, rfl⟩
      have hli := F.called_set.init.lookup
      have hbi := F.called_set.init.bind (.ref s.heap.objs.size)
      repeat (any_goals (first | assumption | wp_step))
      refine codeAny_mono (codeAny_call_builtin (R := wants (fun r s₂ => r = .none ∧ Q (.ref s.heap.objs.size) s₂) E) F.called_set.init.plain F.entry_set_init (check_set_init hT ?_)) fun r₂ s₂ hr₂ => ?_
      · unfold Builtin.«set.__init__» noKeywords
        wp_walk
        exact ⟨rfl, h⟩
      · cases r₂ with
        | error e => exact hr₂
        | ok fl₂ =>
          cases fl₂ with
          | ret r =>
            obtain ⟨rfl, hq⟩ := hr₂
            repeat (any_goals (first | assumption | wp_step))
          | _ => exact hr₂.elim
    | _ => exact hr.elim

theorem wpChoose {src : Source} {n : Nat} {Q : Nat → Shared → Prop} (hn : n ≠ 0) (h : ∀ i d, i < n → Q i { s with drawn := d }) : wpAny (model prog w) A (choose src n) Q E s := fun Γ p _ => by
  unfold choose
  rw [Sem.wp_choose]
  exact ⟨hn, h _ _ (Nat.mod_lt _ (Nat.pos_of_ne_zero hn))⟩

theorem erase_list {α : Type} (xs : Array α) (i : Nat) : (SetTable.eraseAt xs i).toList = xs.toList.eraseIdx i := by
  rw [List.eraseIdx_eq_take_drop_succ]
  simp [SetTable.eraseAt, List.extract_eq_take_drop, List.take_of_length_le]
theorem erase_perm {α : Type} : ∀ (l : List α) (i : Nat) (h : i < l.length), l.Perm (l[i] :: l.eraseIdx i)
  | [], i, h => absurd h (Nat.not_lt_zero _)
  | x :: l, 0, _ => List.Perm.refl _
  | x :: l, i + 1, h => by
    rw [List.eraseIdx_cons_succ, List.getElem_cons_succ]
    exact (List.Perm.cons x (erase_perm l i (by simpa using h))).trans (List.Perm.swap _ _ _)
theorem popped_good {t : SetTable} {i : Nat} (hg : Good w t) : Good w (t.popped i) := by
  rcases hg with hg | ⟨h1, h2⟩
  · exact .inl hg
  · refine .inr ?_
    unfold SetTable.popped SetTable.drop
    cases t.place[i]? with
    | none => exact ⟨h1, h2⟩
    | some j =>
      refine ⟨h1, ?_⟩
      show List.Pairwise _ (SetTable.eraseAt t.place i).toList
      rw [erase_list]
      exact h2.sublist (List.eraseIdx_sublist _ _)
theorem popped_fits {t : SetTable} {i n : Nat} (hf : t.fits (n + 1) = true) (hi : i < n + 1) : (t.popped i).fits n = true := by
  simp only [SetTable.fits, Bool.and_eq_true, beq_iff_eq, decide_eq_true_eq] at hf ⊢
  obtain ⟨h1, h2⟩ := hf
  unfold SetTable.fill at h2 ⊢
  have hg : t.place[i]? = some t.place[i] := Array.getElem?_eq_getElem (by omega)
  have e1 : (SetTable.eraseAt t.place i).size = n := by
    rw [← Array.length_toList, erase_list, List.length_eraseIdx_of_lt (by rw [Array.length_toList]; omega), Array.length_toList]; omega
  have e2 : (SetTable.insertAt t.dummies (SetTable.below t.dummies t.place[i]) t.place[i]).size = t.dummies.size + 1 := by
    rw [← Array.length_toList, (SetTable.insertAt_perm _ _ _).length_eq, Array.length_toList, Array.size_push]
  unfold SetTable.popped SetTable.drop
  rw [hg]
  dsimp only
  rw [e1, e2]
  exact ⟨rfl, by omega⟩

theorem popX_tree {o : Obj} {ks : List Int} {Q : Option Value → Shared → Prop} (ho : s.heap.get? a = some o) (hx : SetX w o ks) (hne : ks ≠ []) (hb : ks.length < scanBound)
    (h : ∀ h' o' k t d, k ∈ ks → Heap.SameBut a s.heap h' → h'.get? a = some o' → SetX w o' (ks.erase k) → Q (some (.int k t)) { s with heap := h', drawn := d }) :
    wpAny (model prog w) A (setPop a) Q E s := by
  obtain ⟨hex, es, ep, t, hd, hel, hp, hnd, hf, hg⟩ := id hx
  have hn : es.size = ks.length := by rw [← hp.length_eq, List.length_map, Array.length_toList]
  have hpos : 0 < es.size := by rw [hn]; exact List.length_pos_iff.mpr hne
  have hps : t.place.size = es.size := by
    simp only [SetTable.fits, Bool.and_eq_true, beq_iff_eq, decide_eq_true_eq] at hf
    exact hf.1
  have hpp : ∃ b, t.popPlace = some b ∧ b < es.size := by
    unfold SetTable.popPlace
    rw [if_neg (by rw [Array.isEmpty_iff_size_eq_zero]; omega)]
    refine ⟨_, rfl, ?_⟩
    split <;> omega
  obtain ⟨b, eb, hbs⟩ := hpp
  have fin : ∀ i d, i < es.size → wpAny (model prog w) A (match es[i]? with
          | some (_, x) => do
            storeSet a (SetTable.eraseAt es i) (t.popped i)
            pure (some x)
          | _ => unsupported "internal:set.pop") Q E { s with drawn := d } := by
    intro i d hi
    have hli : i < es.toList.length := by rw [Array.length_toList]; exact hi
    obtain ⟨k, tk, he⟩ := hel es.toList[i] (List.getElem_mem hli)
    have he' : es[i]? = some (hashInt k, Value.int k tk) := by rw [← Array.getElem?_toList, List.getElem?_eq_getElem hli, he]
    rw [he']
    dsimp only
    have hpe := erase_perm es.toList i hli
    rw [he] at hpe
    have hk : ks.Perm (k :: (es.toList.eraseIdx i).map kOf) := hp.symm.trans (hpe.map kOf)
    have hsz : (SetTable.eraseAt es i).size + 1 = es.size := by
      rw [← Array.length_toList, erase_list, List.length_eraseIdx_of_lt hli, Array.length_toList]; omega
    refine wpAny_bind (wpAny_storeSet_of (s := { s with drawn := d }) ho hd ?_ (fits_of_scanBound (by omega)))
    refine wpAny_pure (h _ _ k tk d (hk.mem_iff.mpr (.head _)) (Heap.SameBut.update s.heap a _) (store_get ho hd) ?_)
    refine ⟨hex, _, _, _, rfl, fun e he => ?_, ?_, hnd.erase k, popped_fits (by rw [hsz]; exact hf) (by omega), popped_good hg⟩
    · rw [erase_list] at he
      exact hel e ((List.eraseIdx_sublist _ _).mem he)
    · rw [erase_list]
      have := hk.erase k
      rw [List.erase_cons_head] at this
      exact this.symm
  unfold setPop
  refine wpAny_bind (wpAny_setState_of ho hd hf ?_)
  dsimp only
  rw [eb]
  dsimp only
  unfold setsByText
  refine wpAny_bind (wpAny_bind (wpAny_askSetting (wpAny_pure ?_)))
  dsimp only
  split
  · exact wpAny_bind (wpChoose (by omega) fun i d hi => fin i d hi)
  · rename_i hc
    have hl : t.led = true := by
      rcases hg with hg | hg
      · exact absurd (by show (w.params.followText "set-order" || _) = true; rw [hg]; rfl) hc
      · exact hg.1
    refine wpAny_bind ?_
    show wpAny _ _ (if (!t.led && decide (es.size > 1)) = true then _ else _) _ _ _
    rw [if_neg (by rw [hl]; simp)]
    refine wpAny_pure (wpAny_bind (wpAny_pure ?_))
    have := fin b s.drawn hbs
    exact this
end
end
section
set_option maxRecDepth 100000
set_option maxHeartbeats 4000000

theorem noBool_set : typeLookup (.type "set") "__bool__" = pure none := by rw [typeLookup_type, builtinLookup_eq_fast]; kernel_rfl

section
variable {prog : Program} {w : World} {A : Around} {E : Value → Shared → Prop} {s : Shared} {h₀ : Heap} {L sa : Addr} {m : Str → Option Value} {news : List (Addr × Obj)} {g : Obj → List (Addr × Obj)} {so : Obj} {ks : List Int} {k : Int} {tk : Tok}

theorem my_newSet {Q : Value → Shared → Prop} (h : Q (.ref s.heap.objs.size) { s with heap := s.heap.push (setNil w) }) :
    wpAny (model prog w) A (newSet (.type "set")) Q E s := by
  unfold newSet setsByText
  refine wpAny_bind (wpAny_bind (wpAny_askSetting (wpAny_pure ?_)))
  dsimp only
  simp only [newObj]
  exact wpAny_bind (wpAny_alloc (wpAny_pure h))

theorem sx_new {Q : Value → Shared → Prop} (F : Fr h₀ L s.heap m) (N : News h₀ L s.heap news)
    (h : ∀ D so h', SetX w so [] → Fr h₀ L h' m → News h₀ L h' ((D, so) :: news) → (∀ p ∈ news, p.1 < D) → Q (.ref D) { s with heap := h' }) :
    wpAny (model prog w) A (call (.type "set") []) Q E s :=
  my_set_call (h _ _ _ (setNil_x w) (F.push _) (News.push F N _ rfl) fun p hp => Heap.lt_size (N p hp).1)

theorem sx_core {road : DisplayRoad} {b : Bool} {elts : List (Bool × Sem Value)} {ts : List (Sem Value)} {Q : Value → Shared → Prop} (hroad : (road == .constants) = false) (hs : elts.findIdx? (·.1) = none) (hlen : elts.length ≤ 30) (hm : elts.map (·.2) = ts)
    (hu : (road == DisplayRoad.unsure) = false)
    (h : wpAny (model prog w) A (evalAll ts) (fun vs s' => KdsFill (model prog w) A E false s.heap.objs.size Q vs s') E { s with heap := s.heap.push (setNil w) }) :
    wpAny (model prog w) A (setDisplay road b elts) Q E s := by
  have hn : (if elts.length > 30 then 0 else (elts.findIdx? (·.1)).getD elts.length) = elts.length := by rw [if_neg (by omega), hs]; rfl
  unfold setDisplay
  try dsimp only
  rw [if_neg (by rw [hroad]; exact Bool.false_ne_true)]
  refine wpAny_bind (my_newSet ?_)
  dsimp only
  rw [hn, List.take_length, List.drop_length, hm]
  refine wpAny_bind (wpAny_holding ?_)
  refine wpAny_bind (wpAny_mono h (fun vs s' h' => ?_) fun _ _ x => x)
  refine wpAny_bind (wpAny_holding ?_)
  refine wpAny_bind (wpAny_mono (kds_for (fun x P s hx => ?_) vs s' h') (fun _ s1 h1 => ?_) fun _ _ x => x)
  · refine wpAny_bind (wpAny_mono hx (fun _ s2 h2 => ?_) fun _ _ x => x)
    first | exact wpAny_pure ⟨rfl, h2⟩ | exact wpAny_bind (wpAny_pure (wpAny_pure ⟨rfl, h2⟩))
  · have h2 : Q (.ref s.heap.objs.size) s1 := by simpa [KdsFill] using h1
    rw [if_neg (by rw [hu]; exact Bool.false_ne_true)]
    refine wpAny_pure ?_
    rw [List.forIn_nil]
    exact wpAny_pure (wpAny_pure h2)

theorem sx_eval {K : Frag} {elts : List PySem.Expr} {k : Nat} {pos : Pos} {env : Env} {Q : Value → Shared → Prop} (F : Fr h₀ L s.heap m) (N : News h₀ L s.heap news) (X : K.In h₀) (hc : kdsCode K env.code = true)
    (hroad : (displayRoad k elts == .constants) = false) (hu : (displayRoad k elts == .unsure) = false) (hp : elts.all kdsPlain = true) (hlen : elts.length ≤ 30)
    (h : ∀ D so h', SetX w so [] → Fr h₀ L h' m → News h₀ L h' ((D, so) :: news) → (∀ p ∈ news, p.1 < D) →
      KdsAll (model prog w) A E env elts (fun vs s' => KdsFill (model prog w) A E false D Q vs s') { s with heap := h' }) :
    wpAny (model prog w) A (eval (.Set elts k pos) env) Q E s := by
  rw [arm_eval_Set]
  refine wpAny_bind (wpAny_standAt ?_)
  refine wpAny_bind (kds_main (X.keeps F.keep) hc fun b => ?_)
  rw [kds_star elts hp, List.map_map]
  refine sx_core (ts := (evalEach elts env).map fun t => do let v ← t; standAt pos; pure v) hroad ?_ ?_ ?_ hu ?_
  · refine List.findIdx?_eq_none_iff.mpr fun x hx => ?_
    obtain ⟨t, _, rfl⟩ := List.mem_map.mp hx
    rfl
  · rw [List.length_map, kds_len]; exact hlen
  · rw [List.map_map]; try rfl
  · exact kds_all pos elts _ _ (h _ _ _ (setNil_x w) (F.push _) (News.push F N _ rfl) fun p hp => Heap.lt_size (N p hp).1)

theorem sx_setAdd {Q : Bool → Shared → Prop} (F : Fr h₀ L s.heap m) (N : News h₀ L s.heap news) (U : UpdF sa so news g) (hx : SetX w so ks) (hb : ks.length + 1 < scanBound)
    (h : ∀ h' so', SetX w so' (if k ∈ ks then ks else k :: ks) → Fr h₀ L h' m → News h₀ L h' (g so') → Q (!decide (k ∈ ks)) { s with heap := h', toks := s.toks + 1 }) :
    wpAny (model prog w) A (setAdd sa (.int k tk)) Q E s := by
  obtain ⟨pre, post, rfl, hg, a, b⟩ := U.split
  have hm := N (sa, so) (List.mem_append_right _ (.head _))
  unfold setAdd
  refine wpAny_holding (wpAny_bind (wpAny_pyHash_int ?_))
  refine addX_tree (s := { s with toks := s.toks + 1 }) hm.1 hx hb fun h' so' hsb ho' hx' => ?_
  exact h h' so' hx' (F.change hsb hm.2.1 hm.2.2) (hg so' ▸ N.setIn a b hsb ho')

theorem sx_add {Q : Value → Shared → Prop} (FR : Fr h₀ L s.heap m) (N : News h₀ L s.heap news) (U : UpdF sa so news g) (hx : SetX w so ks) (hb : ks.length + 1 < scanBound)
    (h : ∀ h' so', SetX w so' (if k ∈ ks then ks else k :: ks) → Fr h₀ L h' m → News h₀ L h' (g so') → Q .none { s with heap := h', toks := s.toks + 1 }) :
    wpAny (model prog w) A (call (.builtin "set.add") [.ref sa, .int k tk]) Q E s := by
  obtain ⟨pre, post, rfl, hg, a, b⟩ := id U.split
  have hm := N (sa, so) (List.mem_append_right _ (.head _))
  refine wpAny_call_entry F.slot_set_add ⟨so, hm.1, hx.1.1⟩ F.entry_set_add ?_ (F.args_set_add_2 _ _)
  unfold Builtin.«set.add» Builtin.Frozenset.oneOther
  simp only [List.isEmpty_nil, bind_assoc]
  unfold Builtin.Frozenset.addrOf
  refine wpAny_bind (wpAny_pure ?_)
  try dsimp only
  refine wpAny_bind (wpAny_pure ?_)
  try dsimp only
  refine wpAny_bind (sx_setAdd FR N U hx hb fun h' so' hx' F' N' => ?_)
  show wpAny _ _ (ret Value.none) _ _ _
  exact wpAny_pure ⟨_, rfl, h h' so' hx' F' N'⟩

theorem sx_method_add {pl : Sem Bool} {Q : Value × List Value → Shared → Prop} (N : News h₀ L s.heap news) (U : UpdF sa so news g) (hx : SetX w so ks) (h : Q (.builtin "set.add", [.ref sa]) s) :
    wpAny (model prog w) A (getMethod (.ref sa) "add" pl) Q E s := by
  obtain ⟨pre, post, rfl, _, _, _⟩ := U.split
  have hm := N (sa, so) (List.mem_append_right _ (.head _))
  refine getMethod_builtin ⟨so, hm.1, hx.1.1⟩ F.plainAttrs_set F.slot_set_add F.type_set_add (fun b e => ?_) h
  injection e with e; subst e; exact ⟨so, hm.1, hx.1.2.1⟩

theorem sx_method_pop {pl : Sem Bool} {Q : Value × List Value → Shared → Prop} (N : News h₀ L s.heap news) (U : UpdF sa so news g) (hx : SetX w so ks) (h : Q (.builtin "set.pop", [.ref sa]) s) :
    wpAny (model prog w) A (getMethod (.ref sa) "pop" pl) Q E s := by
  obtain ⟨pre, post, rfl, _, _, _⟩ := U.split
  have hm := N (sa, so) (List.mem_append_right _ (.head _))
  refine getMethod_builtin ⟨so, hm.1, hx.1.1⟩ F.plainAttrs_set F.slot_set_pop F.type_set_pop (fun b e => ?_) h
  injection e with e; subst e; exact ⟨so, hm.1, hx.1.2.1⟩

theorem sx_pop {Q : Value → Shared → Prop} (FR : Fr h₀ L s.heap m) (N : News h₀ L s.heap news) (U : UpdF sa so news g) (hx : SetX w so ks) (hne : ks ≠ []) (hb : ks.length < scanBound)
    (h : ∀ h' so' k t d, k ∈ ks → SetX w so' (ks.erase k) → Fr h₀ L h' m → News h₀ L h' (g so') → Q (.int k t) { s with heap := h', drawn := d }) :
    wpAny (model prog w) A (call (.builtin "set.pop") [.ref sa]) Q E s := by
  obtain ⟨pre, post, rfl, hg, a, b⟩ := U.split
  have hm := N (sa, so) (List.mem_append_right _ (.head _))
  refine wpAny_call_entry F.slot_set_pop ⟨so, hm.1, hx.1.1⟩ F.entry_set_pop ?_ (F.args_set_pop_1 _)
  unfold Builtin.«set.pop» Builtin.Frozenset.noArgs
  simp only [List.isEmpty_nil, bind_assoc]
  unfold Builtin.Frozenset.addrOf
  refine wpAny_bind (wpAny_pure ?_)
  try dsimp only
  refine wpAny_bind (popX_tree hm.1 hx hne hb fun h' so' k t d hk hsb ho' hx' => ?_)
  dsimp only
  show wpAny _ _ (ret (Value.int k t)) _ _ _
  exact wpAny_pure ⟨_, rfl, h h' so' k t d hk hx' (FR.change hsb hm.2.1 hm.2.2) (hg so' ▸ N.setIn a b hsb ho')⟩

theorem sx_in {Q : Value → Shared → Prop} (N : News h₀ L s.heap news) (U : UpdF sa so news g) (hx : SetX w so ks) (hb : ks.length < scanBound) (h : Q (.bool (decide (k ∈ ks))) { s with toks := s.toks + 1 }) :
    wpAny (model prog w) A (compareOp .In (.int k tk) (.ref sa)) Q E s := by
  obtain ⟨pre, post, rfl, _, _, _⟩ := U.split
  exact wpAny_inSet_of (knd := intKind prog w) (intKind_is _ _ _ _) rfl ((hx.obj prog).setOf (N (sa, so) (List.mem_append_right _ (.head _))).1 hb) h

theorem sx_truthy {Q : Bool → Shared → Prop} (N : News h₀ L s.heap news) (U : UpdF sa so news g) (hx : SetX w so ks) (hb : ks.length < scanBound) (h : Q (!ks.isEmpty) { s with toks := s.toks + 1 + 1 }) :
    wpAny (model prog w) A (truthy (.ref sa)) Q E s := by
  obtain ⟨pre, post, rfl, _, _, _⟩ := U.split
  have hm := N (sa, so) (List.mem_append_right _ (.head _))
  obtain ⟨hex, es, ep, t, hd, hel, hp, hnd, hf, hg⟩ := id hx
  have hn : es.size = ks.length := by rw [← hp.length_eq, List.length_map, Array.length_toList]
  have hT : s.TypeIs (.ref sa) "set" := ⟨so, hm.1, hex.1⟩
  have hb' : ks.length < 4096 := hb
  have hne : ((es.size : Int) != 0) = !ks.isEmpty := by rw [hn]; cases ks <;> simp <;> omega
  have key : wpAny (model prog w) A (runValue (.builtin "len" ⟨[.ref sa], []⟩)) (fun r s' => r = .int es.size (s.toks + 1) ∧ Q (!ks.isEmpty) s') E s := by
    refine wpAny_runValue (codeAny_builtin entry_len ?_)
    rw [Around.under_plainId plain_len _]
    exact wpAny_mono (wpAny_len_body_set (Q := fun r s' => r = .int es.size (s.toks + 1) ∧ Q (!ks.isEmpty) s') hm.1 hex hd hf (by omega) ⟨rfl, h⟩)
      (fun fin s' h' => by obtain ⟨r, rfl, hq⟩ := h'; exact hq) fun _ _ e => e
  unfold truthy
  first
    | refine wpAny_bind (wpAny_callSpecial?_none (name := Str.ofString "__bool__") hT noBool_set ?_)
    | refine wpAny_bind (wpAny_pure (wpAny_bind (wpAny_callSpecial?_none (name := Str.ofString "__bool__") hT noBool_set ?_)))
  first
    | refine wpAny_bind (wpAny_specialOf (name := Str.ofString "__len__") hT F.slot_set_len.lookup ?_)
    | refine wpAny_bind (wpAny_pure (wpAny_bind (wpAny_specialOf (name := Str.ofString "__len__") hT F.slot_set_len.lookup ?_)))
  first
    | exact wpAny_bind (wpAny_mono key (fun r s' h' => by obtain ⟨rfl, hq⟩ := h'; exact wpAny_pure (hne ▸ hq)) fun _ _ e => e)
    | exact wpAny_bind (wpAny_pure (wpAny_bind (wpAny_mono key (fun r s' h' => by obtain ⟨rfl, hq⟩ := h'; exact wpAny_pure (hne ▸ hq)) fun _ _ e => e)))
end
end
section
set_option maxRecDepth 100000
set_option maxHeartbeats 4000000

theorem slot_setit_next : Slot "set_iterator" "__next__" "set_iterator.__next__" :=
  .of (owner := "set_iterator") (n := "__next__") (by rw [typeLookup_type, builtinLookup_eq_fast]; kernel_rfl) (by decide +kernel) (by decide +kernel) (by decide +kernel)
    (by first | exact .inl (by decide +kernel) | exact .inr (by decide +kernel)) (by rw [isSubtype_type]; kernel_rfl)
theorem entry_setit_next : entryFor table "set_iterator.__next__" = some Builtin.«set_iterator.__next__» := entryFor_of_tree (by kernel_rfl)
theorem owner_setit : Manifest.owners.lookup (String.ofList ['r', 'o', 't', 'a', 'r', 'e', 't', 'i', '_', 't', 'e', 's'].reverse) = some Manifest.sig_set_iterator := by kernel_rfl
theorem args_setit_next (a : Value) : argsOk "set_iterator.__next__" ⟨[a], []⟩ := by
  unfold argsOk; rw [signature?_of (id := "set_iterator.__next__") (n := ['_', '_', 't', 'x', 'e', 'n', '_', '_']) (o := ['r', 'o', 't', 'a', 'r', 'e', 't', 'i', '_', 't', 'e', 's']) (by kernel_rfl) owner_setit]; kernel_rfl
theorem slot_setit_iter : ∃ id, Slot "set_iterator" "__iter__" id := ⟨"set_iterator.__iter__",
  .of (owner := "set_iterator") (n := "__iter__") (by rw [typeLookup_type, builtinLookup_eq_fast]; kernel_rfl) (by decide +kernel) (by decide +kernel) (by decide +kernel)
    (by first | exact .inl (by decide +kernel) | exact .inr (by decide +kernel)) (by rw [isSubtype_type]; kernel_rfl)⟩
theorem entry_set_iter : entryFor table "set.__iter__" = some Builtin.«frozenset.__iter__» :=
  entryFor_alias (id' := "frozenset.__iter__") (by rw [fastTable_eq_tree]; kernel_rfl) rfl (by decide +kernel) (by rw [fastTable_eq_tree]; kernel_rfl)

/-- the object that walks a set -/
def itObj (first : Value) (i : Nat) (a : Addr) (n ep : Nat) : Obj := { cls := .type "set_iterator", data := .fields #[first, .int i 0, .ref a, .int n 0, .int ep 0] }

theorem pick_perm {α : Type} (next : Nat → Nat) : ∀ (f k : Nat) (left : List α) (out : Array α), left.length = f → (pickOrder.go next f k left out).toList.Perm (out.toList ++ left)
  | 0, k, left, out, h => by
    rw [List.length_eq_zero_iff.mp h, List.append_nil, pickOrder.go]
  | f + 1, k, left, out, h => by
    have hm : next k % left.length < left.length := Nat.mod_lt _ (by omega)
    rw [pickOrder.go, List.getElem?_eq_getElem hm]
    dsimp only
    refine (pick_perm next f (k + 1) _ _ (by rw [List.length_eraseIdx_of_lt hm]; omega)).trans ?_
    rw [Array.toList_push, List.append_assoc]
    exact List.Perm.append_left _ (erase_perm left _ hm).symm
theorem pickOrder_perm {α : Type} (next : Nat → Nat) (xs : Array α) : (pickOrder next xs).toList.Perm xs.toList := by
  exact pick_perm next xs.size 0 xs.toList #[] (Array.length_toList ..)

section
variable {prog : Program} {w : World} {A : Around} {E : Value → Shared → Prop} {s : Shared} {a I : Addr}

theorem draw_perm {α : Type} : ∀ (n : Nat) (xs : List α) (s : Shared) (Q : List α → Shared → Prop), xs.length = n → (∀ ys d, ys.Perm xs → Q ys { s with drawn := d }) → wpAny (model prog w) A (drawOrder n xs) Q E s
  | 0, xs, s, Q, h, hQ => by
    rw [List.length_eq_zero_iff.mp h, drawOrder]
    exact wpAny_pure (hQ [] s.drawn (by rw [List.length_eq_zero_iff.mp h]))
  | n + 1, [], s, Q, h, hQ => by cases h
  | n + 1, x :: xs, s, Q, h, hQ => by
    rw [drawOrder]
    · refine wpAny_bind (wpChoose (by simp) fun i d hi => ?_)
      rw [List.getElem?_eq_getElem hi]
      dsimp only
      refine wpAny_bind (draw_perm n _ _ _ (by rw [List.length_eraseIdx_of_lt hi]; omega) fun ys d' hp => wpAny_pure (hQ _ d' ?_))
      exact (List.Perm.cons _ hp).trans (erase_perm (x :: xs) i hi).symm
    · intro h'; cases h'


theorem it_put0 {h : Heap} {first x : Value} {i n ep : Nat} (hI : h.get? I = some (itObj first i a n ep)) : (h.update I (Obj.mapFields (·.setIfInBounds 0 x))).get? I = some (itObj x i a n ep) :=
  Heap.get?_update_self (Obj.mapFields (·.setIfInBounds 0 x)) hI rfl
theorem it_put1 {h : Heap} {first : Value} {i n ep : Nat} (hI : h.get? I = some (itObj first i a n ep)) : (h.update I (Obj.mapFields (·.setIfInBounds 1 (rawInt ((i : Int) + 1))))).get? I = some (itObj first (i + 1) a n ep) := by
  have := Heap.get?_update_self (Obj.mapFields (·.setIfInBounds 1 (rawInt ((i : Int) + 1)))) hI rfl
  rw [this]
  show some (_ : Obj) = some (_ : Obj)
  congr 1

theorem next_some {sl nx i n ep : Nat} {x : Value} {o : Obj} {es : Array (Int × Value)} {e' : Nat} {t : SetTable} {Q : Option Value → Shared → Prop}
    (hI : s.heap.get? I = some (itObj (.int sl 0) i a n ep)) (ho : s.heap.get? a = some o) (hd : o.data = .set es e' t) (hf : t.fits es.size = true) (hn : es.size = n)
    (hs : ∀ (E' : Value → Shared → Prop) (Q' : Option (Value × Nat) → Shared → Prop), Q' (some (x, nx)) s → wpAny (model prog w) A.in1 (setNext a sl i ep) Q' E' s)
    (h : ∀ h', h'.get? I = some (itObj (.int nx 0) (i + 1) a n ep) → (∀ b o, b ≠ I → s.heap.get? b = some o → h'.get? b = some o) → Q (some x) { s with heap := h' }) : wpAny (model prog w) A (pyNext (.ref I)) Q E s := by
  unfold pyNext
  refine wpAny_bind (wpAny_attempt (wpAny_callSpecial?_slot (name := Str.ofString "__next__") ⟨_, hI, rfl⟩ slot_setit_next
    (wpAny_call_entry slot_setit_next ⟨_, hI, rfl⟩ entry_setit_next ?_ (args_setit_next _))))
  unfold Builtin.«set_iterator.__next__»
  refine wpAny_bind (wpAny_pure ?_)
  refine wpAny_bind (wpAny_fieldsOf hI rfl ?_)
  dsimp only
  refine wpAny_bind (wpAny_setEntries_of ho hd hf ?_)
  rw [hn]
  simp only [bne_self_eq_false, Bool.false_eq_true, if_false, Int.toNat_natCast]
  refine wpAny_bind (hs _ _ ?_)
  dsimp only
  refine wpAny_bind (wpAny_setField hI rfl (by simp) ?_)
  refine wpAny_bind (wpAny_setField (it_put0 hI) rfl (by simp) ?_)
  refine wpAny_pure ⟨_, rfl, wpAny_pure (h _ (it_put1 (it_put0 hI)) fun b o hb e => ?_)⟩
  exact (Heap.get?_update_other _ _ (Ne.symm hb)).trans ((Heap.get?_update_other _ _ (Ne.symm hb)).trans e)

theorem next_none {sl i n ep : Nat} {o : Obj} {es : Array (Int × Value)} {e' : Nat} {t : SetTable} {Q : Option Value → Shared → Prop} (hh : A.handled = none)
    (hI : s.heap.get? I = some (itObj (.int sl 0) i a n ep)) (ho : s.heap.get? a = some o) (hd : o.data = .set es e' t) (hf : t.fits es.size = true) (hn : es.size = n)
    (hs : ∀ (E' : Value → Shared → Prop) (Q' : Option (Value × Nat) → Shared → Prop), Q' none s → wpAny (model prog w) A.in1 (setNext a sl i ep) Q' E' s)
    (h : ∀ h', (∀ b o, b ≠ I → s.heap.get? b = some o → h'.get? b = some o) → Q none { s with heap := h' }) : wpAny (model prog w) A (pyNext (.ref I)) Q E s := by
  unfold pyNext
  refine wpAny_bind (wpAny_attempt (wpAny_callSpecial?_slot (name := Str.ofString "__next__") ⟨_, hI, rfl⟩ slot_setit_next
    (wpAny_call_entry slot_setit_next ⟨_, hI, rfl⟩ entry_setit_next ?_ (args_setit_next _))))
  unfold Builtin.«set_iterator.__next__»
  refine wpAny_bind (wpAny_pure ?_)
  refine wpAny_bind (wpAny_fieldsOf hI rfl ?_)
  dsimp only
  refine wpAny_bind (wpAny_setEntries_of ho hd hf ?_)
  rw [hn]
  simp only [bne_self_eq_false, Bool.false_eq_true, if_false, Int.toNat_natCast]
  refine wpAny_bind (hs _ _ ?_)
  dsimp only
  refine wpAny_bind (wpAny_setField hI rfl (by simp) ?_)
  refine wpAny_bind ?_
  simp only [newExc, newTuple]
  refine wpAny_bind (wpAny_newObj_type ?_ (by size_fits))
  refine wpAny_bind (m := firstArgMember _ _) (wpAny_of_eq (a := Value.none) (by first | rfl | (simp only [firstArgMember]; rfl)) ?_)
  refine wpAny_newObj_type ?_ (by size_fits)
  simp only [raiseNew]
  refine wpAny_bind (wpAny_handled ?_)
  rw [show A.in1.handled = none from hh]
  refine wpAny_bind (wpAny_pure (wpAny_throw ?_))
  refine wpAny_bind (wpAny_isInstance (T := "StopIteration") (b := true) ⟨_, Heap.get?_push_size _ rfl, rfl⟩ isSubtype_stop ?_)
  exact wpAny_pure (h _ fun b o hb e => Heap.get?_push_of_some _ (Heap.get?_push_of_some _ ((Heap.get?_update_other _ _ (Ne.symm hb)).trans e)))

theorem nextD_some {T : Addr} {oT : Obj} {ps : List Nat} {j i n ep : Nat} {x : Value} {o : Obj} {es : Array (Int × Value)} {t : SetTable} {Q : Option Value → Shared → Prop} {hx : Int}
    (hI : s.heap.get? I = some (itObj (.ref T) i a n ep)) (ho : s.heap.get? a = some o) (hd : o.data = .set es ep t) (hf : t.fits es.size = true) (hn : es.size = n)
    (hT : s.heap.get? T = some oT) (hTd : oT.data = .seq (ps.map fun (j : Nat) => rawInt j).toArray) (hj : ps[i]? = some j) (hx : es[j]? = some (hx, x))
    (h : ∀ h', h'.get? I = some (itObj (.ref T) (i + 1) a n ep) → (∀ b o, b ≠ I → s.heap.get? b = some o → h'.get? b = some o) → Q (some x) { s with heap := h' }) : wpAny (model prog w) A (pyNext (.ref I)) Q E s := by
  unfold pyNext
  refine wpAny_bind (wpAny_attempt (wpAny_callSpecial?_slot (name := Str.ofString "__next__") ⟨_, hI, rfl⟩ slot_setit_next
    (wpAny_call_entry slot_setit_next ⟨_, hI, rfl⟩ entry_setit_next ?_ (args_setit_next _))))
  unfold Builtin.«set_iterator.__next__»
  refine wpAny_bind (wpAny_pure ?_)
  refine wpAny_bind (wpAny_fieldsOf hI rfl ?_)
  dsimp only
  refine wpAny_bind (wpAny_setEntries_of ho hd hf ?_)
  rw [hn]
  simp only [bne_self_eq_false, Bool.false_eq_true, if_false, Int.toNat_natCast]
  refine wpAny_bind (wpAny_seqItems hT hTd ?_)
  dsimp only
  have e1 : (ps.map fun (j : Nat) => rawInt j).toArray[i]? = some (rawInt j) := by simp [hj]
  rw [e1]
  show wpAny _ _ (setNextDrawn a (j : Int).toNat ep >>= _) _ _ _
  rw [Int.toNat_natCast]
  unfold setNextDrawn
  refine wpAny_bind (wpAny_bind (wpAny_setState_of ho hd hf ?_))
  dsimp only
  rw [if_neg (by simp), hx]
  refine wpAny_bind (wpAny_pure (wpAny_pure ?_))
  refine wpAny_bind (wpAny_setField hI rfl (by simp) ?_)
  refine wpAny_pure ⟨_, rfl, wpAny_pure (h _ (it_put1 hI) fun b o hb e => ?_)⟩
  exact (Heap.get?_update_other _ _ (Ne.symm hb)).trans e

theorem nextD_none {T : Addr} {oT : Obj} {ps : List Nat} {i n ep : Nat} {o : Obj} {es : Array (Int × Value)} {t : SetTable} {Q : Option Value → Shared → Prop} (hh : A.handled = none)
    (hI : s.heap.get? I = some (itObj (.ref T) i a n ep)) (ho : s.heap.get? a = some o) (hd : o.data = .set es ep t) (hf : t.fits es.size = true) (hn : es.size = n)
    (hT : s.heap.get? T = some oT) (hTd : oT.data = .seq (ps.map fun (j : Nat) => rawInt j).toArray) (hj : ps[i]? = none)
    (h : ∀ h', (∀ b o, b ≠ I → s.heap.get? b = some o → h'.get? b = some o) → Q none { s with heap := h' }) : wpAny (model prog w) A (pyNext (.ref I)) Q E s := by
  unfold pyNext
  refine wpAny_bind (wpAny_attempt (wpAny_callSpecial?_slot (name := Str.ofString "__next__") ⟨_, hI, rfl⟩ slot_setit_next
    (wpAny_call_entry slot_setit_next ⟨_, hI, rfl⟩ entry_setit_next ?_ (args_setit_next _))))
  unfold Builtin.«set_iterator.__next__»
  refine wpAny_bind (wpAny_pure ?_)
  refine wpAny_bind (wpAny_fieldsOf hI rfl ?_)
  dsimp only
  refine wpAny_bind (wpAny_setEntries_of ho hd hf ?_)
  rw [hn]
  simp only [bne_self_eq_false, Bool.false_eq_true, if_false, Int.toNat_natCast]
  refine wpAny_bind (wpAny_seqItems hT hTd ?_)
  dsimp only
  have e1 : (ps.map fun (j : Nat) => rawInt j).toArray[i]? = none := by simpa using hj
  rw [e1]
  dsimp only
  refine wpAny_bind (wpAny_setField hI rfl (by simp) ?_)
  refine wpAny_bind (wpAny_setField (it_put0 hI) rfl (by simp) ?_)
  refine wpAny_bind ?_
  simp only [newExc, newTuple]
  refine wpAny_bind (wpAny_newObj_type ?_ (by size_fits))
  refine wpAny_bind (m := firstArgMember _ _) (wpAny_of_eq (a := Value.none) (by first | rfl | (simp only [firstArgMember]; rfl)) ?_)
  refine wpAny_newObj_type ?_ (by size_fits)
  simp only [raiseNew]
  refine wpAny_bind (wpAny_handled ?_)
  rw [show A.in1.handled = none from hh]
  refine wpAny_bind (wpAny_pure (wpAny_throw ?_))
  refine wpAny_bind (wpAny_isInstance (T := "StopIteration") (b := true) ⟨_, Heap.get?_push_size _ rfl, rfl⟩ isSubtype_stop ?_)
  exact wpAny_pure (h _ fun b o hb e => Heap.get?_push_of_some _ (Heap.get?_push_of_some _ ((Heap.get?_update_other _ _ (Ne.symm hb)).trans ((Heap.get?_update_other _ _ (Ne.symm hb)).trans e))))
end
end
section
set_option maxRecDepth 100000
set_option maxHeartbeats 4000000

theorem slot_setit_self : Slot "set_iterator" "__iter__" "set_iterator.__iter__" :=
  .of (owner := "set_iterator") (n := "__iter__") (by rw [typeLookup_type, builtinLookup_eq_fast]; kernel_rfl) (by decide +kernel) (by decide +kernel) (by decide +kernel)
    (by first | exact .inl (by decide +kernel) | exact .inr (by decide +kernel)) (by rw [isSubtype_type]; kernel_rfl)
theorem entry_setit_self : entryFor table "set_iterator.__iter__" = some Builtin.«dict_keyiterator.__iter__» :=
  entryFor_alias (id' := "dict_keyiterator.__iter__") (by rw [fastTable_eq_tree]; kernel_rfl) rfl (by decide +kernel) (by rw [fastTable_eq_tree]; kernel_rfl)
theorem args_setit_self (a : Value) : argsOk "set_iterator.__iter__" ⟨[a], []⟩ := by
  unfold argsOk; rw [signature?_of (id := "set_iterator.__iter__") (n := ['_', '_', 'r', 'e', 't', 'i', '_', '_']) (o := ['r', 'o', 't', 'a', 'r', 'e', 't', 'i', '_', 't', 'e', 's']) (by kernel_rfl) owner_setit]; kernel_rfl

section
variable {prog : Program} {w : World} {A : Around} {E : Value → Shared → Prop} {s : Shared} {a I : Addr}

theorem setit_self {first : Value} {i n ep : Nat} {Q : Value → Shared → Prop} (hI : s.heap.get? I = some (itObj first i a n ep)) (h : Q (.ref I) s) : wpAny (model prog w) A (pyIter (.ref I)) Q E s := by
  have hT : s.TypeIs (.ref I) "set_iterator" := ⟨_, hI, rfl⟩
  refine wpAny_pyIter_slot hT slot_setit_self (wpAny_call_entry slot_setit_self hT entry_setit_self ?_ (args_setit_self _))
  show wpAny _ _ (ret (.ref I)) _ _ s
  exact wpAny_pure ⟨_, rfl, "set_iterator", _, hT, slot_setit_next.lookup, h⟩

theorem setNext_text {o : Obj} {es : Array (Int × Value)} {ep : Nat} {t : SetTable} {sl i : Nat} {Q : Option (Value × Nat) → Shared → Prop} (hb : w.params.followText "set-order" = true)
    (ho : s.heap.get? a = some o) (hd : o.data = .set es ep t) (hf : t.fits es.size = true)
    (h : Q (((pickOrder (w.params.setOrder a ep) es)[i]?).map fun e => (e.2, sl)) s) : wpAny (model prog w) A (setNext a sl i ep) Q E s := by
  unfold setNext setsByText
  refine wpAny_bind (wpAny_setState_of ho hd hf ?_)
  dsimp only
  refine wpAny_bind (wpAny_bind (wpAny_askSetting (wpAny_pure ?_)))
  show wpAny _ _ (if w.params.followText "set-order" = true then _ else _) _ _ _
  rw [if_pos hb, if_neg (by simp)]
  unfold setWalk setsByText
  refine wpAny_bind (wpAny_bind (wpAny_setState_of ho hd hf ?_))
  dsimp only
  refine wpAny_bind (wpAny_bind (wpAny_askSetting (wpAny_pure ?_)))
  show wpAny _ _ (if w.params.followText "set-order" = true then _ else _) _ _ _
  rw [if_pos hb]
  refine wpAny_bind (wpAny_askSetting (wpAny_pure ?_))
  exact wpAny_pure h

theorem setNext_slot {o : Obj} {es : Array (Int × Value)} {ep : Nat} {t : SetTable} {sl i : Nat} {Q : Option (Value × Nat) → Shared → Prop} (hb : w.params.followText "set-order" = false)
    (hdr : (!t.plain && decide (es.size > 1)) = false) (hl : t.led = true) (ho : s.heap.get? a = some o) (hd : o.data = .set es ep t) (hf : t.fits es.size = true)
    (h : Q (match es[SetTable.below t.place sl]?, t.place[SetTable.below t.place sl]? with | some (_, x), some j => some (x, j + 1) | _, _ => none) s) : wpAny (model prog w) A (setNext a sl i ep) Q E s := by
  unfold setNext setsByText
  refine wpAny_bind (wpAny_setState_of ho hd hf ?_)
  dsimp only
  refine wpAny_bind (wpAny_bind (wpAny_askSetting (wpAny_pure ?_)))
  show wpAny _ _ (if w.params.followText "set-order" = true then _ else _) _ _ _
  rw [if_neg (by rw [hb]; exact Bool.false_ne_true)]
  show wpAny _ _ (if (!t.plain && decide (es.size > 1)) = true then _ else _) _ _ _
  rw [if_neg (by rw [hdr]; exact Bool.false_ne_true)]
  refine wpAny_bind ?_
  show wpAny _ _ (if (!t.led && !es.isEmpty) = true then _ else _) _ _ _
  rw [if_neg (by rw [hl]; simp)]
  exact wpAny_pure (wpAny_pure h)

theorem walksI {o : Obj} {es : Array (Int × Value)} {ep : Nat} {t : SetTable} {n : Nat} (hd : o.data = .set es ep t) (hf : t.fits es.size = true) (hn : es.size = n) (zs : List Value) (Rel : Nat → Nat → Prop) (hz : zs.length = n) (hI : a ≠ I) (hh : A.handled = none)
    (hs : ∀ i sl x, Rel sl i → zs[i]? = some x → ∃ nx, Rel nx (i + 1) ∧ ∀ (A : Around) (s : Shared) (E' : Value → Shared → Prop) (Q' : Option (Value × Nat) → Shared → Prop), s.heap.get? a = some o → Q' (some (x, nx)) s → wpAny (model prog w) A (setNext a sl i ep) Q' E' s)
    (he : ∀ sl, Rel sl n → ∀ (A : Around) (s : Shared) (E' : Value → Shared → Prop) (Q' : Option (Value × Nat) → Shared → Prop), s.heap.get? a = some o → Q' none s → wpAny (model prog w) A (setNext a sl n ep) Q' E' s) :
    Walks prog w A I [I, a] [I] n (fun i v => zs[i]? = some v) (fun i h => ∃ sl, Rel sl i ∧ h.get? I = some (itObj (.int sl 0) i a n ep) ∧ h.get? a = some o) where
  sub := fun b hb => by simp at hb; simp [hb]
  frame := fun _ _ _ ⟨sl, hr, h1, h2⟩ hk => ⟨sl, hr, hk I (by simp) _ h1, hk a (by simp) _ h2⟩
  item := fun i s Q E hi ⟨sl, hr, h1, h2⟩ hQ => by
    have hx : zs[i]? = some zs[i] := List.getElem?_eq_getElem (by omega)
    obtain ⟨nx, hr', hw⟩ := hs i sl _ hr hx
    refine next_some h1 h2 hd hf hn (fun E' Q' hq => hw _ _ _ _ h2 hq) fun h' hI' hk => ?_
    exact hQ _ h' s.toks hx ⟨nx, hr', hI', hk a _ hI h2⟩ fun b o hb e => hk b o (fun h => hb (by simp [h])) e
  done := fun s Q E ⟨sl, hr, h1, h2⟩ hQ => next_none hh h1 h2 hd hf hn (fun E' Q' hq => he sl hr _ _ _ _ h2 hq) fun h' hk => hQ h' s.toks fun b o hb e => hk b o (fun h => hb (by simp [h])) e
  self := fun _ _ _ _ ⟨_, _, h1, _⟩ hQ => setit_self h1 hQ

theorem walksD {o : Obj} {es : Array (Int × Value)} {ep : Nat} {t : SetTable} {n : Nat} {T : Addr} {oT : Obj} {ps : List Nat} (hd : o.data = .set es ep t) (hf : t.fits es.size = true) (hn : es.size = n) (zs : List Value) (hps : ps.length = n)
    (hz : ∀ i : Nat, i < n → ∃ (j : Nat) (hx : Int) (x : Value), ps[i]? = some j ∧ es[j]? = some (hx, x) ∧ zs[i]? = some x) (hTd : oT.data = .seq (ps.map fun (j : Nat) => rawInt j).toArray) (hI : a ≠ I) (hT : T ≠ I) (hh : A.handled = none) :
    Walks prog w A I [I, a, T] [I] n (fun i v => zs[i]? = some v) (fun i h => h.get? I = some (itObj (.ref T) i a n ep) ∧ h.get? a = some o ∧ h.get? T = some oT) where
  sub := fun b hb => by simp at hb; simp [hb]
  frame := fun _ _ _ ⟨h1, h2, h3⟩ hk => ⟨hk I (by simp) _ h1, hk a (by simp) _ h2, hk T (by simp) _ h3⟩
  item := fun i s Q E hi ⟨h1, h2, h3⟩ hQ => by
    obtain ⟨j, hx, x, e1, e2, e3⟩ := hz i hi
    refine nextD_some h1 h2 hd hf hn h3 hTd e1 e2 fun h' hI' hk => ?_
    exact hQ _ h' s.toks e3 ⟨hI', hk a _ hI h2, hk T _ hT h3⟩ fun b o hb e => hk b o (fun h => hb (by simp [h])) e
  done := fun s Q E ⟨h1, h2, h3⟩ hQ => nextD_none hh h1 h2 hd hf hn h3 hTd (List.getElem?_eq_none (by omega)) fun h' hk => hQ h' s.toks fun b o hb e => hk b o (fun h => hb (by simp [h])) e
  self := fun _ _ _ _ ⟨h1, _, _⟩ hQ => setit_self h1 hQ
end
end
section
set_option maxRecDepth 100000
set_option maxHeartbeats 4000000

theorem ints_of {l : List (Int × Value)} (h : ∀ e ∈ l, IsK e) : IntsAre (l.map (·.2)) (l.map kOf) := by
  induction l with
  | nil => exact .nil
  | cons e l ih =>
    obtain ⟨k, t, rfl⟩ := h e (.head _)
    exact .cons k t (ih fun x hx => h x (.tail _ hx))

section
variable {prog : Program} {w : World} {A : Around} {E : Value → Shared → Prop} {s : Shared} {a I : Addr}

theorem sx_hint {Q : Bool → Shared → Prop} (hT : s.TypeIs (.ref a) "set") (h : Q false s) : wpAny (model prog w) A (Builtin.List.listLengthHint (.ref a)) Q E s := by
  unfold Builtin.List.listLengthHint
  refine wpAny_bind (wpAny_specialOf hT PySem.F.slot_set_len.lookup ?_)
  generalize hid : ("set.__len__" : String) = id0
  wp_delta
  rw [show splitId id0 = some ("set", "__len__") from by subst hid; decide +kernel]
  subst hid
  refine wpAny_bind (wpAny_isInstance (T := "set") (b := true) hT (by rw [isSubtype_type]; kernel_rfl) ?_)
  refine wpAny_ite_split (fun hab => absurd hab (by decide)) (fun _ => ?_)
  refine wpAny_ite_split (fun _ => ?_) (fun hab => absurd (by decide +kernel) hab)
  refine wpAny_bind (wpAny_typeOf hT ?_)
  exact wpAny_pure h

theorem sx_iter {o : Obj} {ks : List Int} {Q : Value → Shared → Prop} (ho : s.heap.get? a = some o) (hx : SetX w o ks) (hb : ks.length < scanBound)
    (h : ∀ (I : Addr) (zs : List Value) (ns : List Int) (fp : List Addr) (St : Nat → Heap → Prop) (h' : Heap) (d : Drawn), IntsAre zs ns → ns.Perm ks →
      (∀ A' : Around, A'.handled = none → Walks prog w A' I fp [I] zs.length (fun i v => zs[i]? = some v) St) → St 0 h' → (∀ b o, s.heap.get? b = some o → h'.get? b = some o) →
      (∀ b ∈ fp, b = a ∨ s.heap.objs.size ≤ b) → s.heap.objs.size ≤ I → Q (.ref I) { s with heap := h', drawn := d }) :
    wpAny (model prog w) A (pyIter (.ref a)) Q E s := by
  obtain ⟨hex, es, ep, t, hd, hel, hp, hnd, hf, hg⟩ := id hx
  have hn : es.size = ks.length := by rw [← hp.length_eq, List.length_map, Array.length_toList]
  have hT : s.TypeIs (.ref a) "set" := ⟨o, ho, hex.1⟩
  have hps : t.place.size = es.size := by
    simp only [SetTable.fits, Bool.and_eq_true, beq_iff_eq, decide_eq_true_eq] at hf
    exact hf.1
  have ha : a < s.heap.objs.size := Heap.lt_size ho
  refine wpAny_pyIter_slot hT F.slot_set_iter (wpAny_call_entry F.slot_set_iter hT entry_set_iter ?_ (F.args_set_iter_1 _))
  unfold Builtin.«frozenset.__iter__»
  refine wpAny_bind (wpAny_pure ?_)
  unfold Builtin.Frozenset.sizeOf
  refine wpAny_bind (wpAny_bind (wpAny_setEntries_of ho hd hf (wpAny_pure ?_)))
  unfold setDrawn setsByText
  refine wpAny_bind (wpAny_bind (wpAny_setState_of ho hd hf ?_))
  dsimp only
  refine wpAny_bind (wpAny_bind (wpAny_askSetting (wpAny_pure ?_)))
  refine wpAny_pure ?_
  show wpAny _ _ (if (!w.params.followText "set-order" && (!t.plain && decide (es.size > 1))) = true then _ else _) _ _ _
  have intMode : ∀ (zs : List Value) (ns : List Int) (Rel : Nat → Nat → Prop), zs.length = es.size → IntsAre zs ns → ns.Perm ks → Rel 0 0 →
      (∀ i sl x, Rel sl i → zs[i]? = some x → ∃ nx, Rel nx (i + 1) ∧ ∀ (A : Around) (s : Shared) (E' : Value → Shared → Prop) (Q' : Option (Value × Nat) → Shared → Prop), s.heap.get? a = some o → Q' (some (x, nx)) s → wpAny (model prog w) A (setNext a sl i ep) Q' E' s) →
      (∀ sl, Rel sl es.size → ∀ (A : Around) (s : Shared) (E' : Value → Shared → Prop) (Q' : Option (Value × Nat) → Shared → Prop), s.heap.get? a = some o → Q' none s → wpAny (model prog w) A (setNext a sl es.size ep) Q' E' s) →
      Q (.ref s.heap.objs.size) { s with heap := s.heap.push (itObj (.int 0 0) 0 a es.size ep) } := by
    intro zs ns Rel hz hi hpm h0 hs he
    have := h s.heap.objs.size zs ns [s.heap.objs.size, a] (fun i h => ∃ sl : Nat, Rel sl i ∧ h.get? s.heap.objs.size = some (itObj (.int sl 0) i a es.size ep) ∧ h.get? a = some o) (s.heap.push (itObj (.int 0 0) 0 a es.size ep)) s.drawn hi hpm
      (fun A' hh => by rw [hz]; exact walksI hd hf rfl zs Rel hz (Nat.ne_of_lt ha) hh hs he) ⟨0, h0, Heap.get?_push_size _ rfl, Heap.get?_push_of_some _ ho⟩ (fun b o e => Heap.get?_push_of_some _ e)
      (fun b hb => by
        rcases List.mem_cons.mp hb with rfl | hb
        · exact .inr (Nat.le_refl _)
        · exact .inl (List.mem_singleton.mp hb)) (Nat.le_refl _)
    exact this
  have mk : ∀ (first : Value) (s₁ : Shared) (d : Drawn), s₁.heap.get? a = some o → Q (.ref s₁.heap.objs.size) { s₁ with heap := s₁.heap.push (itObj first 0 a es.size ep) } →
      wpAny (model prog w) A.in1 (do
        let e ← setEpoch a
        let v ← newFields "set_iterator" [first, rawInt 0, .ref a, rawInt es.size, rawInt e]
        ret v) (fun fin s' => ∃ v, fin = Fin.done (Flow.ret v) ∧ ∃ T' r, s'.TypeIs v T' ∧ typeLookup (.type T') (Str.ofString "__next__") = pure (some r) ∧ Q v s') E s₁ := by
    intro first s₁ d ho₁ hq
    refine wpAny_bind (wpAny_setEpoch_of ho₁ hd hf ?_)
    refine wpAny_bind (wpAny_newObj_type ?_)
    exact wpAny_pure ⟨_, rfl, "set_iterator", _, ⟨_, Heap.get?_push_size _ rfl, rfl⟩, slot_setit_next.lookup, hq⟩
  split
  · rename_i hc
    refine wpAny_bind (draw_perm es.size (List.range es.size) s _ (by rw [List.length_range]) fun ps d hps' => ?_)
    have hpl : ps.length = es.size := by rw [hps'.length_eq, List.length_range]
    have hb4 : ks.length < 4096 := hb
    refine wpAny_bind (wpAny_newTuple ?_ (by rw [List.length_map, hpl, hn, sizeLine_eq]; omega))
    have hlt : ∀ j ∈ ps, j < es.size := fun j hj => List.mem_range.mp (hps'.mem_iff.mp hj)
    refine mk _ { s with heap := s.heap.push _, drawn := d } d (Heap.get?_push_of_some _ ho) ?_
    have hget : ∀ j, j < es.size → ∃ e, es[j]? = some e ∧ e ∈ es.toList := fun j hj => ⟨es[j], Array.getElem?_eq_getElem hj, by simp⟩
    have hmap : (ps.map fun j => es.toList.getD j (0, .none)).Perm es.toList := by
      refine (hps'.map _).trans (List.Perm.of_eq ?_)
      refine List.ext_getElem (by simp) fun i h1 h2 => ?_
      have h2' : i < es.size := by simpa using h2
      simp [List.getD, h2']
    have hI : IntsAre ((ps.map fun j => es.toList.getD j (0, .none)).map (·.2)) ((ps.map fun j => es.toList.getD j (0, .none)).map kOf) :=
      ints_of fun e he => hel e (hmap.mem_iff.mp he)
    have hT0 : (s.heap.push { cls := .type "tuple", data := .seq (ps.map fun (j : Nat) => rawInt j).toArray }).objs.size = s.heap.objs.size + 1 := Heap.size_push ..
    have := h (s.heap.objs.size + 1) _ _ [s.heap.objs.size + 1, a, s.heap.objs.size] (fun i h => h.get? (s.heap.objs.size + 1) = some (itObj (.ref s.heap.objs.size) i a es.size ep) ∧ h.get? a = some o ∧ h.get? s.heap.objs.size = some { cls := .type "tuple", data := .seq (ps.map fun (j : Nat) => rawInt j).toArray })
      ((s.heap.push { cls := .type "tuple", data := .seq (ps.map fun (j : Nat) => rawInt j).toArray }).push (itObj (.ref s.heap.objs.size) 0 a es.size ep)) d hI ((hmap.map kOf).trans hp)
      (fun A' hh => by
        rw [List.length_map, List.length_map, hpl]
        refine walksD hd hf rfl _ hpl (fun i hi => ?_) rfl (Nat.ne_of_lt (Nat.lt_succ_of_lt ha)) (Nat.ne_of_lt (Nat.lt_succ_self _)) hh
        have hi' : i < ps.length := by omega
        have hj := hlt ps[i] (List.getElem_mem hi')
        refine ⟨ps[i], es[ps[i]].1, es[ps[i]].2, List.getElem?_eq_getElem hi', Array.getElem?_eq_getElem hj, ?_⟩
        simp [hi', List.getD, hj])
      ⟨by rw [← hT0]; exact Heap.get?_push_size _ rfl, Heap.get?_push_of_some _ (Heap.get?_push_of_some _ ho), Heap.get?_push_of_some _ (Heap.get?_push_size _ rfl)⟩
      (fun b o e => Heap.get?_push_of_some _ (Heap.get?_push_of_some _ e))
      (fun b hb => by
        rcases List.mem_cons.mp hb with rfl | hb
        · exact .inr (Nat.le_succ _)
        · rcases List.mem_cons.mp hb with rfl | hb
          · exact .inl rfl
          · exact .inr (Nat.le_of_eq (List.mem_singleton.mp hb).symm)) (Nat.le_succ _)
    show Q (.ref (s.heap.push _).objs.size) _
    rw [hT0]
    exact this
  · rename_i hc
    refine wpAny_bind (wpAny_pure (mk _ s s.drawn ho ?_))
    rcases Bool.eq_false_or_eq_true (w.params.followText "set-order") with hb' | hb'
    · have hpk := pickOrder_perm (w.params.setOrder a ep) es
      refine intMode ((pickOrder (w.params.setOrder a ep) es).toList.map (·.2)) ((pickOrder (w.params.setOrder a ep) es).toList.map kOf) (fun _ _ => True) (by rw [List.length_map, hpk.length_eq, Array.length_toList])
        (ints_of fun e he => hel e (hpk.mem_iff.mp he)) ((hpk.map kOf).trans hp) trivial (fun i sl x _ hx => ⟨sl, trivial, fun A s E' Q' ho' hq => ?_⟩) (fun sl _ A s E' Q' ho' hq => ?_)
      · refine setNext_text hb' ho' hd hf ?_
        rw [List.getElem?_map, Array.getElem?_toList] at hx
        cases he : (pickOrder (w.params.setOrder a ep) es)[i]? with
        | none => rw [he] at hx; cases hx
        | some e =>
          rw [he] at hx
          simp only [Option.map_some, Option.some.injEq] at hx
          rw [Option.map_some, hx]
          exact hq
      · refine setNext_text hb' ho' hd hf ?_
        rw [Array.getElem?_eq_none (by rw [← Array.length_toList, hpk.length_eq, Array.length_toList]; exact Nat.le_refl _)]
        exact hq
    · have hl : t.led = true ∧ Rise t.place := by
        rcases hg with hg | hg
        · rw [hg] at hb'; cases hb'
        · exact hg
      have hdr : (!t.plain && decide (es.size > 1)) = false := by
        rw [hb'] at hc
        simpa using hc
      refine intMode (es.toList.map (·.2)) (es.toList.map kOf) (fun sl i => SetTable.below t.place sl = i) (by rw [List.length_map, Array.length_toList])
        (ints_of hel) hp (below_zero hl.2) (fun i sl x hr hx => ?_) (fun sl hr A s E' Q' ho' hq => ?_)
      · have hi : i < es.size := by
          rcases Nat.lt_or_ge i es.size with h | h
          · exact h
          · rw [List.getElem?_eq_none (by simpa using h)] at hx; cases hx
        have hip : i < t.place.size := by omega
        refine ⟨t.place.getD i 0 + 1, below_next hl.2 hip, fun A s E' Q' ho' hq => ?_⟩
        refine setNext_slot hb' hdr hl.1 ho' hd hf ?_
        rw [hr, Array.getElem?_eq_getElem hi, Array.getElem?_eq_getElem hip]
        rw [List.getElem?_map, Array.getElem?_toList, Array.getElem?_eq_getElem hi] at hx
        simp only [Option.map_some, Option.some.injEq] at hx
        dsimp only
        rw [hx]
        have hg : t.place.getD i 0 = t.place[i] := by simp [Array.getD, hip]
        rw [← hg]
        exact hq
      · refine setNext_slot hb' hdr hl.1 ho' hd hf ?_
        rw [hr, Array.getElem?_eq_none (Nat.le_refl _)]
        exact hq
end
end
section
set_option maxRecDepth 100000
set_option maxHeartbeats 4000000

theorem items_eq {zs : List Value} {acc : Array Value} (h : ItemsOf (fun i v => zs[i]? = some v) acc zs.length) : acc.toList = zs := by
  refine List.ext_getElem (by rw [Array.length_toList]; exact h.1) fun i h1 h2 => ?_
  have : zs[i]? = some acc.toList[i] := h.2 i acc.toList[i] (by rw [← Array.getElem?_toList]; exact List.getElem?_eq_getElem h1)
  rw [List.getElem?_eq_getElem h2] at this
  exact (Option.some.inj this).symm

section
variable {prog : Program} {w : World} {A : Around} {E : Value → Shared → Prop} {s : Shared} {a I : Addr} {o : Obj} {ks : List Int}

theorem sx_extend {R : Result → Shared → Prop} (hh : A.handled = none) (ho : s.heap.get? a = some o) (hx : SetX w o ks) (hb : ks.length < scanBound) (S : Addr) (hSa : S ≠ a) (res : Value) (c₀ : Nat) (hS : s.heap.get? S = some { cls := .type "list", data := .seq #[] c₀ })
    (hR : ∀ h' tk d acc' c' zs ns, (∀ b o, b ≠ S → s.heap.get? b = some o → h'.get? b = some o) → h'.get? S = some { cls := .type "list", dict := none, data := .seq acc' c', slots := #[] } → acc'.toList = zs → IntsAre zs ns → ns.Perm ks → R (.ok (.ret res)) { s with heap := h', toks := tk, drawn := d }) :
    wpAny (model prog w) A.in1 (Builtin.List.listExtendWith (.ref S) (.ref a) res)
      (fun fin s' => match fin with | .done f => R (.ok f) s' | .again c' => c'.quiet = true ∧ codeAny (model prog w) A c' R s') (fun e s' => R (.error e) s') s := by
  have hb4 : ks.length < 4096 := hb
  unfold Builtin.List.listExtendWith
  refine wpAny_bind (wpAny_typeOf (T := "set") ⟨o, ho, hx.1.1⟩ ?_)
  have h1 : Builtin.List.listSameRef (.ref S) (.ref a) = false := by simp [Builtin.List.listSameRef, hSa]
  have n1 : (Value.type "set" == Value.type "list") = false := by decide
  have n2 : (Value.type "set" == Value.type "tuple") = false := by decide
  simp only [h1, n1, n2, Bool.or_false, Bool.false_eq_true, if_false]
  refine wpAny_bind (sx_iter ho hx hb fun I zs ns fp St h' d hi hp hW st hk hfp hI => ?_)
  have hSlt := Heap.lt_size hS
  have hSI : S ≠ I := Nat.ne_of_lt (Nat.lt_of_lt_of_le hSlt hI)
  have hSf : S ∉ fp := fun hm => by
    rcases hfp S hm with e | e
    · exact hSa e
    · exact absurd hSlt (Nat.not_lt.mpr e)
  have hnl : zs.length ≤ sizeLine := by rw [hi.length, hp.length_eq, sizeLine_eq]; omega
  have W := hW A.in1 hh
  have key : ∀ (h₂ : Heap) (c₁ tk : Nat), St 0 h₂ → (∀ b o, b ≠ S → s.heap.get? b = some o → h₂.get? b = some o) →
      h₂.get? S = some { cls := .type "list", data := .seq #[] c₁ } → codeAny (model prog w) A (.builtin "list.extend.loop" ⟨[.ref S, .ref I, res], []⟩) R { s with heap := h₂, toks := tk, drawn := d } := by
    intro h₂ c₁ tk hst hk₂ hS₁
    refine codeAny_extend_loopS W.toS hnl S hSf res zs.length 0 _ #[] c₁ rfl (Nat.zero_le _) hst hS₁ (ItemsOf.nil _) fun s' acc' c' hm hS' hacc => ?_
    rw [Moved.eq_with hm]
    refine hR s'.heap s'.toks d acc' c' zs ns (fun b o hb e => hm.heap b o (fun hmem => ?_) (hk₂ b o hb e)) hS' (items_eq hacc) hi hp
    rcases List.mem_cons.mp hmem with e' | hmem
    · exact hb e'
    · exact absurd (Heap.lt_size e) (by rw [List.mem_singleton.mp hmem]; exact Nat.not_lt.mpr hI)
  refine wpAny_bind (wpAny_holding (sx_hint ⟨o, hk a _ ho, hx.1.1⟩ ?_))
  have hS₁ := hk S _ hS
  refine wpAny_ite_split (fun _ => ?_) (fun _ => wpAny_pure ⟨plainId_quiet PySem.F.plain_extend_loop _, key _ c₀ _ st (fun b o _ e => hk b o e) hS₁⟩)
  refine wpAny_bind (wpAny_rule ?_)
  refine wpAny_bind ?_
  show wpAny _ _ (updateSeq S (·.push .none) >>= fun _ => updateSeq S (·.pop)) _ _ _
  refine wpAny_bind (wpAny_updateSeq hS₁ rfl ?_)
  have hS₂ := Heap.get?_update_self (Obj.mapSeq (·.push Value.none)) hS₁ rfl
  refine wpAny_updateSeq (hz := by seq_fits) hS₂ rfl ?_
  have hS₃ := Heap.get?_update_self (Obj.mapSeq (·.pop)) hS₂ rfl
  refine wpAny_pure ⟨plainId_quiet PySem.F.plain_extend_loop _, key _ _ _ ?_ (fun b o hb e => ?_) hS₃⟩
  · refine W.frame 0 _ _ st fun b hb o e => ?_
    have hbS : b ≠ S := fun h => hSf (h ▸ hb)
    exact (Heap.get?_update_other _ _ (Ne.symm hbS)).trans ((Heap.get?_update_other _ _ (Ne.symm hbS)).trans e)
  · exact (Heap.get?_update_other _ _ (Ne.symm hb)).trans ((Heap.get?_update_other _ _ (Ne.symm hb)).trans (hk b o e))

theorem sx_collect {R : List Value → Shared → Prop} (hh : A.handled = none) (ho : s.heap.get? a = some o) (hx : SetX w o ks) (hb : ks.length < scanBound)
    (h : ∀ (h' : Heap) (tk : Nat) (d : Drawn) (zs : List Value) (ns : List Int), (∀ b o, s.heap.get? b = some o → h'.get? b = some o) → IntsAre zs ns → ns.Perm ks → R zs { s with heap := h', toks := tk, drawn := d }) :
    wpAny (model prog w) A (collect (.ref a)) R E s := by
  have hlt := Heap.lt_size ho
  unfold collect
  refine wpAny_bind (wpAny_runValue (codeAny_builtin entry_proto_collect' ?_))
  rw [Around.under_plainId PySem.F.plain_proto_collect _]
  show wpAny _ A.in1 (newList [] >>= fun l => again (.builtin "list.__iadd__" ⟨[l, .ref a], []⟩)) _ _ s
  refine wpAny_bind (wpAny_newObj_type ?_)
  refine wpAny_pure ⟨plainId_quiet PySem.F.plain_list_iadd _, codeAny_builtin entry_list_iadd' ?_⟩
  rw [Around.under_plainId PySem.F.plain_list_iadd _]
  have hS₁ : (s.heap.push { cls := .type "list", data := .seq ([] : List Value).toArray }).get? s.heap.objs.size = some { cls := .type "list", data := .seq #[] } := Heap.get?_push_size _ rfl
  show wpAny _ A.in1 (Builtin.List.listExtendWith (.ref s.heap.objs.size) (.ref a) (.ref s.heap.objs.size)) _ _ _
  have key := sx_extend (A := A) (prog := prog) (s := { s with heap := s.heap.push { cls := .type "list", data := .seq ([] : List Value).toArray } })
    (R := fun (q : Result) (s' : Shared) => ∃ (h' : Heap) (tk : Nat) (d : Drawn) (acc' : Array Value) (c' : Nat) (zs : List Value) (ns : List Int), q = .ok (.ret (.ref s.heap.objs.size)) ∧ s' = { s with heap := h', toks := tk, drawn := d } ∧
      (∀ b o, s.heap.get? b = some o → h'.get? b = some o) ∧ h'.get? s.heap.objs.size = some { cls := .type "list", dict := none, data := .seq acc' c', slots := #[] } ∧ acc'.toList = zs ∧ IntsAre zs ns ∧ ns.Perm ks)
    hh (Heap.get?_push_of_some _ ho) hx hb s.heap.objs.size (Nat.ne_of_gt hlt) (.ref s.heap.objs.size) 0 hS₁
    (fun h' tk d acc' c' zs ns hk hS' hz hi hp => ⟨h', tk, d, acc', c', zs, ns, rfl, rfl, fun b o e => hk b o (Nat.ne_of_lt (Heap.lt_size e)) (Heap.get?_push_of_some _ e), hS', hz, hi, hp⟩)
  refine wpAny_mono key (fun fin s' x => ?_) fun e s' x => ?_
  · cases fin with
    | done f =>
      obtain ⟨h', tk, d, acc', c', zs, ns, e, rfl, hk, hS', hz, hi, hp⟩ := x
      cases e
      show wpAny _ A (load s.heap.objs.size >>= _) _ _ _
      refine wpAny_bind (wpAny_load hS' ?_)
      exact wpAny_pure (by rw [hz]; exact h h' tk d zs ns hk hi hp)
    | again c₁ =>
      refine ⟨x.1, codeAny_mono x.2 fun q s₂ y => ?_⟩
      obtain ⟨h', tk, d, acc', c', zs, ns, rfl, rfl, hk, hS', hz, hi, hp⟩ := y
      show wpAny _ A (load s.heap.objs.size >>= _) _ _ _
      refine wpAny_bind (wpAny_load hS' ?_)
      exact wpAny_pure (by rw [hz]; exact h h' tk d zs ns hk hi hp)
  · obtain ⟨_, _, _, _, _, _, _, e', _⟩ := x
    cases e'

theorem sx_sorted {h₀ : Heap} {L : Addr} {m : Str → Option Value} {news : List (Addr × Obj)} {Q : Value → Shared → Prop} (hh : A.handled = none) (FR : Fr h₀ L s.heap m) (N : News h₀ L s.heap news) (hm : (a, o) ∈ news) (hx : SetX w o ks) (hb : ks.length < 64)
    (h : ∀ D vs' ns' c h' tk d, Fr h₀ L h' m → News h₀ L h' ((D, PySem.W.listOf vs'.toArray c) :: news) → (∀ q ∈ news, q.1 < D) → IntsAre vs' ns' → ns'.Perm ks → ns'.Pairwise (· ≤ ·) → Q (.ref D) { s with heap := h', toks := tk, drawn := d }) :
    wpAny (model prog w) A (call (.builtin "sorted") [.ref a]) Q E s := by
  have ho := (N _ hm).1
  have hb' : ks.length < scanBound := Nat.lt_trans hb (by decide)
  refine call_function_entry kind_sorted plain_sorted entry_sorted (args_sorted1 _) ?_
  unfold Builtin.«sorted»
  refine wpAny_bind (m := checkCount "sorted" 1 1 _) (wpAny_pure ?_)
  refine wpAny_bind (sx_collect (A := A.in1) hh ho hx hb' fun h' tk d zs ns hk hi hp => ?_)
  have hzl : zs.length < 64 := by rw [hi.length, hp.length_eq]; exact hb
  refine wpAny_bind (wpAny_newList ?_ (by rw [sizeLine_eq]; omega))
  have hoL : (h'.push (seqObj "list" zs.toArray 0)).get? h'.objs.size = some (seqObj "list" zs.toArray 0) := Heap.get?_push_size _ rfl
  refine wpAny_bind (wpAny_holding (wpAny_call_entry slot_list_sort ⟨_, hoL, rfl⟩ entry_list_sort (list_sort_tree hoL hi hzl fun out ns' a1 a2 a3 => ⟨_, rfl, ?_⟩) (args_list_sort _)))
  have hold : ∀ b o, h'.get? b = some o → (sortedHeap (h'.push (seqObj "list" zs.toArray 0)) h'.objs.size zs out).get? b = some o := fun b o e => by
    have hlt := Heap.lt_size e
    rw [sortedHeap_old (Nat.ne_of_lt hlt) (by rw [size_push']; exact Nat.lt_succ_of_lt hlt)]
    exact Heap.get?_push_of_some _ e
  obtain ⟨e, he⟩ := sortedHeap_at (out := out) hoL
  refine wpAny_pure ⟨_, rfl, h h'.objs.size out.toList ns' e _ tk d (FR.kept fun b o e => hold b o (hk b o e)) ?_ (fun q hq => Heap.lt_size (hk _ _ (N q hq).1)) a1 (a2.trans hp) a3⟩
  exact News.kept_cons (FR.keeps hk) (fun p hp => ⟨hk _ _ (N p hp).1, (N p hp).2⟩) hold (Nat.le_refl _) he
end
end
section
set_option maxRecDepth 100000
set_option maxHeartbeats 4000000

section
variable {prog : Program} {w : World} {A : Around} {E : Value → Shared → Prop} {s : Shared} {env : Env}
/-- a while loop by a state of its own, which may draw -/
def WStep {σ : Type} (h₀ : Heap) (L : Addr) (s : Shared) (Led : σ → List (Addr × Obj)) (stored : List Str) (P : Nat → σ → Prop) (m₀ : Str → Option Value) (n : Nat) (f : Flow) (s₃ : Shared) : Prop :=
  (f = .next ∨ f = .cont) ∧ ∃ (n' : Nat) (c : σ) (u : Str → Option Value) (h : Heap) (tk : Nat) (d : Drawn), n' < n ∧ s₃ = { s with heap := h, toks := tk, drawn := d } ∧ Fr h₀ L h (fun y => if stored.contains y then u y else m₀ y) ∧ News h₀ L h (Led c) ∧ P n' c
theorem WStep.intro {σ : Type} {h₀ : Heap} {L : Addr} {s : Shared} {Led : σ → List (Addr × Obj)} {stored : List Str} {P : Nat → σ → Prop} {m₀ m₂ : Str → Option Value} {n : Nat} {f : Flow} (n' : Nat) (c : σ) {h : Heap} {tk : Nat} {d : Drawn} (hf : f = .next ∨ f = .cont)
    (F : Fr h₀ L h m₂) (N : News h₀ L h (Led c)) (hm : ∀ y, stored.contains y = false → m₂ y = m₀ y) (hn : n' < n) (hp : P n' c) : WStep h₀ L s Led stored P m₀ n f { s with heap := h, toks := tk, drawn := d } := by
  refine ⟨hf, n', c, m₂, h, tk, d, hn, rfl, ?_, N, hp⟩
  have e : (fun y => if stored.contains y then m₂ y else m₀ y) = m₂ := by
    funext y
    cases hy : stored.contains y with
    | true => rfl
    | false => exact (hm y hy).symm
  rw [e]; exact F
theorem my_while {σ : Type} {h₀ : Heap} {L : Addr} {test : PySem.Expr} {body : List Stmt} {pos : Pos} {Q : Flow → Shared → Prop} {m₀ : Str → Option Value} (Led : σ → List (Addr × Obj)) (stored : List Str) (P : Nat → σ → Prop) (n₀ : Nat) (c₀ : σ)
    (F : Fr h₀ L s.heap m₀) (N : News h₀ L s.heap (Led c₀)) (hp : P n₀ c₀)
    (turn : ∀ (n : Nat) (c : σ) (u : Str → Option Value) (h : Heap) (tk : Nat) (d : Drawn), P n c → Fr h₀ L h (fun y => if stored.contains y then u y else m₀ y) → News h₀ L h (Led c) →
      wpAny (model prog w) A (isTrue test env (eval test env)) (fun b s₂ => if b = true then wpAny (model prog w) A (execs body env) (WStep h₀ L s Led stored P m₀ n) E s₂ else Q .next s₂) E { s with heap := h, toks := tk, drawn := d })
    (hE : PassesOwn (model prog w) A env E := by passes_own) : wpAny (model prog w) A (exec (.While test body [] pos) env) Q E s := by
  refine wpAny_While (codeAny_whileLoop (fun n s' => ∃ (c : σ) (u : Str → Option Value) (h : Heap) (tk : Nat) (d : Drawn), s' = { s with heap := h, toks := tk, drawn := d } ∧ Fr h₀ L h (fun y => if stored.contains y then u y else m₀ y) ∧ News h₀ L h (Led c) ∧ P n c) ?_ n₀
    ⟨c₀, m₀, s.heap, s.toks, s.drawn, rfl, by simp only [ite_self]; exact F, N, hp⟩)
  rintro n s₁ ⟨c, u, h, tk, d, rfl, F₁, N₁, hp₁⟩
  refine wpAny_mono (turn n c u h tk d hp₁ F₁ N₁) (fun b s₂ h₂ => ?_) hE
  cases b with
  | false =>
    simp only [Bool.false_eq_true, if_false] at h₂ ⊢
    exact wpAny_execs_nil h₂
  | true =>
    simp only [if_true] at h₂ ⊢
    refine wpAny_mono h₂ (fun f s₃ h₃ => ?_) hE
    obtain ⟨hf, n', c', u', h', tk', d', hn, rfl, F₂, N₂, hp₂⟩ := h₃
    rcases hf with rfl | rfl <;> exact ⟨n', hn, c', u', h', tk', d', rfl, F₂, N₂, hp₂⟩
end

section
variable {prog : Program} {w : World} {A : Around} {E : Value → Shared → Prop} {s : Shared} {h₀ : Heap} {L sa : Addr} {m : Str → Option Value} {news : List (Addr × Obj)} {g : Obj → List (Addr × Obj)} {so : Obj} {ks : List Int} {k : Int} {tk : Tok}
theorem sx_in_yes {Q : Value → Shared → Prop} (N : News h₀ L s.heap news) (U : UpdF sa so news g) (hx : SetX w so ks) (hb : ks.length < scanBound) (hk : k ∈ ks) (h : Q (.bool true) { s with toks := s.toks + 1 }) :
    wpAny (model prog w) A (compareOp .In (.int k tk) (.ref sa)) Q E s := sx_in N U hx hb (by rw [decide_eq_true hk]; exact h)
theorem sx_in_no {Q : Value → Shared → Prop} (N : News h₀ L s.heap news) (U : UpdF sa so news g) (hx : SetX w so ks) (hb : ks.length < scanBound) (hk : ¬ k ∈ ks) (h : Q (.bool false) { s with toks := s.toks + 1 }) :
    wpAny (model prog w) A (compareOp .In (.int k tk) (.ref sa)) Q E s := sx_in N U hx hb (by rw [decide_eq_false hk]; exact h)
theorem sx_true {Q : Bool → Shared → Prop} (N : News h₀ L s.heap news) (U : UpdF sa so news g) (hx : SetX w so ks) (hb : ks.length < scanBound) (hk : ks ≠ []) (h : Q true { s with toks := s.toks + 1 + 1 }) :
    wpAny (model prog w) A (truthy (.ref sa)) Q E s := sx_truthy N U hx hb (by cases ks with
      | nil => exact absurd rfl hk
      | cons => exact h)
theorem sx_false {Q : Bool → Shared → Prop} (N : News h₀ L s.heap news) (U : UpdF sa so news g) (hx : SetX w so []) (h : Q false { s with toks := s.toks + 1 + 1 }) :
    wpAny (model prog w) A (truthy (.ref sa)) Q E s := sx_truthy N U hx (by decide) h
end

theorem fit0 {ks : List Int} (h : ks.length ≤ 200) : ks.length + 1 < scanBound := by unfold scanBound; omega
theorem fit1 {ks : List Int} {k : Int} (h : ks.length ≤ 200) : (ks.erase k).length + 1 < scanBound := by have := List.length_erase_le (a := k) (l := ks); unfold scanBound; omega
theorem fit2 {ks : List Int} {k a : Int} (h : ks.length ≤ 200) : (if a ∈ ks.erase k then ks.erase k else a :: ks.erase k).length + 1 < scanBound := by
  have := List.length_erase_le (a := k) (l := ks); unfold scanBound; split
  · omega
  · rw [List.length_cons]; omega
/-! the plain side of the first loop -/
/-- all numbers of figures that the halving meets -/
def reachL (lim : Nat) : Nat → Nat → List Nat
  | 0, c => [c]
  | f + 1, c => c :: (if c ≤ lim then [] else reachL lim f (c / 2) ++ reachL lim f (c - c / 2))
def InR (lim c : Nat) (k : Int) : Prop := ∃ n : Nat, n ∈ reachL lim c c ∧ k = n
def Cov (lim : Nat) (ks1 ks3 : List Int) (k : Int) : Prop := k ∈ ks3 ∨ k ∈ ks1 ∨ k ≤ lim
/-- what holds before each turn -/
structure WInv (lim c : Nat) (ks1 ks2 ks3 : List Int) (n : Nat) : Prop where
  in3 : ∀ k ∈ ks3, InR lim c k
  in1 : ∀ k ∈ ks1, InR lim c k ∧ (lim : Int) < k
  top : Cov lim ks1 ks3 c
  cov : ∀ k ∈ ks1, Cov lim ks1 ks3 (k / 2) ∧ Cov lim ks1 ks3 (k - k / 2)
  need : ∀ z, z ∈ ks2 ↔ ∃ k ∈ ks1, z = k / 2
  s2 : ks2.length ≤ ks1.length
  s3 : ks3.length ≤ 1 + ks1.length
  s1 : ks1.length ≤ 60
  me : n = 2 * (61 - ks1.length) + ks3.length

theorem reach_self {lim : Nat} : ∀ (f c : Nat), c ∈ reachL lim f c
  | 0, _ => .head _
  | _ + 1, _ => .head _
theorem reach_le {lim : Nat} : ∀ (f c n : Nat), n ∈ reachL lim f c → n ≤ c
  | 0, c, n, h => by rw [reachL, List.mem_singleton] at h; omega
  | f + 1, c, n, h => by
    rw [reachL, List.mem_cons] at h
    rcases h with h | h
    · omega
    · split at h
      · cases h
      · rcases List.mem_append.mp h with h | h
        · have := reach_le f _ n h; omega
        · have := reach_le f _ n h; omega
theorem reach_next {lim : Nat} (hl : 1 ≤ lim) : ∀ (f c n : Nat), c ≤ f → n ∈ reachL lim f c → lim < n → n / 2 ∈ reachL lim f c ∧ n - n / 2 ∈ reachL lim f c
  | 0, c, n, hc, h, hn => by rw [reachL, List.mem_singleton] at h; omega
  | f + 1, c, n, hc, h, hn => by
    rw [reachL, List.mem_cons] at h
    rw [reachL]
    rcases h with h | h
    · subst h
      rw [if_neg (by omega)]
      exact ⟨.tail _ (List.mem_append_left _ (reach_self _ _)), .tail _ (List.mem_append_right _ (reach_self _ _))⟩
    · split at h
      · cases h
      · rename_i hcl
        rw [if_neg hcl]
        rcases List.mem_append.mp h with h | h
        · obtain ⟨a, b⟩ := reach_next hl f _ n (by omega) h hn
          exact ⟨.tail _ (List.mem_append_left _ a), .tail _ (List.mem_append_left _ b)⟩
        · obtain ⟨a, b⟩ := reach_next hl f _ n (by omega) h hn
          exact ⟨.tail _ (List.mem_append_right _ a), .tail _ (List.mem_append_right _ b)⟩
theorem asked_reach {lim : Nat} (hl : 1 ≤ lim) : ∀ (f c : Nat), c ≤ f → ∀ z : Int, z ∈ askedL lim f c ↔ ∃ n : Nat, n ∈ reachL lim f c ∧ lim < n ∧ z = ((n / 2 : Nat) : Int)
  | 0, c, hc, z => by
    rw [askedL, reachL]
    refine ⟨(fun h => nomatch h), ?_⟩
    rintro ⟨n, h, h2, _⟩
    rw [List.mem_singleton] at h; omega
  | f + 1, c, hc, z => by
    rw [askedL, reachL]
    by_cases hcl : c ≤ lim
    · rw [if_pos hcl, if_pos hcl]
      refine ⟨(fun h => nomatch h), ?_⟩
      rintro ⟨n, h, h2, _⟩
      rw [List.mem_singleton] at h; omega
    · rw [if_neg hcl, if_neg hcl, List.mem_cons, List.mem_append, asked_reach hl f (c / 2) (by omega) z, asked_reach hl f (c - c / 2) (by omega) z]
      constructor
      · rintro (h | ⟨n, h, r⟩ | ⟨n, h, r⟩)
        · exact ⟨c, .head _, by omega, h⟩
        · exact ⟨n, .tail _ (List.mem_append_left _ h), r⟩
        · exact ⟨n, .tail _ (List.mem_append_right _ h), r⟩
      · rintro ⟨n, h, r⟩
        rcases List.mem_cons.mp h with h | h
        · subst h; exact .inl r.2
        · rcases List.mem_append.mp h with h | h
          · exact .inr (.inl ⟨n, h, r⟩)
          · exact .inr (.inr ⟨n, h, r⟩)

theorem WInv.start {lim c : Nat} : WInv lim c [] [] [(c : Int)] 123 where
  in3 := fun k h => by rw [List.mem_singleton] at h; exact ⟨c, reach_self _ _, h⟩
  in1 := fun k h => nomatch h
  top := .inl (.head _)
  cov := fun k h => nomatch h
  need := fun z => ⟨(fun h => nomatch h), (fun ⟨k, h, _⟩ => nomatch h)⟩
  s2 := Nat.le_refl _
  s3 := Nat.le_refl _
  s1 := Nat.zero_le _
  me := rfl

theorem WInv.skip {lim c : Nat} {ks1 ks2 ks3 : List Int} {n : Nat} {k : Int} (I : WInv lim c ks1 ks2 ks3 n) (hk : k ∈ ks3) (h : k ∈ ks1 ∨ k ≤ lim) : WInv lim c ks1 ks2 (ks3.erase k) (2 * (61 - ks1.length) + (ks3.erase k).length) ∧ 2 * (61 - ks1.length) + (ks3.erase k).length < n := by
  have hl := List.length_erase_of_mem hk
  have hp : 0 < ks3.length := List.length_pos_of_mem hk
  have cv : ∀ j, Cov lim ks1 ks3 j → Cov lim ks1 (ks3.erase k) j := by
    rintro j (hj | hj)
    · by_cases e : j = k
      · subst e; exact .inr h
      · exact .inl ((List.mem_erase_of_ne e).mpr hj)
    · exact .inr hj
  refine ⟨⟨fun j hj => I.in3 j (List.mem_of_mem_erase hj), I.in1, cv _ I.top, fun j hj => ⟨cv _ (I.cov j hj).1, cv _ (I.cov j hj).2⟩, I.need, I.s2, ?_, I.s1, rfl⟩, ?_⟩
  · have := I.s3; omega
  · have := I.me; omega

def addK (ks : List Int) (k : Int) : List Int := if k ∈ ks then ks else k :: ks
theorem mem_addK {ks : List Int} {k j : Int} : j ∈ addK ks k ↔ j = k ∨ j ∈ ks := by
  unfold addK
  split
  · rename_i h
    exact ⟨.inr, fun h' => h'.elim (fun e => e ▸ h) id⟩
  · exact List.mem_cons
theorem len_addK {ks : List Int} {k : Int} : (addK ks k).length ≤ ks.length + 1 := by
  unfold addK
  split
  · omega
  · rw [List.length_cons]; omega

/-- a turn that takes k up: lo = k // 2 is wanted, both halves are to be looked at -/
theorem WInv.take {lim c : Nat} {ks1 ks2 ks3 ks3' : List Int} {n : Nat} {k lo : Int} (I : WInv lim c ks1 ks2 ks3 n) (hl : 1 ≤ lim) (hc60 : c ≤ 60) (hk : k ∈ ks3) (h1 : ¬ k ∈ ks1) (h2 : (lim : Int) < k) (hnd : (k :: ks1).Nodup) (hlo : lo = k / 2)
    (h3 : ∀ j, j ∈ ks3' ↔ j = k - lo ∨ j = lo ∨ j ∈ ks3.erase k) (hlen : ks3'.length ≤ ks3.length + 1) :
    WInv lim c (k :: ks1) (addK ks2 lo) ks3' (2 * (61 - (k :: ks1).length) + ks3'.length) ∧ 2 * (61 - (k :: ks1).length) + ks3'.length < n := by
  have hR := I.in3 k hk
  obtain ⟨m, hm, ekm⟩ := id hR
  have hlm : lim < m := by omega
  obtain ⟨r1, r2⟩ := reach_next hl c c m (Nat.le_refl _) hm hlm
  have cv : ∀ j, Cov lim ks1 ks3 j → Cov lim (k :: ks1) ks3' j := by
    rintro j (hj | hj | hj)
    · by_cases e : j = k
      · subst e; exact .inr (.inl (.head _))
      · exact .inl ((h3 j).mpr (.inr (.inr ((List.mem_erase_of_ne e).mpr hj))))
    · exact .inr (.inl (.tail _ hj))
    · exact .inr (.inr hj)
  have hb : (k :: ks1).length ≤ 60 := by
    have hsub : (k :: ks1) ⊆ (List.range 60).map fun i : Nat => ((i + 1 : Nat) : Int) := by
      intro j hj
      have : InR lim c j ∧ (lim : Int) < j := by
        rcases List.mem_cons.mp hj with e | hj
        · subst e; exact ⟨hR, h2⟩
        · exact I.in1 j hj
      obtain ⟨⟨q, hq, e⟩, h⟩ := this
      have := reach_le _ _ _ hq
      exact List.mem_map.mpr ⟨q - 1, List.mem_range.mpr (by omega), by omega⟩
    have := hnd.length_le_of_subset hsub
    rwa [List.length_map, List.length_range] at this
  refine ⟨⟨fun j hj => ?_, fun j hj => ?_, cv _ I.top, fun j hj => ?_, fun z => ?_, ?_, ?_, hb, rfl⟩, ?_⟩
  · rcases (h3 j).mp hj with e | e | hj
    · exact ⟨m - m / 2, r2, by omega⟩
    · exact ⟨m / 2, r1, by omega⟩
    · exact I.in3 j (List.mem_of_mem_erase hj)
  · rcases List.mem_cons.mp hj with e | hj
    · subst e; exact ⟨hR, h2⟩
    · exact I.in1 j hj
  · rcases List.mem_cons.mp hj with e | hj
    · subst e
      exact ⟨.inl ((h3 _).mpr (.inr (.inl hlo.symm))), .inl ((h3 _).mpr (.inl (by rw [hlo])))⟩
    · exact ⟨cv _ (I.cov j hj).1, cv _ (I.cov j hj).2⟩
  · rw [mem_addK, I.need z]
    constructor
    · rintro (e | ⟨j, hj, e⟩)
      · exact ⟨k, .head _, e.trans hlo⟩
      · exact ⟨j, .tail _ hj, e⟩
    · rintro ⟨j, hj, e⟩
      rcases List.mem_cons.mp hj with e' | hj
      · subst e'; exact .inl (e.trans hlo.symm)
      · exact .inr ⟨j, hj, e⟩
  · have := len_addK (ks := ks2) (k := lo)
    have := I.s2
    rw [List.length_cons]; omega
  · have := I.s3
    rw [List.length_cons]; omega
  · have := I.me
    rw [List.length_cons] at hb ⊢
    omega

theorem WInv.done {lim c : Nat} {ks1 ks2 : List Int} {n : Nat} (I : WInv lim c ks1 ks2 [] n) (hl : 1 ≤ lim) (z : Int) : z ∈ ks2 ↔ z ∈ askedL lim c c := by
  have all : ∀ (f m : Nat), Cov lim ks1 [] m → ∀ j : Nat, j ∈ reachL lim f m → lim < j → (j : Int) ∈ ks1 := by
    intro f
    have one : ∀ j : Nat, Cov lim ks1 [] j → lim < j → (j : Int) ∈ ks1 := by
      rintro j (h | h | h) hj
      · cases h
      · exact h
      · omega
    induction f with
    | zero =>
      intro m hm j hj hlj
      rw [reachL, List.mem_singleton] at hj
      subst hj; exact one j hm hlj
    | succ f ih =>
      intro m hm j hj hlj
      rw [reachL, List.mem_cons] at hj
      rcases hj with hj | hj
      · subst hj; exact one j hm hlj
      · split at hj
        · cases hj
        · rename_i hml
          have hm1 := one m hm (by omega)
          obtain ⟨c1, c2⟩ := I.cov _ hm1
          rcases List.mem_append.mp hj with hj | hj
          · exact ih (m / 2) (by rw [show ((m / 2 : Nat) : Int) = (m : Int) / 2 by omega]; exact c1) j hj hlj
          · exact ih (m - m / 2) (by rw [show ((m - m / 2 : Nat) : Int) = (m : Int) - (m : Int) / 2 by omega]; exact c2) j hj hlj
  rw [I.need z, asked_reach hl c c (Nat.le_refl _) z]
  constructor
  · rintro ⟨k, hk, e⟩
    obtain ⟨⟨q, hq, e2⟩, h⟩ := I.in1 k hk
    exact ⟨q, hq, by omega, by omega⟩
  · rintro ⟨q, hq, h, e⟩
    exact ⟨q, all c c I.top q hq h, by omega⟩
end
section
set_option maxRecDepth 100000
set_option maxHeartbeats 4000000

/-- the object that walks a list -/
def itL (l : Addr) (i : Nat) : Obj := { cls := .type "list_iterator", data := .fields #[.ref l, .int i 0] }

section
variable {prog : Program} {w : World} {A : Around} {E : Value → Shared → Prop} {s : Shared} {h₀ : Heap} {L l I : Addr} {m : Str → Option Value} {news : List (Addr × Obj)} {g : Obj → List (Addr × Obj)} {vs : List Value} {k i : Nat} {Q : Value → Shared → Prop}

theorem li_iter (FR : Fr h₀ L s.heap m) (N : News h₀ L s.heap news) (hm : (l, PySem.W.listOf vs.toArray k) ∈ news)
    (h : ∀ I h', Fr h₀ L h' m → News h₀ L h' ((I, itL l 0) :: news) → (∀ q ∈ news, q.1 < I) → Q (.ref I) { s with heap := h' }) :
    wpAny (model prog w) A (call (.builtin "iter") [.ref l]) Q E s := by
  refine call_function_entry (by decide +kernel) (by decide +kernel) kdk_entry_iter (kdk_args_iter _) ?_
  unfold Builtin.«iter»
  refine wpAny_bind (m := someArgs "iter" 1 2 _) (wpAny_of_eq (a := [Value.ref l]) (by first | rfl | kernel_rfl!) ?_)
  show wpAny _ _ (pyIter (.ref l) >>= _) _ _ _
  refine wpAny_bind (wpAny_pyIter_list (items := vs.toArray) ⟨_, (N _ hm).1, rfl, k, rfl⟩ ?_)
  exact wpAny_pure ⟨_, rfl, h _ _ (FR.push _) (News.push FR N _ rfl) fun q hq => Heap.lt_size (N q hq).1⟩

theorem li_next {x : Value} (FR : Fr h₀ L s.heap m) (N : News h₀ L s.heap news) (U : UpdF I (itL l i) news g) (hm : (l, PySem.W.listOf vs.toArray k) ∈ news) (hx : vs[i]? = some x)
    (h : ∀ h', Fr h₀ L h' m → News h₀ L h' (g (itL l (i + 1))) → Q x { s with heap := h' }) :
    wpAny (model prog w) A (call (.builtin "next") [.ref I]) Q E s := by
  obtain ⟨pre, post, hl, hg, a, b⟩ := U.split
  have hmem : (I, itL l i) ∈ news := by rw [hl]; exact List.mem_append_right _ (.head _)
  have hI := N (I, itL l i) hmem
  have hT : s.TypeIs (.ref I) "list_iterator" := ⟨_, hI.1, rfl⟩
  have hL := (N _ hm).1
  refine call_function_entry (by decide +kernel) (by decide +kernel) kdk_entry_next (kdk_args_next _) ?_
  unfold Builtin.«next»
  refine wpAny_bind (m := someArgs "next" 1 2 _) (wpAny_of_eq (a := [Value.ref I]) (by first | rfl | kernel_rfl!) ?_)
  dsimp only
  refine wpAny_bind (wpAny_specialOf (name := Str.ofString "__next__") hT slot_listiter_next.lookup ?_)
  refine wpAny_ite_split (fun hab => absurd hab (by decide)) (fun _ => ?_)
  refine wpAny_bind ?_
  refine wpAny_callSpecial?_slot (name := Str.ofString "__next__") hT slot_listiter_next
    (wpAny_call_entry slot_listiter_next hT entry_listiter_next ?_ (args_listiter_next _))
  show wpAny _ _ (field (.ref I) 0 >>= _) _ _ s
  refine wpAny_bind (wpAny_field hI.1 rfl (x := .ref l) rfl ?_)
  show wpAny _ _ (if (Value.ref l == Value.none) = true then _ else _) _ _ s
  rw [if_neg (show ¬ ((Value.ref l == Value.none) = true) from Bool.false_ne_true)]
  show wpAny _ _ (field (.ref I) 1 >>= _) _ _ s
  refine wpAny_bind (wpAny_field hI.1 rfl (x := .int i 0) rfl ?_)
  show wpAny _ _ (seqItems? (.ref l) >>= _) _ _ s
  refine wpAny_bind (wpAny_seqItems hL rfl ?_)
  have hx' : vs.toArray[i]? = some x := by simpa using hx
  simp only [Int.toNat_natCast, hx']
  have hup : (s.heap.update I (Obj.mapFields (·.setIfInBounds 1 (rawInt ((i : Int) + 1))))).get? I = some (itL l (i + 1)) := by
    rw [Heap.get?_update_self (Obj.mapFields (·.setIfInBounds 1 (rawInt ((i : Int) + 1)))) hI.1 rfl]
    show some (_ : Obj) = some (_ : Obj)
    congr 1
  refine wpAny_bind (wpAny_setField hI.1 rfl (by simp) (wpAny_pure ⟨x, rfl, ?_⟩))
  have hs : Heap.SameBut I s.heap (s.heap.update I (Obj.mapFields (·.setIfInBounds 1 (rawInt ((i : Int) + 1))))) := Heap.SameBut.update ..
  exact wpAny_pure ⟨_, rfl, h _ (FR.change hs hI.2.1 hI.2.2) (hg _ ▸ (show News h₀ L s.heap (pre ++ (I, itL l i) :: post) from hl ▸ N).setIn a b hs hup)⟩

theorem walks_shift {n : Nat} {fp wr : List Addr} {P : Nat → Value → Prop} {St : Nat → Heap → Prop} (W : Walks prog w A I fp wr (n + 1) P St) : Walks prog w A I fp wr n (fun i => P (i + 1)) (fun i => St (i + 1)) where
  sub := W.sub
  frame := fun i => W.frame (i + 1)
  item := fun i s Q E hi st hQ => W.item (i + 1) s Q E (by omega) st hQ
  done := W.done
  self := fun i => W.self (i + 1)
end

section
variable {prog : Program} {w : World} {A : Around} {E : Value → Shared → Prop} {s : Shared} {env : Env} {h₀ : Heap} {x : Str} {body : List Stmt} {Q : Flow → Shared → Prop}
/-- a loop over the rest of a list, by an iterator whose first item is taken -/
theorem kst_it {σ : Type} {l I : Addr} {vs : List Value} {f : Int} {ns : List Int} {k : Nat} {m₀ : Str → Option Value} {news : List (Addr × Obj)} (Led : σ → List (Addr × Obj)) (ps : σ → List (Str × Value)) (Facts : σ → Prop) (stored : List Str) (P : List Int → σ → Prop) (c₀ : σ)
    (hh : A.handled = none) (hI : (I, itL l 1) ∈ news) (hl : (l, W.listOf vs.toArray k) ∈ news) (hi : IntsAre vs (f :: ns)) (F : Fr h₀ env.locals s.heap m₀) (N : News h₀ env.locals s.heap news) (hle : ∀ q ∈ Led c₀, q ∈ news) (hfp : ∀ q ∈ Led c₀, q.1 ≠ I ∧ q.1 ≠ l) (hlI : l ≠ I)
    (hf : Facts c₀) (hk : ∀ p ∈ ps c₀, m₀ p.1 = some p.2) (hp : P [] c₀)
    (turn : ∀ (c : σ) pre post n t (u : Str → Option Value) h tk own, ns = pre ++ n :: post → OwnOff own ((Led c₀).map (·.1)) → Facts c → P pre c →
      Fr h₀ env.locals h (fun y => if y = x then some (.int n t) else kstB (fun z => if stored.contains z then u z else m₀ z) (ps c) y) → News h₀ env.locals h (Led c ++ own) →
      wpAny (model prog w) A (execs body env) (InvPostN h₀ env.locals (KstS Led ps Facts x stored m₀ P (pre ++ [n])) own ((Led c₀).map (·.1)) { s with heap := h, toks := tk } Q) E { s with heap := h, toks := tk })
    (done : ∀ (c : σ) (u : Str → Option Value) h tk, Facts c → P ns c → Fr h₀ env.locals h (fun y => if y = x then u y else kstB (fun z => if stored.contains z then u z else m₀ z) (ps c) y) → News h₀ env.locals h (Led c) → Q .next { s with heap := h, toks := tk }) :
    wpAny (model prog w) A (pyIter (.ref I)) (fun it s₂ => LoopAtV prog w A h₀ env x body Q E it s₂) E s := by
  have hIn := N _ hI
  have hln := N _ hl
  have hiter : s.heap.IsListIter I l 1 := ⟨_, hIn.1, rfl, rfl⟩
  have hlist : s.heap.IsList l vs.toArray := ⟨_, hln.1, rfl, k, rfl⟩
  have hsz : vs.toArray.size = ns.length + 1 := by rw [List.size_toArray, hi.length, List.length_cons]
  refine wpAny_pyIter_listiter hiter ?_
  have W0 := Walks.list (prog := prog) (w := w) hh I l hlI vs.toArray
  rw [hsz] at W0
  have W := walks_shift W0
  refine loop_invN (fun i m nx => KstS Led ps Facts x stored m₀ P (ns.take i) m nx) W ?_ ?_ ?_ ?_ ⟨hiter, hlist⟩ F (fun q hq => N q (hle q hq)) ⟨c₀, rfl, hf, hk, fun _ _ _ _ => rfl, by simpa using hp⟩ ?_ ?_
  · intro hm
    rcases List.mem_cons.mp hm with e | hm
    · exact hIn.2.1 e.symm
    · exact hln.2.1 (List.mem_singleton.mp hm).symm
  · intro b hb
    rw [List.mem_singleton.mp hb]
    exact hIn.2.2
  · intro q hq hI
    exact (hfp q hq).1 (List.mem_singleton.mp hI)
  · intro q hq hI
    rcases List.mem_cons.mp hI with e | hI
    · exact (hfp q hq).1 e
    · exact (hfp q hq).2 (List.mem_singleton.mp hI)
  · rintro i v m₁ nx h tk own hi' hv _ hoff ⟨c, rfl, hf', h1, h2, hp'⟩ F₁ N₁
    have hr : ns[i]? = some ns[i] := List.getElem?_eq_getElem hi'
    obtain ⟨t, ht⟩ := hi.get (i + 1) ns[i] (by simp)
    have hv' : vs[i + 1]? = some v := by simpa using hv
    rw [ht] at hv'
    cases hv'
    have hs : ns.take (i + 1) = ns.take i ++ [ns[i]] := by simp only [List.take_add_one, hr]; rfl
    have e : ns = ns.take i ++ ns[i] :: ns.drop (i + 1) := by
      have ht := List.take_append_drop (i + 1) ns
      rw [hs, List.append_assoc] at ht
      exact ht.symm
    rw [hs]
    exact turn c _ _ _ t m₁ h tk own e hoff hf' hp' (kst_fr h1 h2 F₁) N₁
  · rintro m₁ nx h tk ⟨c, rfl, hf', h1, h2, hp'⟩ F₁ N₁
    have hl : ns.take ns.length = ns := List.take_length
    rw [hl] at hp'
    exact done c m₁ h tk hf' hp' (kst_frOut h1 h2 F₁) N₁
end
end
section
set_option maxRecDepth 100000
set_option maxHeartbeats 4000000

theorem pow_sm {b : Int} (hb : b.natAbs ≤ 10) {k : Nat} (hk : k ≤ 120) : Sm (b ^ k) := by
  unfold Sm
  rw [Int.natAbs_pow]
  have h1 : b.natAbs ^ k ≤ 10 ^ k := Nat.pow_le_pow_left hb k
  have h2 : (10 : Nat) ^ k ≤ 10 ^ 120 := Nat.pow_le_pow_right (by decide) hk
  have h3 : (10 : Nat) ^ 120 < 2 ^ 1000 := by decide +kernel
  omega

/-- what a table of powers holds -/
def pw (b : Int) (l : List Int) : List (Int × Int) := l.map fun k => (k, b ^ k.toNat)
theorem pw_has (b : Int) (l : List Int) (k : Int) : kdfHas (pw b l) k = decide (k ∈ l) := by
  unfold kdfHas pw
  rw [Bool.eq_iff_iff, List.any_eq_true, decide_eq_true_eq]
  constructor
  · rintro ⟨p, hp, e⟩
    obtain ⟨j, hj, rfl⟩ := List.mem_map.mp hp
    simp only [decide_eq_true_eq] at e
    exact e ▸ hj
  · intro h
    exact ⟨_, List.mem_map.mpr ⟨k, h, rfl⟩, by simp⟩
theorem pw_look (b : Int) {l : List Int} {k : Int} (h : k ∈ l) : kdfLook (pw b l) k 0 = b ^ k.toNat := by
  unfold kdfLook pw
  cases hf : List.find? (fun p : Int × Int => decide (p.1 = k)) (l.map fun k => (k, b ^ k.toNat)) with
  | none =>
    exfalso
    have := List.find?_eq_none.mp hf (k, b ^ k.toNat) (List.mem_map.mpr ⟨k, h, rfl⟩)
    simp at this
  | some p =>
    have h1 := List.find?_some hf
    obtain ⟨j, hj, rfl⟩ := List.mem_map.mp (List.mem_of_find?_eq_some hf)
    simp only [decide_eq_true_eq] at h1
    subst h1
    rfl
theorem pw_put (b : Int) {l : List Int} {k v : Int} (h : ¬ k ∈ l) (hv : v = b ^ k.toNat) : kdfPut (pw b l) k v = pw b (l ++ [k]) := by
  unfold kdfPut
  have h1 := pw_has b l k
  unfold kdfHas at h1
  rw [h1, decide_eq_false h, if_neg Bool.false_ne_true, hv]
  unfold pw
  rw [List.map_append]
  rfl

/-- a power can be had from those at hand -/
def StepOk (acc : List Int) (k : Int) : Prop := (k - 1) ∈ acc ∨ (k / 2) ∈ acc
def RunOk : List Int → List Int → Prop
  | _, [] => True
  | acc, k :: r => StepOk acc k ∧ RunOk (acc ++ [k]) r
def RunAll : List Int → Prop
  | [] => True
  | f :: r => RunOk [f] r
theorem run_at : ∀ (acc pre : List Int) (k : Int) (post : List Int), RunOk acc (pre ++ k :: post) → StepOk (acc ++ pre) k
  | acc, [], k, post, h => by rw [List.append_nil]; exact h.1
  | acc, x :: pre, k, post, h => by
    have := run_at (acc ++ [x]) pre k post h.2
    rw [List.append_assoc] at this
    exact this
theorem run_snoc : ∀ (acc pre : List Int) (k : Int), RunOk acc pre → StepOk (acc ++ pre) k → RunOk acc (pre ++ [k])
  | acc, [], k, _, h => ⟨by rw [List.append_nil] at h; exact h, trivial⟩
  | acc, x :: pre, k, h1, h2 => ⟨h1.1, run_snoc (acc ++ [x]) pre k h1.2 (by rw [List.append_assoc]; exact h2)⟩

/-- the figures' numbers that are wanted, rising -/
def needL (lim c : Nat) : List Int := ((List.range c).map fun i : Nat => (i : Int)).filter fun z => decide (z ∈ askedL lim c c)
theorem asked_bound {lim c : Nat} (hl : 1 ≤ lim) {z : Int} (h : z ∈ askedL lim c c) : 1 ≤ z ∧ z < c := by
  obtain ⟨n, hn, h1, e⟩ := (asked_reach hl c c (Nat.le_refl _) z).mp h
  have := reach_le _ _ _ hn
  omega
theorem needL_mem {lim c : Nat} (hl : 1 ≤ lim) (z : Int) : z ∈ needL lim c ↔ z ∈ askedL lim c c := by
  unfold needL
  rw [List.mem_filter, decide_eq_true_eq, List.mem_map]
  constructor
  · exact fun h => h.2
  · intro h
    obtain ⟨h1, h2⟩ := asked_bound hl h
    exact ⟨⟨z.toNat, List.mem_range.mpr (by omega), by omega⟩, h⟩
theorem needL_lt (lim c : Nat) : (needL lim c).Pairwise (· < ·) := by
  unfold needL
  refine List.Pairwise.filter _ ?_
  rw [List.pairwise_map]
  exact List.Pairwise.imp (fun h => by omega) List.pairwise_lt_range
theorem sorted_unique : ∀ {a b : List Int}, a.Pairwise (· < ·) → b.Pairwise (· < ·) → (∀ z, z ∈ a ↔ z ∈ b) → a = b
  | [], [], _, _, _ => rfl
  | [], y :: b, _, _, h => nomatch (h y).mpr (.head _)
  | x :: a, [], _, _, h => nomatch (h x).mp (.head _)
  | x :: a, y :: b, ha, hb, h => by
    obtain ⟨a1, a2⟩ := List.pairwise_cons.mp ha
    obtain ⟨b1, b2⟩ := List.pairwise_cons.mp hb
    have hxy : x = y := by
      rcases List.mem_cons.mp ((h x).mp (.head _)) with e | e
      · exact e
      · rcases List.mem_cons.mp ((h y).mpr (.head _)) with e' | e'
        · exact e'.symm
        · have := b1 x e
          have := a1 y e'
          omega
    subst hxy
    have : a = b := sorted_unique a2 b2 fun z => by
      constructor
      · intro hz
        rcases List.mem_cons.mp ((h z).mp (.tail _ hz)) with e | e
        · have := a1 z hz; omega
        · exact e
      · intro hz
        rcases List.mem_cons.mp ((h z).mpr (.tail _ hz)) with e | e
        · have := b1 z hz; omega
        · exact e
    rw [this]
/-- sorted gives just that list -/
theorem sorted_need {lim c : Nat} {ks ns : List Int} (hl : 1 ≤ lim) (hk : ∀ z, z ∈ ks ↔ z ∈ askedL lim c c) (hnd : ks.Nodup) (hp : ns.Perm ks) (hs : ns.Pairwise (· ≤ ·)) : ns = needL lim c := by
  refine sorted_unique ?_ (needL_lt lim c) fun z => by rw [hp.mem_iff, hk z, needL_mem hl z]
  have h2 : ns.Pairwise (· ≠ ·) := hp.nodup_iff.mpr hnd
  exact List.Pairwise.imp (fun ⟨a, b⟩ => by omega) (hs.and h2)
end
section
set_option maxRecDepth 100000
set_option maxHeartbeats 4000000

local macro_rules | `(tactic| kse_small) => `(tactic| first | decide | exact fit0 (by with_reducible assumption) | exact fit1 (by with_reducible assumption) | exact fit2 (by with_reducible assumption) | exact Nat.lt_of_succ_lt (fit0 (by with_reducible assumption)))
local macro_rules | `(tactic| walk_at "call builtin:set.add") => `(tactic| (k_dflt (refine' sx_add ?F ?N ?U ?d ?z ?_; (case F => k_asm); (case N => k_asm); (case U => k_updF); (case d => k_asm); (case z => kse_small)); intro h' o' hz' F' N'; (try dsimp only at N')))
local macro_rules | `(tactic| walk_at "call type:set nil nil") => `(tactic| (k_dflt (refine sx_new (by k_asm) (by k_asm) ?_); intro d' o' h' hz' F' N' l1; (try k_lt l1)))


theorem my_pow {prog : Program} {w : World} {A : Around} {E : Value → Shared → Prop} {s : Shared} {a n z : Int} {t u : Tok} {Q : Value → Shared → Prop} (hz : a ^ n.toNat = z) (hn : 0 ≤ n) (hn2 : n ≤ 1000000) (ha : a.natAbs < 2 ^ 64)
    (h : Q (.int z s.toks) { s with toks := s.toks + 1 }) : wpAny (model prog w) A (binaryOp .Pow (.int a t) (.int n u)) Q E s := by subst hz; exact pow_int_small hn hn2 ha h
local macro_rules | `(tactic| walk_at "setItem ref int") => `(tactic| (k_dflt (refine' kdf_setItem ?F ?N ?U ?d ?f ?z ?_; (case F => k_asm); (case N => k_asm); (case U => k_updF); (case d => k_asm); (case f => k_asm); (case z => k_asm)); intro h' o' kvs' F' N' hd' hf'; (try dsimp only at N')))
local macro_rules | `(tactic| walk_at "exec For Name Name cons nil") => `(tactic| ((rename Fr _ _ _ _ => lF'); (with_unfolding_all refine' For_invVF lF' ?k1 ?k2 ?_; (case k1 => exact rfl); (case k2 => exact rfl); k_whole)))
theorem kd_in_yes {prog : Program} {w : World} {A : Around} {E : Value → Shared → Prop} {s : Shared} {h₀ : Heap} {L d : Addr} {news : List (Addr × Obj)} {o : Obj} {kvs : List (Int × Value)} {c : List (Int × Int)} {k : Int} {tk : Tok} {Q : Value → Shared → Prop}
    (N : News h₀ L s.heap news) (hm : (d, o) ∈ news) (lo : (d == sysModules) = false) (hd : o.IsDictOf (intKind prog w) kvs) (hf : PyProof.V.FlatPairs PyData.int kvs (kdfD c)) (hk : kdfHas c k = true) (h : Q (.bool true) { s with toks := s.toks + 1 }) :
    wpAny (model prog w) A (compareOp .In (.int k tk) (.ref d)) Q E s := kdf_in (TabAt.ofNews N hm lo hd hf) (by rw [hk]; exact h)
theorem kd_in_no {prog : Program} {w : World} {A : Around} {E : Value → Shared → Prop} {s : Shared} {h₀ : Heap} {L d : Addr} {news : List (Addr × Obj)} {o : Obj} {kvs : List (Int × Value)} {c : List (Int × Int)} {k : Int} {tk : Tok} {Q : Value → Shared → Prop}
    (N : News h₀ L s.heap news) (hm : (d, o) ∈ news) (lo : (d == sysModules) = false) (hd : o.IsDictOf (intKind prog w) kvs) (hf : PyProof.V.FlatPairs PyData.int kvs (kdfD c)) (hk : kdfHas c k = false) (h : Q (.bool false) { s with toks := s.toks + 1 }) :
    wpAny (model prog w) A (compareOp .In (.int k tk) (.ref d)) Q E s := kdf_in (TabAt.ofNews N hm lo hd hf) (by rw [hk]; exact h)
theorem my_imul {prog : Program} {w : World} {A : Around} {E : Value → Shared → Prop} {s : Shared} {a b z : Int} {t u : Tok} {Q : Value → Shared → Prop} (hz : a * b = z) (hm : IntMulOk a b)
    (h : Q (.int z s.toks) { s with toks := s.toks + 1 }) : wpAny (model prog w) A (inplaceOp .Mult (.int a t) (.int b u)) Q E s := by subst hz; exact imul_int h hm
theorem allLt_mem {d : Addr} {l : List (Addr × Obj)} (h : AllLt d l) : ∀ p ∈ l, p.1 < d := by
  induction l with
  | nil => intro p hp; exact nomatch hp
  | cons q r ih =>
    intro p hp
    rcases List.mem_cons.mp hp with e | hp
    · rw [e]; exact h.1
    · exact ih h.2 p hp
structure PS where
  od : Obj
  kvs : List (Int × Value)
structure WS where
  o1 : Obj
  o2 : Obj
  o3 : Obj
  ks1 : List Int
  ks2 : List Int
  ks3 : List Int

/-- a contract that tells of a raise too -/
def Ctr2 (w : World) (p : Program) (loose : List Str) (mean : ExcName → Option Value) (mg mb : Str → Option Value) (news : List (Addr × Obj)) (f : Addr) (vs : List Value) (dd uu : Nat)
    (ret : Heap → List Env → Heap → Addr → (Str → Option Value) → Shared → (Value → Shared → Prop) → (Value → Shared → Prop) → Prop) : Prop :=
  ∀ (dp un : Nat) (gd : Option (List Code)) (cn : Str) (cs : Scope) (a : Addr) (ccd : Value) (cl : List (Str × Addr)) (outer : List Env) (A₀ : Around) (base h₀ : Heap) (L : Addr) (m : Str → Option Value) (s : Shared) (Q E : Value → Shared → Prop),
    Below A₀ base outer h₀ → Fr h₀ L s.heap m → (hd.heap_39 w.params).In h₀ → CodeHd h₀ 42 38 → CodeHd h₀ 49 45 → News h₀ L s.heap news → Top p loose mean mg mb h₀ → cs.kind = .function →
    dp + dd < recursionLimit → un + uu < cLine → ret base (envX cn cs L a ccd cl :: outer) h₀ L m s Q E →
      wpAny (model PySem.Challenge.rw_wy0067_01.row.toRowW.prog w) (ktrTop dp un gd cn cs L a ccd cl outer) (call (.ref f) vs) Q E s
section
variable {w : World} {p : Program} {loose : List Str} {mean : ExcName → Option Value} {mg mb : Str → Option Value} {news : List (Addr × Obj)}

theorem pow_spec {c lim : Nat} {b ci li : Int} {ta tb tc : Tok} (hc : 1 ≤ c) (hc60 : c ≤ 60) (hci : ci = c) (hli : li = lim) (hl : 1 ≤ lim) (hb : b.natAbs ≤ 10) (hb0 : b ≠ 0) :
    Ctr2 w p loose mean mg mb news 22 [.int ci ta, .int b tb, .int li tc] 20 2000
    (fun base envs h₀ L m s Q E =>
      (RunAll (needL lim c) → ∀ D o kvs h' tk d, Fr h₀ L h' m → News h₀ L h' ((D, o) :: news) → o.IsDictOf (intKind PySem.Challenge.rw_wy0067_01.row.toRowW.prog w) kvs → PyProof.V.FlatPairs PyData.int kvs (kdfD (pw b (needL lim c))) → (D == sysModules) = false →
        (∀ p ∈ news, p.1 < D) → Q (.ref D) { s with heap := h', toks := tk, drawn := d }) ∧
      (¬ RunAll (needL lim c) → ∀ G e nx h' tk d, Fr h₀ L G m → RaisedSN base G envs e (.type "AssertionError") nx h' → (∀ p ∈ news, p ∈ nx) → G.UpToSlots h' → E (.ref e) { s with heap := h', toks := tk, drawn := d })) := by
  unfold Ctr2
  k_fill
  w_top off
  k_with_none
  k_with "truthy ref" => (k_dflt (first
        | (refine' sx_false ?zzN ?zzU ?zzd ?_; (case zzN => k_asm); (case zzU => k_updF); (case zzd => k_asm))
        | (refine' sx_true ?zzN ?zzU ?zzd ?zzz ?zzb ?_; (case zzN => k_asm); (case zzU => k_updF); (case zzd => k_asm); (case zzz => kse_small); (case zzb => k_asm))))
  k_with "getMethod ref" => ((with_reducible show wpAny _ _ (getMethod (Value.ref _) (Str.ofString "add") _) _ _ _); k_dflt (refine' sx_method_add ?zzN ?zzU ?zzd ?_; (case zzN => k_asm); (case zzU => k_updF); (case zzd => k_asm)))
  k_with "compareOp In int ref" => (k_dflt (first
        | (refine' sx_in_yes ?zzN ?zzU ?zzd ?zzz ?zzb ?_; (case zzN => k_asm); (case zzU => k_updF); (case zzd => k_asm); (case zzz => kse_small); (case zzb => k_asm))
        | (refine' sx_in_no ?zzN ?zzU ?zzd ?zzz ?zzb ?_; (case zzN => k_asm); (case zzU => k_updF); (case zzd => k_asm); (case zzz => kse_small); (case zzb => k_asm))))
  k_with "binaryOp RShift int int" => (refine my_rshift (by with_reducible assumption) (by first | with_reducible assumption | decide) ?_)
  k_with "binaryOp Pow int int" => (refine my_pow (by with_reducible assumption) (by with_reducible assumption) (by with_reducible assumption) (by with_reducible assumption) ?_)
  k_with "compareOp In int ref" => (k_dflt (first
        | (refine' kd_in_yes ?zzN ?zzm ?zzlo ?zzhd ?zzhf ?zzhk ?_; (case zzN => k_asm); (case zzlo => k_asm); (case zzhd => k_asm); (case zzhf => k_asm); (case zzm => k_mem); (case zzhk => k_asm))
        | (refine' kd_in_no ?zzN ?zzm ?zzlo ?zzhd ?zzhf ?zzhk ?_; (case zzN => k_asm); (case zzlo => k_asm); (case zzhd => k_asm); (case zzhf => k_asm); (case zzm => k_mem); (case zzhk => k_asm))))
  k_with "subscriptTail" => (k_dflt (refine' my_item ?zzN ?zzm ?zzlo ?zzhd ?zzhf ?zzhl ?_ ?zzk7; (case zzN => k_asm); (case zzlo => k_asm); (case zzhd => k_asm); (case zzhf => k_asm); (case zzm => k_mem); (case zzhl => k_asm); (case zzk7 => with_unfolding_all rfl)); intro _)
  k_with "inplaceOp Mult int int" => (refine my_imul (by with_reducible assumption) (by with_reducible assumption) ?_)
  k_with "binaryOp Mult int int" => (refine my_mul (by with_reducible assumption) (by with_reducible assumption) ?_)
  intro dp un gd cn cs a0 ccd cl outer A₀ base h₀ L m s Q E B F X C1 C2 N T hk hdp hun hret
  refine wpAny_call ?_
  k_dflt (refine' code_def ?k1 ?k2 ?k3 ?k4 ?k5 ?kA ?kF ?kK ?k6 ?k7 ?k8 ?k9 ?kB ?_ ?c2 ?c3 ?c4 ?c5; (case kA => exact rfl); (case kF => exact rfl); (case kK => assumption); (case k1 => k_asm); (case k2 => k_asm); (case k3 => k_asm); (case k4 => k_asm); (case k5 => k_asm); (case k6 => k_is); (case k7 => k_is); (case k8 => ktr_room); (case k9 => first | exact BindsTo.of_eq rfl | exact binds_K (by k_in) rfl (by k_is) rfl rfl rfl); (case c5 => decide); (case kB => exact locs rfl); (case c2 => exact rfl); (case c3 => exact rfl); (case c4 => exact rfl); k_whole; intro g' L' h' FG' F' N' B' X' T'; (try dsimp only); (try k_lift B'); (try k_fold))
  have C1' := CodeHd.keeps C1 FG'.keep
  have C2' := CodeHd.keeps C2 FG'.keep
  repeat' (first | ((fail_if_success (with_reducible show wpAny _ _ (eval (PySem.Expr.Set _ _ _) _) _ _ _)); first | (k_unfold; (try dsimp only)) | (k_end; wrow_close) | walk1 | (dsimp only; walk1) | (leave1; (try dsimp only))))
  rename_i d1 o1 h1 x1 l1 h1b d2 o2 h2 x2 l2 h2b F2b N2b
  (k_dflt (refine' sx_eval ?zzF ?zzN ?zzX ?zzc ?zzr ?zzu ?zzp ?zzl ?_; (case zzF => k_asm); (case zzN => first | k_asm | exact News.nil); (case zzX => k_asm); (case zzc => first | k_is | kernel_rfl!); (case zzr => kds_road); (case zzu => kds_road); (case zzp => kds_road); (case zzl => exact Nat.le_of_ble_eq_true rfl)))
  intro d3 o3' h3 x3' F3b N3b l3
  (try k_lt l3)
  (try dsimp only [KdsAll])
  repeat' (first | ((fail_if_success (with_reducible show wpAny _ _ (setAdd _ _) _ _ _)); first | (k_unfold; (try dsimp only)) | (k_end; wrow_close) | walk1 | (dsimp only; walk1) | (leave1; (try dsimp only))))
  (k_dflt (refine' sx_setAdd ?zzF ?zzN ?zzU ?zzd ?zzz ?_; (case zzF => k_asm); (case zzN => k_asm); (case zzU => k_updF); (case zzd => k_asm); (case zzz => first | decide | (unfold scanBound; omega))))
  intro h4 o3 x3 F4b N4b
  (try dsimp only at N4b)
  clear F3b N3b
  repeat' (first | ((fail_if_success (with_reducible show wpAny _ _ (exec (Stmt.While _ _ _ _) _) _ _ _)); first | (k_unfold; (try dsimp only)) | (k_end; wrow_close) | walk1 | (dsimp only; walk1) | (leave1; (try dsimp only))))
  rename_i h5 F5 N5
  rw [if_neg List.not_mem_nil] at x3
  refine my_while (σ := WS) (fun c => (d3, c.o3) :: (d2, c.o2) :: (d1, c.o1) :: news) [Str.ofString "w", Str.ofString "lo"] (fun n k => SetX w k.o1 k.ks1 ∧ SetX w k.o2 k.ks2 ∧ SetX w k.o3 k.ks3 ∧ WInv lim c k.ks1 k.ks2 k.ks3 n) 123 ⟨o1, o2, o3, [], [], [ci]⟩ F5 N5 ⟨x1, x2, x3, by rw [hci]; exact WInv.start⟩ ?turn (by first | passes_own | with_unfolding_all passes_own)
  · clear F5 N5 x1 x2 x3 x3'
    rintro n ⟨o1, o2, o3, ks1, ks2, ks3⟩ u h6 tk d ⟨x1, x2, x3, I⟩ F6 N6
    dsimp only at x1 x2 x3 I F6 N6
    (try k_unmd)
    (try k_fold)
    have z1 : ks1.length ≤ 200 := Nat.le_trans I.s1 (by decide)
    have z2 : ks2.length ≤ 200 := Nat.le_trans I.s2 z1
    have z3 : ks3.length ≤ 200 := Nat.le_trans I.s3 (by have := I.s1; omega)
    by_cases hks : ks3 = []
    · subst hks
      have hz2 : ks2.length < 64 := by have := I.s1; have := I.s2; omega
      by_cases hk2 : ks2 = []
      · subst hk2
        have hnil := sorted_need hl (I.done hl) .nil (List.Perm.refl []) .nil
        k_steps
        rename_i d4 h7 o4 lo4 hs4 fs4 hd4 hf4 l4 h8 tk8 h8b kF kN Tc kX
        rw [← hnil] at hret
        exact hret.1 trivial d4 o4 [] _ _ _ kF (kst_newsOf kN (List.forall_mem_cons.mpr ⟨by k_mem, fun p hp => by repeat (first | exact hp | refine List.mem_cons_of_mem _ ?_)⟩)) hd4 hf4 lo4 (allLt_mem l4.2.2.2)
      · repeat' (first | ((fail_if_success (with_reducible show wpAny _ _ (call (Value.builtin "sorted") _) _ _ _)); first | (k_unfold; (try dsimp only)) | (k_end; wrow_close) | walk1 | (dsimp only; walk1) | (leave1; (try dsimp only))))
        rename_i d4 h7 o4 lo4 hs4 fs4 hd4 hf4 l4 h8 F8b N8b
        ((with_unfolding_all refine' sx_sorted ?zzk1 ?zzk2 ?zzk3 ?zzk4 ?zzk5 ?zzk6 ?_; (case zzk1 => with_unfolding_all rfl); (case zzk2 => k_asm); (case zzk3 => k_asm); (case zzk4 => k_mem); (case zzk5 => k_asm); (case zzk6 => k_asm); k_whole))
        intro D5 v5 n5 c5 h9 t9 d9 F9 N9 l5 i5 p5 so5
        (try k_lt l5)
        clear F8b N8b
        repeat' (first | ((fail_if_success (with_reducible show wpAny _ _ (call (Value.builtin "iter") _) _ _ _)); first | (k_unfold; (try dsimp only)) | (k_end; wrow_close) | walk1 | (dsimp only; walk1) | (leave1; (try dsimp only))))
        have hdone := I.done hl
        have hnd2 := x2.2.choose_spec.choose_spec.choose_spec.2.2.2.1
        have hsn := sorted_need hl hdone hnd2 p5 so5
        clear hs4 fs4 x3 I hnd2
        obtain ⟨f, ns, rfl⟩ : ∃ f ns, n5 = f :: ns := by
          cases n5 with
          | nil => exact absurd p5.symm.eq_nil hk2
          | cons f ns => exact ⟨f, ns, rfl⟩
        obtain ⟨tf, vr, rfl⟩ : ∃ tf vr, v5 = .int f tf :: vr := by cases i5; exact ⟨_, _, rfl⟩
        have hget : (Value.int f tf :: vr)[0]? = some (.int f tf) := rfl
        have hbd : ∀ z ∈ f :: ns, 1 ≤ z ∧ z < c := fun z hz => asked_bound hl ((needL_mem hl z).mp (hsn ▸ hz))
        have hf1 := hbd f (.head _)
        have hf0 : 0 ≤ f := by omega
        have hf6 : f ≤ 1000000 := by omega
        have hb64 : b.natAbs < 2 ^ 64 := by omega
        have hd4' : PyProof.V.FlatPairs PyData.int [] (kdfD []) := hf4
        have hlen0 : ([] : List (Int × Int)).length ≤ 16777216 := by decide
        obtain ⟨bf, hbf⟩ : ∃ bf, b ^ f.toNat = bf := ⟨_, rfl⟩
        (k_dflt (refine li_iter (by k_asm) (by k_asm) (by k_mem) ?_))
        intro D6 h10 F10 N10 l6
        (try k_lt l6)
        clear F9 N9
        repeat' (first | ((fail_if_success (with_reducible show wpAny _ _ (call (Value.builtin "next") _) _ _ _)); first | (k_unfold; (try dsimp only)) | (k_end; wrow_close) | walk1 | (dsimp only; walk1) | (leave1; (try dsimp only))))
        (k_dflt (refine' li_next ?zzF ?zzN ?zzU ?zzp ?zzx ?_; (case zzF => k_asm); (case zzN => k_asm); (case zzU => k_updF); (case zzp => k_mem); (case zzx => k_asm)))
        intro h12n F12n N12n
        (try dsimp only at N12n)
        repeat' (first | ((fail_if_success (with_reducible show wpAny _ _ (pyIter _) _ _ _)); first | (k_unfold; (try dsimp only)) | (k_end; wrow_close) | walk1 | (dsimp only; walk1) | (leave1; (try dsimp only))))
        rename_i h11 h12 h13 F13 N13 h14 o6 kvs6 F14 N14 hd6 hf6'
        clear F13 N13
        refine kst_it (σ := PS) (fun c => (d4, c.od) :: news) (fun _ => []) (fun _ => True) [Str.ofString "lo", Str.ofString "hi", Str.ofString "sq"]
          (fun pre k => RunOk [f] pre ∧ k.od.IsDictOf (intKind PySem.Challenge.rw_wy0067_01.row.toRowW.prog w) k.kvs ∧ PyProof.V.FlatPairs PyData.int k.kvs (kdfD (pw b (f :: pre)))) ⟨o6, kvs6⟩
          ?hh (.head _) (.tail _ (.head _)) i5 F14 N14 ?hle ?hfp ?hlI trivial ?hk ?hp ?turn2 ?done2
        case hh => with_unfolding_all rfl
        case hle => exact List.forall_mem_cons.mpr ⟨by k_mem, fun q hq => by repeat (first | exact hq | refine List.mem_cons_of_mem _ ?_)⟩
        case hfp => exact List.forall_mem_cons.mpr ⟨⟨Nat.ne_of_lt l6.2.1, Nat.ne_of_lt l5.1⟩, fun q hq => ⟨Nat.ne_of_lt (allLt_mem l6.2.2.2.2.2 q hq), Nat.ne_of_lt (allLt_mem l5.2.2.2.2 q hq)⟩⟩
        case hlI => exact Nat.ne_of_lt l6.1
        case hk => exact fun _ h => nomatch h
        case hp => exact ⟨trivial, hd6, by rw [← hbf] at hf6'; exact hf6'⟩
        case turn2 =>
          clear F14 N14 hd6 hf6'
          rintro ⟨od, kvs⟩ pre post n6 t6 u6 h15 tk6 own hns hoff _ ⟨hrun, hd7, hf7⟩ F15 N15
          dsimp only [kstB] at hd7 hf7 F15 N15
          rw [List.cons_append] at N15
          (try k_unmd)
          (try k_fold)
          have hn6 := hbd n6 (.tail _ (by rw [hns]; exact List.mem_append_right _ (.head _)))
          have hne := ne_app (o := od) (allLt_mem l4.2.2.2) hoff
          have hlt := needL_lt lim c
          rw [← hsn, hns] at hlt
          have hnot : ¬ n6 ∈ f :: pre := fun hm => by
            have h1 : ((f :: pre) ++ n6 :: post).Pairwise (· < ·) := hlt
            have := (List.pairwise_append.mp h1).2.2 n6 hm n6 (.head _)
            omega
          have hsz : (pw b (f :: pre)).length ≤ 16777216 := by
            have : ((f :: pre) ++ n6 :: post).length ≤ 60 := by
              have e : (f :: pre) ++ n6 :: post = needL lim c := by rw [← hsn, hns]; rfl
              rw [e]
              unfold needL
              exact Nat.le_trans (List.length_filter_le _ _) (by rw [List.length_map, List.length_range]; exact hc60)
            rw [List.length_append] at this
            unfold pw; rw [List.length_map]; omega
          have hitem : ∀ k ∈ f :: pre, lookup (.int k) (kdfD (pw b (f :: pre))) = some (.int (b ^ k.toNat)) := fun k hk => by
            have := kdfD_item (c := pw b (f :: pre)) (k := k) (by rw [pw_has]; exact decide_eq_true hk)
            rw [pw_look b hk] at this
            exact this
          have hput := pw_put b hnot rfl
          obtain ⟨v, hv⟩ : ∃ v, b ^ n6.toNat = v := ⟨_, rfl⟩
          rw [hv] at hput
          have hvs : Sm v := hv ▸ pow_sm hb (by omega)
          have hbs : Sm b := by have := pow_sm hb (k := 1) (by decide); rwa [Int.pow_one] at this
          by_cases q1 : (n6 - 1) ∈ f :: pre
          · have hh1 : kdfHas (pw b (f :: pre)) (n6 - 1) = true := by rw [pw_has]; exact decide_eq_true q1
            have hit1 := hitem _ q1
            obtain ⟨v1, hv1⟩ : ∃ v1, b ^ (n6 - 1).toNat = v1 := ⟨_, rfl⟩
            rw [hv1] at hit1
            have hm1 : v1 * b = v := by
              rw [← hv1, ← hv, ← Int.pow_succ]; congr 1; omega
            have hmo : IntMulOk v1 b := sm_mul (hv1 ▸ pow_sm hb (by omega)) hbs
            repeat' (first | ((fail_if_success (with_reducible show InvPostN _ _ _ _ _ _ _ _ _)); first | (k_unfold; (try dsimp only)) | (k_end; wrow_close) | walk1 | (dsimp only; walk1) | (leave1; (try dsimp only))))
            rename_i h16 o7 kvs7 Fz Nz dz fz
            rw [hput] at fz
            exact kst_end (σ := PS) ⟨o7, kvs7⟩ Fz Nz (fun p hp => by rw [← List.cons_append]; exact List.mem_append_left _ hp) (fun p hp => List.mem_cons_of_mem _ (List.mem_append_right _ hp)) rfl trivial (fun _ h => nomatch h) (by intro z h1 h2 h3; simp only [List.contains_cons, List.contains_nil, Bool.or_false, beq_eq_false_iff_ne, ne_eq, Bool.or_eq_false_iff] at h3; simp only [h1, h3, if_false, List.contains_cons, List.contains_nil, Bool.or_false, beq_iff_eq, Bool.or_eq_true, false_or, or_false]) ⟨run_snoc [f] pre n6 hrun (.inl q1), dz, fz⟩
          · have hh1 : kdfHas (pw b (f :: pre)) (n6 - 1) = false := by rw [pw_has]; exact decide_eq_false q1
            have hlo : Int.fdiv n6 (2 ^ (1 : Int).toNat) = n6 / 2 := Int.fdiv_eq_ediv_of_nonneg _ (by decide)
            repeat' (first | ((fail_if_success (with_reducible show wpAny _ _ (exec (Stmt.Assert _ _ _) _) _ _ _)); first | (k_unfold; (try dsimp only)) | (k_end; wrow_close) | walk1 | (dsimp only; walk1) | (leave1; (try dsimp only))))
            by_cases q2 : (n6 / 2) ∈ f :: pre
            · have hh2 : kdfHas (pw b (f :: pre)) (n6 / 2) = true := by rw [pw_has]; exact decide_eq_true q2
              have hit2 := hitem _ q2
              obtain ⟨v2, hv2⟩ : ∃ v2, b ^ (n6 / 2).toNat = v2 := ⟨_, rfl⟩
              rw [hv2] at hit2
              obtain ⟨sq, hsq⟩ : ∃ sq, v2 * v2 = sq := ⟨_, rfl⟩
              have hm2 : v2 = v2 := rfl
              have hmo2 : IntMulOk v2 v2 := sm_mul (hv2 ▸ pow_sm hb (by omega)) (hv2 ▸ pow_sm hb (by omega))
              have hsq2 : sq = b ^ (2 * (n6 / 2).toNat) := by rw [← hsq, ← hv2, ← Int.pow_add]; congr 1; omega
              repeat' (first | ((fail_if_success (with_reducible show wpAny _ _ (exec (Stmt.If (PySem.Expr.Compare _ _ _ _) _ _ _) _) _ _ _)); first | (k_unfold; (try dsimp only)) | (k_end; wrow_close) | walk1 | (dsimp only; walk1) | (leave1; (try dsimp only))))
              by_cases hpar : n6 - n6 / 2 = n6 / 2
              · have hne1 : (n6 - n6 / 2 != n6 / 2) = false := by rw [hpar]; exact bne_self_eq_false _
                have hsv : sq = v := by rw [hsq2, ← hv]; congr 1; omega
                repeat' (first | ((fail_if_success (with_reducible show InvPostN _ _ _ _ _ _ _ _ _)); first | (k_unfold; (try dsimp only)) | (k_end; wrow_close) | walk1 | (dsimp only; walk1) | (leave1; (try dsimp only))))
                rename_i h16 o7 kvs7 Fz Nz dz fz
                rw [hsv, hput] at fz
                exact kst_end (σ := PS) ⟨o7, kvs7⟩ Fz Nz (fun p hp => by rw [← List.cons_append]; exact List.mem_append_left _ hp) (fun p hp => List.mem_cons_of_mem _ (List.mem_append_right _ hp)) rfl trivial (fun _ h => nomatch h) (by intro z h1 h2 h3; simp only [List.contains_cons, List.contains_nil, Bool.or_false, beq_eq_false_iff_ne, ne_eq, Bool.or_eq_false_iff] at h3; simp only [h1, h3, if_false, List.contains_cons, List.contains_nil, Bool.or_false, beq_iff_eq, Bool.or_eq_true, false_or, or_false]) ⟨run_snoc [f] pre n6 hrun (.inr q2), dz, fz⟩
              · have hne1 : (n6 - n6 / 2 != n6 / 2) = true := by rw [bne_iff_ne]; exact hpar
                have heq1 : (n6 - n6 / 2 == n6 / 2 + 1) = true := by rw [beq_iff_eq]; omega
                have hm3 : sq * b = v := by rw [hsq2, ← hv, ← Int.pow_succ]; congr 1; omega
                have hmo3 : IntMulOk sq b := sm_mul (hsq2 ▸ pow_sm hb (by omega)) hbs
                repeat' (first | ((fail_if_success (with_reducible show InvPostN _ _ _ _ _ _ _ _ _)); first | (k_unfold; (try dsimp only)) | (k_end; wrow_close) | walk1 | (dsimp only; walk1) | (leave1; (try dsimp only))))
                rename_i h16 o7 kvs7 Fz Nz dz fz
                rw [hput] at fz
                exact kst_end (σ := PS) ⟨o7, kvs7⟩ Fz Nz (fun p hp => by rw [← List.cons_append]; exact List.mem_append_left _ hp) (fun p hp => List.mem_cons_of_mem _ (List.mem_append_right _ hp)) rfl trivial (fun _ h => nomatch h) (by intro z h1 h2 h3; simp only [List.contains_cons, List.contains_nil, Bool.or_false, beq_eq_false_iff_ne, ne_eq, Bool.or_eq_false_iff] at h3; simp only [h1, h3, if_false, List.contains_cons, List.contains_nil, Bool.or_false, beq_iff_eq, Bool.or_eq_true, false_or, or_false]) ⟨run_snoc [f] pre n6 hrun (.inr q2), dz, fz⟩
            · have hh2 : kdfHas (pw b (f :: pre)) (n6 / 2) = false := by rw [pw_has]; exact decide_eq_false q2
              have hbad : ¬ RunAll (needL lim c) := by
                rw [← hsn, hns]
                intro hr
                rcases run_at [f] pre n6 post hr with h | h
                · exact q1 h
                · exact q2 h
              repeat' (first | ((fail_if_success (with_reducible show wpAny _ _ (leaving _ _) _ _ _)); first | (k_unfold; (try dsimp only)) | (k_end; wrow_close) | walk1 | (dsimp only; walk1) | (leave1; (try dsimp only))))
              (k_dflt (refine' leave_newS ?zzk1 ?zzk0 ?zzk2 ?zzk3 ?_; (case zzk0 => assumption); (case zzk2 => assumption); (case zzk1 => assumption); (case zzk3 => k_asm); k_whole))
              intro h9l S9l R9l U9l
              (try dsimp only at S9l R9l U9l ⊢)
              (try k_steps)
              rename RaisedSN _ _ _ _ _ _ _ => S9
              rename Heap.UpToSlots _ _ => U9
              exact hret.2 hbad _ _ _ _ _ _ FG' S9 (fun p hp => .tail _ (List.mem_append_left _ hp)) U9
        case done2 =>
          clear F14 N14 hd6 hf6'
          rintro ⟨od, kvs⟩ u6 h15 tk6 _ ⟨hrun, hd7, hf7⟩ F15 N15
          dsimp only [kstB] at hrun hd7 hf7 F15 N15
          k_steps
          rename_i kF kN Tc kX
          rw [← hsn] at hret
          exact hret.1 hrun d4 od kvs _ _ _ kF kN hd7 hf7 lo4 (allLt_mem l4.2.2.2)
    · repeat' (first | ((fail_if_success (with_reducible show wpAny _ _ (getMethod _ _ _) _ _ _)); first | (k_unfold; (try dsimp only)) | (k_end; wrow_close) | walk1 | (dsimp only; walk1) | (leave1; (try dsimp only))))
      (k_dflt (refine' sx_method_pop ?zzN ?zzU ?zzd ?_; (case zzN => k_asm); (case zzU => k_updF); (case zzd => k_asm)))
      repeat' (first | ((fail_if_success (with_reducible show wpAny _ _ (call (Value.builtin "set.pop") _) _ _ _)); first | (k_unfold; (try dsimp only)) | (k_end; wrow_close) | walk1 | (dsimp only; walk1) | (leave1; (try dsimp only))))
      (k_dflt (refine' sx_pop ?zzF ?zzN ?zzU ?zzd ?zzb ?zzz ?_; (case zzF => k_asm); (case zzN => k_asm); (case zzU => k_updF); (case zzd => k_asm); (case zzb => k_asm); (case zzz => kse_small)))
      intro h7 o3n k tk7 d7 hk x3n F7b N7b
      (try dsimp only at N7b)
      clear F6 N6
      repeat' (first | ((fail_if_success (with_reducible show wpAny _ _ (compareOp CmpOp.In _ _) _ _ _)); first | (k_unfold; (try dsimp only)) | (k_end; wrow_close) | walk1 | (dsimp only; walk1) | (leave1; (try dsimp only))))
      rename_i h8 F7 N7
      have knd := x1.2.choose_spec.choose_spec.choose_spec.2.2.2.1
      by_cases h1 : k ∈ ks1
      · repeat' (first | ((fail_if_success (with_reducible show WStep _ _ _ _ _ _ _ _ _ _)); first | (k_unfold; (try dsimp only)) | (k_end; wrow_close) | walk1 | (dsimp only; walk1) | (leave1; (try dsimp only))))
        show WStep _ _ _ _ _ _ _ _ _ _
        obtain ⟨I', hn'⟩ := I.skip hk (.inl h1)
        exact WStep.intro (σ := WS) _ ⟨o1, o2, o3n, ks1, ks2, ks3.erase k⟩ (.inr rfl) F7 N7 (by
          intro y hy
          have e1 : y ≠ Str.ofString "w" := fun e => by subst e; exact absurd hy (by decide)
          have e2 : y ≠ Str.ofString "lo" := fun e => by subst e; exact absurd hy (by decide)
          simp only [e1, e2, if_false, hy, Bool.false_eq_true]) hn' ⟨x1, x2, x3n, I'⟩
      · by_cases h2 : k ≤ li
        · repeat' (first | ((fail_if_success (with_reducible show WStep _ _ _ _ _ _ _ _ _ _)); first | (k_unfold; (try dsimp only)) | (k_end; wrow_close) | walk1 | (dsimp only; walk1) | (leave1; (try dsimp only))))
          show WStep _ _ _ _ _ _ _ _ _ _
          obtain ⟨I', hn'⟩ := I.skip hk (.inr (by omega))
          exact WStep.intro (σ := WS) _ ⟨o1, o2, o3n, ks1, ks2, ks3.erase k⟩ (.inr rfl) F7 N7 (by
          intro y hy
          have e1 : y ≠ Str.ofString "w" := fun e => by subst e; exact absurd hy (by decide)
          have e2 : y ≠ Str.ofString "lo" := fun e => by subst e; exact absurd hy (by decide)
          simp only [e1, e2, if_false, hy, Bool.false_eq_true]) hn' ⟨x1, x2, x3n, I'⟩
        · have hlo : Int.fdiv k (2 ^ (1 : Int).toNat) = k / 2 := Int.fdiv_eq_ediv_of_nonneg _ (by decide)
          repeat' (first | ((fail_if_success (with_reducible show wpAny _ _ (binaryOp Operator.BitAnd _ _) _ _ _)); first | (k_unfold; (try dsimp only)) | (k_end; wrow_close) | walk1 | (dsimp only; walk1) | (leave1; (try dsimp only))))
          rename SetX w _ (if k ∈ ks1 then _ else _) => y1
          rename SetX w _ (if k / 2 ∈ ks2 then _ else _) => y2
          rename SetX w _ (if k / 2 ∈ ks3.erase k then _ else _) => y3
          have y1' := y1
          rw [if_neg h1] at y1'
          have hnd := y1'.2.choose_spec.choose_spec.choose_spec.2.2.2.1
          have hl3 := List.length_erase_of_mem hk
          have hlp : 0 < ks3.length := List.length_pos_of_mem hk
          have ha := len_addK (ks := ks3.erase k) (k := k / 2)
          repeat' (first | ((fail_if_success (with_reducible show WStep _ _ _ _ _ _ _ _ _ _)); first | (k_unfold; (try dsimp only)) | (k_end; wrow_close) | walk1 | (dsimp only; walk1) | (leave1; (try dsimp only))))
          · have hp' : Builtin.bitAnd k 1 ≠ 0 := by assumption
            rw [bitAnd_m1] at hp'
            show WStep _ _ _ _ _ _ _ _ _ _
            rename News _ _ _ _ => Nz
            rename Fr _ _ _ _ => Fz
            rename SetX w _ (if k / 2 + 1 ∈ _ then _ else _) => y4
            obtain ⟨I', hn'⟩ := I.take (lo := k / 2) (ks3' := addK (addK (ks3.erase k) (k / 2)) (k / 2 + 1)) hl hc60 hk h1 (by omega) hnd rfl (fun j => by rw [mem_addK, mem_addK, show k - k / 2 = k / 2 + 1 by omega]) (by have := len_addK (ks := addK (ks3.erase k) (k / 2)) (k := k / 2 + 1); omega)
            exact WStep.intro (σ := WS) _ ⟨_, _, _, k :: ks1, addK ks2 (k / 2), addK (addK (ks3.erase k) (k / 2)) (k / 2 + 1)⟩ (.inl rfl) Fz Nz (by
          intro y hy
          have e1 : y ≠ Str.ofString "w" := fun e => by subst e; exact absurd hy (by decide)
          have e2 : y ≠ Str.ofString "lo" := fun e => by subst e; exact absurd hy (by decide)
          simp only [e1, e2, if_false, hy, Bool.false_eq_true]) hn' ⟨y1', y2, y4, I'⟩
          · have hp' : Builtin.bitAnd k 1 = 0 := by assumption
            rw [bitAnd_m1] at hp'
            show WStep _ _ _ _ _ _ _ _ _ _
            rename News _ _ _ _ => Nz
            rename Fr _ _ _ _ => Fz
            obtain ⟨I', hn'⟩ := I.take (lo := k / 2) (ks3' := addK (ks3.erase k) (k / 2)) hl hc60 hk h1 (by omega) hnd rfl (fun j => by rw [mem_addK, show k - k / 2 = k / 2 by omega]; exact ⟨fun h => .inr h, fun h => h.elim .inl id⟩) (by omega)
            exact WStep.intro (σ := WS) _ ⟨_, _, _, k :: ks1, addK ks2 (k / 2), addK (ks3.erase k) (k / 2)⟩ (.inl rfl) Fz Nz (by
          intro y hy
          have e1 : y ≠ Str.ofString "w" := fun e => by subst e; exact absurd hy (by decide)
          have e2 : y ≠ Str.ofString "lo" := fun e => by subst e; exact absurd hy (by decide)
          simp only [e1, e2, if_false, hy, Bool.false_eq_true]) hn' ⟨y1', y2, y3, I'⟩
end
end
section
set_option maxRecDepth 100000
set_option maxHeartbeats 4000000

section
variable {prog : Program} {w : World} {A A₀ : Around} {s : Shared} {h₀ base : Heap} {L f : Addr} {m : Str → Option Value} {env : Env} {news : List (Addr × Obj)} {K : Frag} {p : Program} {loose : List Str} {mean : ExcName → Option Value} {mg mb : Str → Option Value}
/-- a call of a def that catches, from a frame with nothing beneath it -/
theorem code_try {R : Result → Shared → Prop} {name qual : Str} {params : Arguments} {body : List Stmt} {scope : Scope} {dV kV doc pm cdv ct oc : Value} {an od : Option Addr} {osl : Array (Option Value)} {args : Args} {binds : List (Str × Value)}
    (B : Below A₀ base [] h₀) (F : Fr h₀ L s.heap m) (X₀ : K.In h₀) (N : News h₀ L s.heap news) (T : Top p loose mean mg mb h₀) (hA : A.frames = some [env]) (hf : env.frame = some L) (hke : env.scope.kind = .function)
    (ho : K.lookup f = some ⟨oc, od, .func (fnOf name qual params body scope dV kV doc pm an cdv ct), osl⟩) (hcd : codeIn K cdv qual = true) (hroom : A.depth < recursionLimit)
    (hbind : BindsTo s (fnOf name qual params body scope dV kV doc pm an cdv ct) args binds) (hloc : ∀ y ∈ binds, scope.names.lookup y.1 = some .local)
    (h : ∀ g L' h₁, Fr h₀ L g m → Fr g L' h₁ (fun y => binds.reverse.lookup y) → News g L' h₁ news → Below A base [env] g → K.In g → Top p loose mean mg mb g → KtsDicts ([env].filterMap (·.frame)) g →
      wpAny (model prog w) (A.deeper (envOf qual scope L' f cdv)) (execs body (envOf qual scope L' f cdv))
        (fun fl s' => LeaveS0 ([env].filterMap (·.frame)) h₀ L m g R (match fl with | .ret v => v | _ => .none) s')
        (fun e s' => wpAny (model prog w) (A.deeper (envOf qual scope L' f cdv)) (leaving (envOf qual scope L' f cdv) e) (fun _ s'' => R (.error e) s'') (fun e' s'' => R (.error e') s'') s')
        { s with heap := h₁, toks := s.toks + binds.length })
    (hco : scope.isCoroutine = false) (hgen : scope.isGenerator = false) (hk : scope.kind = .function) (hcell : ∀ x ∈ scope.names, x.2 ≠ .cell) : codeAny (model prog w) A (.call (.ref f) args) R s := by
  obtain ⟨FG, BG, st, _⟩ := groundX (R := R) B F N hA hf hke
  have hfs : [env].filterMap (·.frame) = [L] := by simp [hf]
  have hmem : ∀ b, b ∈ [env].filterMap (·.frame) → b = L := fun b hb => by rw [hfs] at hb; exact List.mem_singleton.mp hb
  obtain ⟨oL, es, ep, hLg, hLd, hLk, hLf⟩ := id FG.ns
  have nL₀ : h₀.get? L = none := kts_self F
  have X := X₀.keeps F.keep
  refine codeAny_call_def (fd := fnOf name qual params body scope dV kV doc pm an cdv ct) (body := body) (binds := binds) hroom (X _ _ ho) rfl (T.nolimit.keeps F.keep) (codeRec_of X hcd) rfl hbind hcell hloc (fun h₁ hns hk₁ => ?_) hco hgen hk
  refine wpAny_mono (h _ s.heap.objs.size h₁ FG ⟨hns, fun b o e => hk₁ b o (of_hideAll _ e), Nat.le_of_eq (hideAll_size _ _)⟩
    (fun q hq => ⟨hk₁ _ _ (N q hq).1, Nat.ne_of_lt (Heap.lt_size (N q hq).1), hideAll_none _ (List.mem_map_of_mem hq)⟩) BG (X₀.keeps st) (T.keeps st) (fun b hb => by rw [hmem b hb]; exact ⟨oL, es, ep, hLg, hLd⟩)) (fun fl s' hl => ?_) fun _ _ y => y
  obtain ⟨g', L', m', news', T', F', N', k⟩ := hl
  obtain ⟨sl, hs⟩ := T'.up hLg
  refine k ⟨⟨_, es, ep, F'.keep _ _ hs, hLd, hLk, hLf⟩, fun b o e => F'.keep b o (T'.other b o (st b o e) fun q => ?_), F.above⟩ fun q hq => ⟨(N' q hq).1, fun e => ?_, ?_⟩
  · rw [hmem b q, nL₀] at e; cases e
  · have := (N' q hq).2.2
    rw [e, hs] at this; cases this
  · cases e : h₀.get? q.1 with
    | none => rfl
    | some o =>
      obtain ⟨sl', hs'⟩ := T'.up (st _ _ e)
      have := (N' q hq).2.2
      rw [hs'] at this; cases this
end

/-- a contract of a def that catches, called by the law itself -/
def CtrT (w : World) (p : Program) (loose : List Str) (mean : ExcName → Option Value) (mg mb : Str → Option Value) (news : List (Addr × Obj)) (f : Addr) (vs : List Value) (dd uu : Nat)
    (ret : Heap → Addr → (Str → Option Value) → Shared → (Value → Shared → Prop) → (Value → Shared → Prop) → Prop) : Prop :=
  ∀ (dp un : Nat) (gd : Option (List Code)) (cn : Str) (cs : Scope) (a : Addr) (ccd : Value) (cl : List (Str × Addr)) (A₀ : Around) (h₀ : Heap) (L : Addr) (m : Str → Option Value) (s : Shared) (Q E : Value → Shared → Prop),
    Below A₀ h₀ [] h₀ → Fr h₀ L s.heap m → (hd.heap_39 w.params).In h₀ → CodeHd h₀ 42 38 → CodeHd h₀ 49 45 → News h₀ L s.heap news → Top p loose mean mg mb h₀ → cs.kind = .function →
    dp + dd < recursionLimit → un + uu < cLine → ret h₀ L m s Q E →
      wpAny (model PySem.Challenge.rw_wy0067_01.row.toRowW.prog w) (ktrTop dp un gd cn cs L a ccd cl []) (call (.ref f) vs) Q E s

section
variable {w : World} {p : Program} {loose : List Str} {mean : ExcName → Option Value} {mg mb : Str → Option Value} {news : List (Addr × Obj)}

theorem refused_spec {c lim : Nat} {b ci li : Int} {ta tb tc : Tok} (hc : 1 ≤ c) (hc60 : c ≤ 60) (hci : ci = c) (hli : li = lim) (hl : 1 ≤ lim) (hb : b.natAbs ≤ 10) (hb0 : b ≠ 0) :
    CtrT w p loose mean mg mb news 92 [.int ci ta, .int b tb, .int li tc] 30 3000
    (fun h₀ L m s Q _ => ∀ (bo : Bool) h' tk d, (bo = true ↔ ¬ RunAll (needL lim c)) → Fr h₀ L h' m → News h₀ L h' news → Q (.bool bo) { s with heap := h', toks := tk, drawn := d }) := by
  unfold CtrT
  k_fill
  w_top off
  k_with_none
  intro dp un gd cn cs a0 ccd cl A₀ h₀ L m s Q E B F X C1 C2 N T hk hdp hun hret
  refine wpAny_call ?_
  k_dflt (refine' code_try ?k1 ?k2 ?k3 ?k4 ?k5 ?kA ?kF ?kK ?k6 ?k7 ?k8 ?k9 ?kB ?_ ?c2 ?c3 ?c4 ?c5; (case kA => exact rfl); (case kF => exact rfl); (case kK => assumption); (case k1 => k_asm); (case k2 => k_asm); (case k3 => k_asm); (case k4 => k_asm); (case k5 => k_asm); (case k6 => k_is); (case k7 => k_is); (case k8 => ktr_room); (case k9 => first | exact BindsTo.of_eq rfl | exact binds_K (by k_in) rfl (by k_is) rfl rfl rfl); (case c5 => decide); (case kB => exact locs rfl); (case c2 => exact rfl); (case c3 => exact rfl); (case c4 => exact rfl); k_whole; intro g' L' h' FG' F' N' B' X' T' D'; (try dsimp only); (try k_lift B'); (try k_fold))
  have C1' := CodeHd.keeps C1 FG'.keep
  have C2' := CodeHd.keeps C2 FG'.keep
  repeat' (first | ((fail_if_success (with_reducible show wpAny _ _ (call (Value.ref _) _) _ _ _)); first | (k_unfold; (try dsimp only)) | (k_end; wrow_close) | walk1 | (dsimp only; walk1) | (leave1; (try dsimp only))))
  k_dflt (refine' pow_spec (w := w) (c := c) (lim := lim) hc hc60 hci hli hl hb hb0 _ _ _ _ _ _ _ _ _ _ _ _ _ _ _ _ _ ?uB ?uF ?uX ?uC ?uD ?uN ?uT ?uk ?ud ?uu ?_; (case uB => k_asm); (case uF => k_asm); (case uX => k_asm); (case uC => k_asm); (case uD => k_asm); (case uN => k_asm); (case uT => k_asm); (case uk => first | exact rfl | assumption); (case ud => ktr_room); (case uu => ktr_units))
  refine ⟨fun hrun D o kvs h1 tk1 d1 F1 N1 hd1 hf1 lo1 hlt1 => ?_, fun hbad G e nx h1 tk1 d1 FG1 R1 hsub U1 => ?_⟩
  · k_steps
    rename_i kF kN Tc kX
    exact hret false _ _ _ ⟨(fun h => nomatch h), fun h => absurd hrun h⟩ kF (kst_newsOf kN fun p hp => .tail _ hp)
  · dsimp only
    refine caught_SN0 (T' := "AssertionError") (KF := hd.heap_39 w.params) (g₀ := g') R1 FG1 B' U1 X T D' KtsTurn.refl (by k_is) PyProof.Rows.Boot.«AssertionError» (by decide) PySem.F.isExc_AssertionError PySem.F.notTuple_AssertionError (by rw [isSubtype_type]; kernel_rfl) ?_ (hE := by first | passes_own | with_unfolding_all passes_own)
    intro h2 g2 T2 F2 N2 B2 X2 P2 D2
    k_steps
    rename_i kF kN Tc kX
    exact hret true _ _ _ ⟨fun _ => hbad, fun _ => rfl⟩ kF (kst_newsOf kN hsub)
end
end
section
set_option maxRecDepth 100000
set_option maxHeartbeats 4000000

section
variable {prog : Program} {w : World} {A : Around} {E : Value → Shared → Prop} {s : Shared} {h₀ : Heap} {L : Addr} {m : Str → Option Value} {news all : List (Addr × Obj)}
/-- enumerate of a list that the call has made -/
theorem my_enum {l : Addr} {vs : List Value} {ns : List Int} {k : Nat} {Q : Value → Shared → Prop} (hh : A.handled = none) (hm : (l, W.listOf vs.toArray k) ∈ all) (hi : IntsAre vs ns)
    (F : Fr h₀ L s.heap m) (N : News h₀ L s.heap all) (hsub : ∀ q ∈ news, q ∈ all ∧ q.1 ≠ l)
    (h : ∀ h' e, Fr h₀ L h' m → News h₀ L h' all → PairSrcL prog w A E h₀ L ItemKind.int ns (.ref e) { s with heap := h' } m news → Q (.ref e) { s with heap := h' }) :
    wpAny (model prog w) A (call (.type "enumerate") [.ref l]) Q E s := by
  have hln := N _ hm
  have hls : s.heap.IsList l vs.toArray := ⟨_, hln.1, rfl, k, rfl⟩
  have hl2 : l < s.heap.objs.size := Heap.lt_size hln.1
  have hLs : L < s.heap.objs.size := F.ns.lt
  have hab : h₀.objs.size ≤ L := F.above
  have ha := hi.areOf
  refine call_enumerate_list hls fun h' he hit hsz hk => ?_
  have F' : Fr h₀ L h' m := ⟨F.ns.keeps hk, fun b o e => hk b o (F.keep b o e), F.above⟩
  have N' : News h₀ L h' all := fun p hp => ⟨hk _ _ (N p hp).1, (N p hp).2⟩
  refine h h' _ F' N' fun env hL => ?_
  subst hL
  refine enumSrc (Draws.list (A := A.in1) hh s.heap.objs.size l (Nat.ne_of_lt hl2) vs.toArray) he ⟨hit, hls.at fun o e => hk l o e⟩ (Nat.succ_ne_self _) ?_ (by simp) ?_
    (Heap.get?_none_of_le (Nat.le_trans hab (Nat.le_of_lt (Nat.lt_succ_of_lt hLs)))) (Heap.get?_none_of_le (Nat.le_trans hab (Nat.le_of_lt hLs))) ?_ (by simp [hi.length]) (fun i x hx => ha.get i x (by simpa using hx)) F' (fun q hq => N' q (hsub q hq).1)
  · intro hm
    rcases List.mem_cons.mp hm with e | hm
    · exact Nat.succ_ne_self _ e
    · exact Nat.ne_of_gt (Nat.lt_succ_of_lt hl2) (List.mem_singleton.mp hm)
  · intro hm
    rcases List.mem_cons.mp hm with e | hm
    · exact Nat.ne_of_lt (Nat.lt_succ_of_lt hLs) e
    · rcases List.mem_cons.mp hm with e | hm
      · exact Nat.ne_of_lt hLs e
      · exact hln.2.1 (List.mem_singleton.mp hm).symm
  · intro b hb q hq e
    have hq1 : q.1 < s.heap.objs.size := Heap.lt_size (N q (hsub q hq).1).1
    rcases List.mem_cons.mp hb with e1 | hb
    · exact Nat.ne_of_gt (Nat.lt_succ_of_lt hq1) (e1.symm.trans e)
    · rcases List.mem_cons.mp hb with e1 | hb
      · exact Nat.ne_of_gt hq1 (e1.symm.trans e)
      · exact (hsub q hq).2 (e.symm.trans (List.mem_singleton.mp hb))
end
section
variable {prog : Program} {w : World} {A : Around} {E : Value → Shared → Prop} {s : Shared} {h₀ : Heap} {env : Env} {xi xc : Str} {body : List Stmt} {Q : Flow → Shared → Prop}
/-- what is kept from turn to turn -/
def EJ {σ : Type} (Led : σ → List (Addr × Obj)) (stored : List Str) (m₀ : Str → Option Value) (P : Nat → σ → Prop) (i : Nat) (m₁ : Str → Option Value) (nx : List (Addr × Obj)) : Prop :=
  ∃ (c : σ) (u : Str → Option Value), nx = Led c ∧ m₁ = (fun y => if stored.contains y then u y else m₀ y) ∧ P i c
/-- a loop over enumerate by a state of its own -/
theorem kst_enum {σ : Type} {ns : List Int} {xv : Value} {m₀ : Str → Option Value} (Led : σ → List (Addr × Obj)) (stored : List Str) (P : Nat → σ → Prop) (c₀ : σ) (S : PairSrc prog w A E h₀ env ItemKind.int ns xv s m₀ (Led c₀)) (hp : P 0 c₀)
    (turn : ∀ (i : Nat) (a : Int) (t ta : Tok) (c : σ) (u : Str → Option Value) h tk own, ns[i]? = some a → (∀ p ∈ own, ∀ q ∈ Led c₀, p.1 ≠ q.1) → (Led c).map (·.1) = (Led c₀).map (·.1) → P i c →
      Fr h₀ env.locals h (fun y => if y = xc then some (.int a ta) else if y = xi then some (.int i t) else if stored.contains y then u y else m₀ y) → News h₀ env.locals h (own ++ Led c) →
      wpAny (model prog w) A (execs body env) (LoopStep3 h₀ env.locals own (Led c) (EJ Led stored m₀ P (i + 1)) { s with heap := h, toks := tk } (fun v s' => Q (.ret v) s') fun s' => Q .next s') E { s with heap := h, toks := tk })
    (done : ∀ (c : σ) (u : Str → Option Value) h tk, P ns.length c → Fr h₀ env.locals h (fun y => if stored.contains y then u y else m₀ y) → News h₀ env.locals h (Led c) → Q .next { s with heap := h, toks := tk }) :
    wpAny (model prog w) A (pyIter xv) (fun it s₂ => PairAt3 prog w A h₀ env xi xc body Q E it s₂) E s := by
  refine S xi xc body Q (EJ Led stored m₀ P) ⟨c₀, m₀, rfl, by funext y; rw [ite_self], hp⟩ ?_ ?_
  · rintro i a t v m₁ news₁ s₁ own ⟨h, tk, rfl⟩ hg hv ⟨c, u, rfl, rfl, hp'⟩ hmap hoff F₁ N₁
    obtain ⟨ta, rfl⟩ := ItemKind.int_is hv
    exact turn i a t ta c u h tk own hg hoff hmap hp' F₁ N₁
  · rintro h' tk m' news' F' N' _ ⟨c, u, rfl, rfl, hp'⟩
    exact done c u h' tk hp' F' N'
theorem kst_enum_end {σ : Type} {Led : σ → List (Addr × Obj)} {stored : List Str} {m₀ m₂ : Str → Option Value} {P : Nat → σ → Prop} {i tk : Nat} {L : Addr} {h : Heap} {own news₁ nz : List (Addr × Obj)} {Qr : Value → Shared → Prop} {Qb : Shared → Prop} (c' : σ)
    (F : Fr h₀ L h m₂) (N : News h₀ L h nz) (hsub : ∀ p ∈ own ++ Led c', p ∈ nz) (hm : ∀ y, stored.contains y = false → m₂ y = m₀ y) (ha : (Led c').map (·.1) = news₁.map (·.1)) (hp : P i c') :
    LoopStep3 h₀ L own news₁ (EJ Led stored m₀ P i) s Qr Qb .next { s with heap := h, toks := tk } := by
  refine ⟨rfl, h, tk, m₂, Led c', rfl, F, kst_newsOf N hsub, ha, c', m₂, rfl, ?_, hp⟩
  funext y
  cases hy : stored.contains y with
  | true => rfl
  | false => exact hm y hy
end
theorem my_mod {prog : Program} {w : World} {A : Around} {E : Value → Shared → Prop} {s : Shared} {a b z : Int} {t u : Tok} {Q : Value → Shared → Prop} (hz : a.fmod b = z) (hb : b ≠ 0)
    (h : Q (.int z s.toks) { s with toks := s.toks + 1 }) : wpAny (model prog w) A (binaryOp .Mod (.int a t) (.int b u)) Q E s := by
  subst hz; exact mod_int hb h

theorem inv_up {c r : Int} {i : Nat} (h : c ≤ 31415 + 1000003 * i) (hr : 0 ≤ r ∧ r < 1000003) : c + r ≤ 31415 + 1000003 * ((i + 1 : Nat) : Int) := by omega
theorem inv_same {c : Int} {i : Nat} (h : c ≤ 31415 + 1000003 * i) : c ≤ 31415 + 1000003 * ((i + 1 : Nat) : Int) := by omega
theorem inv_low {a c r : Int} (h : a ≤ c) (hr : 0 ≤ r ∧ r < 1000003) : a ≤ c + r := by omega
theorem inv_end {n : Nat} {c : Int} (h : c ≤ 31415 + 1000003 * n) (hn : n ≤ 60) : c ≤ 100000000 := by omega
structure CS where
  os : List Value
  nn : Nat
  c0 : Int
  c1 : Int
  c2 : Int
section
variable {w : World} {p : Program} {loose : List Str} {mean : ExcName → Option Value} {mg mb : Str → Option Value} {news : List (Addr × Obj)}
theorem cells_spec {l : Addr} {vs : List Value} {ns : List Int} (hi : IntsAre vs ns) (hlen : ns.length ≤ 63) :
    CtrT w p loose mean mg mb news 71 [.ref l] 5 3000
    (fun h₀ L m s Q _ => h₀.IsList l vs.toArray ∧ ∀ D os nn c0 c1 c2 h' tk, Fr h₀ L h' m → News h₀ L h' ((D, W.listOf os.toArray nn) :: news) → (∀ q ∈ news, q.1 < D) → IntsAre os [c0, c1, c2] → (262 ≤ c0 ∧ c0 ≤ 100000000 ∧ 8 ≤ c1 ∧ c1 ≤ 100000000 ∧ 31415 ≤ c2 ∧ c2 ≤ 100000000) → Q (.ref D) { s with heap := h', toks := tk }) := by
  unfold CtrT
  k_fill
  w_top off
  k_with_none
  k_with "binaryOp Mod int int" => (refine my_mod (by with_reducible assumption) (by decide) ?_)
  intro dp un gd cn cs a0 ccd cl A₀ h₀ L m s Q E B F X C1 C2 N T hk hdp hun hret
  refine wpAny_call ?_
  k_dflt (refine' code_def ?k1 ?k2 ?k3 ?k4 ?k5 ?kA ?kF ?kK ?k6 ?k7 ?k8 ?k9 ?kB ?_ ?c2 ?c3 ?c4 ?c5; (case kA => exact rfl); (case kF => exact rfl); (case kK => assumption); (case k1 => k_asm); (case k2 => k_asm); (case k3 => k_asm); (case k4 => k_asm); (case k5 => k_asm); (case k6 => k_is); (case k7 => k_is); (case k8 => ktr_room); (case k9 => first | exact BindsTo.of_eq rfl | exact binds_K (by k_in) rfl (by k_is) rfl rfl rfl); (case c5 => decide); (case kB => exact locs rfl); (case c2 => exact rfl); (case c3 => exact rfl); (case c4 => exact rfl); k_whole; intro g' L' h' FG' F' N' B' X' T'; (try dsimp only); (try k_lift B'); (try k_fold))
  have C1' := CodeHd.keeps C1 FG'.keep
  have C2' := CodeHd.keeps C2 FG'.keep
  obtain ⟨hl, hret⟩ := hret
  have hl' : g'.IsList l vs.toArray := let ⟨o, ho, r⟩ := hl; ⟨o, FG'.keep _ _ ho, r⟩
  repeat' (first | ((fail_if_success (with_reducible show wpAny _ _ (call (Value.type _) _) _ _ _)); first | (k_unfold; (try dsimp only)) | (k_end; wrow_close) | walk1 | (dsimp only; walk1) | (leave1; (try dsimp only))))
  rename_i D h1 l1 X1 D2 ws h3 F3 N3 hI hC1 hC2 l2
  refine my_enum (news := (D, W.listOf _ 0) :: news) (by with_unfolding_all rfl) (.head _) hI F3 N3 (List.forall_mem_cons.mpr ⟨⟨.tail _ (.head _), Nat.ne_of_lt l2.1⟩, fun q hq => ⟨.tail _ (.tail _ hq), Nat.ne_of_lt (allLt_mem l2.2 q hq)⟩⟩) ?_
  intro h4 e4 F4 N4 S4
  refine kst_enum (σ := CS) (fun k => (D, W.listOf k.os.toArray k.nn) :: news) [Str.ofString "place", Str.ofString "number"]
    (fun i k => IntsAre k.os [k.c0, k.c1, k.c2] ∧ 262 ≤ k.c0 ∧ k.c0 ≤ 31415 + 1000003 * i ∧ 8 ≤ k.c1 ∧ k.c1 ≤ 31415 + 1000003 * i ∧ 31415 ≤ k.c2 ∧ k.c2 ≤ 31415 + 1000003 * i) ⟨_, _, 262, 8, 31415⟩ (PairSrcL.at S4 _ rfl) ⟨.cons _ _ (.cons _ _ (.cons _ _ .nil)), by dsimp only; omega⟩ ?turn3 ?done3
  · clear F3 N3 F4 N4 S4
    rintro i a t ta ⟨os, nn, c0, c1, c2⟩ u h5 tk5 own hget hoff hmap ⟨hos, b1, b2, b3, b4, b5, b6⟩ F5 N5
    dsimp only at hos hmap b1 b2 b3 b4 b5 b6 F5 N5
    (try k_unmd)
    (try k_fold)
    obtain ⟨t0, t1, t2, rfl⟩ : ∃ t0 t1 t2, os = [.int c0 t0, .int c1 t1, .int c2 t2] := by
      cases hos with | cons _ t0 h => cases h with | cons _ t1 h => cases h with | cons _ t2 h => cases h; exact ⟨_, _, _, rfl⟩
    have N6 := kst_newsOf (l' := (D, W.listOf [Value.int c0 t0, Value.int c1 t1, Value.int c2 t2].toArray nn) :: (news ++ own)) N5 (List.forall_mem_cons.mpr ⟨List.mem_append_right _ (.head _), fun p hp => (List.mem_append.mp hp).elim (fun h => List.mem_append_right _ (.tail _ h)) fun h => List.mem_append_left _ h⟩)
    clear N5
    have hne : ∀ p ∈ news ++ own, p.1 ≠ D := fun p hp => (List.mem_append.mp hp).elim (fun h => Nat.ne_of_lt (l1 p h)) fun h => hoff p h _ (.head _)
    obtain ⟨r, hr⟩ : ∃ r, Int.fmod a 1000003 = r := ⟨_, rfl⟩
    have hr0 : 0 ≤ r ∧ r < 1000003 := by
      rw [← hr, Int.fmod_eq_emod_of_nonneg _ (by decide)]
      exact ⟨Int.emod_nonneg _ (by decide), Int.emod_lt_of_pos _ (by decide)⟩
    have h3 : i % 3 = 0 ∨ i % 3 = 1 ∨ i % 3 = 2 := by omega
    have hfm : Int.fmod (i : Int) 3 = ((i % 3 : Nat) : Int) := by rw [Int.fmod_eq_emod_of_nonneg _ (by decide)]; omega
    have hsub : ∀ {o : Obj}, ∀ p ∈ own ++ (D, o) :: news, p ∈ (D, o) :: (news ++ own) := fun p hp => (List.mem_append.mp hp).elim (fun h => .tail _ (List.mem_append_right _ h)) fun h => (List.mem_cons.mp h).elim (fun e => e ▸ .head _) fun h => .tail _ (List.mem_append_left _ h)
    rcases h3 with h3 | h3 | h3
    · have hi3 : Int.fmod (i : Int) 3 = 0 := by rw [hfm, h3]; rfl
      repeat' (first | ((fail_if_success (with_reducible show LoopStep3 _ _ _ _ _ _ _ _ _ _)); first | (k_unfold; (try dsimp only)) | (k_end; wrow_close) | walk1 | (dsimp only; walk1) | (leave1; (try dsimp only))))
      rename News _ _ _ _ => Nz
      rename Fr _ _ _ _ => Fz
      rename_i hiz hlz hsz
      exact kst_enum_end (σ := CS) ⟨_, nn, c0 + r, c1, c2⟩ Fz Nz hsub (by
          intro y hy
          have e1 : y ≠ Str.ofString "place" := fun e => by subst e; exact absurd hy (by decide)
          have e2 : y ≠ Str.ofString "number" := fun e => by subst e; exact absurd hy (by decide)
          simp only [e1, e2, if_false, hy, Bool.false_eq_true]) rfl ⟨hiz, inv_low b1 hr0, inv_up b2 hr0, b3, inv_same b4, b5, inv_same b6⟩
    · have hi3 : Int.fmod (i : Int) 3 = 1 := by rw [hfm, h3]; rfl
      repeat' (first | ((fail_if_success (with_reducible show LoopStep3 _ _ _ _ _ _ _ _ _ _)); first | (k_unfold; (try dsimp only)) | (k_end; wrow_close) | walk1 | (dsimp only; walk1) | (leave1; (try dsimp only))))
      rename News _ _ _ _ => Nz
      rename Fr _ _ _ _ => Fz
      rename_i hiz hlz hsz
      exact kst_enum_end (σ := CS) ⟨_, nn, c0, c1 + r, c2⟩ Fz Nz hsub (by
          intro y hy
          have e1 : y ≠ Str.ofString "place" := fun e => by subst e; exact absurd hy (by decide)
          have e2 : y ≠ Str.ofString "number" := fun e => by subst e; exact absurd hy (by decide)
          simp only [e1, e2, if_false, hy, Bool.false_eq_true]) rfl ⟨hiz, b1, inv_same b2, inv_low b3 hr0, inv_up b4 hr0, b5, inv_same b6⟩
    · have hi3 : Int.fmod (i : Int) 3 = 2 := by rw [hfm, h3]; rfl
      repeat' (first | ((fail_if_success (with_reducible show LoopStep3 _ _ _ _ _ _ _ _ _ _)); first | (k_unfold; (try dsimp only)) | (k_end; wrow_close) | walk1 | (dsimp only; walk1) | (leave1; (try dsimp only))))
      rename News _ _ _ _ => Nz
      rename Fr _ _ _ _ => Fz
      rename_i hiz hlz hsz
      exact kst_enum_end (σ := CS) ⟨_, nn, c0, c1, c2 + r⟩ Fz Nz hsub (by
          intro y hy
          have e1 : y ≠ Str.ofString "place" := fun e => by subst e; exact absurd hy (by decide)
          have e2 : y ≠ Str.ofString "number" := fun e => by subst e; exact absurd hy (by decide)
          simp only [e1, e2, if_false, hy, Bool.false_eq_true]) rfl ⟨hiz, b1, inv_same b2, b3, inv_same b4, inv_low b5 hr0, inv_up b6 hr0⟩
  · clear F3 N3 F4 N4 S4
    rintro ⟨os, nn, c0, c1, c2⟩ u h5 tk5 ⟨hos, b1, b2, b3, b4, b5, b6⟩ F5 N5
    dsimp only at hos b1 b2 b3 b4 b5 b6 F5 N5
    have hl60 : (List.take 60 ns).length ≤ 60 := by omega
    k_steps
    rename_i kF kN Tc kX
    exact hret D os nn c0 c1 c2 _ _ kF kN l1 hos ⟨b1, inv_end b2 hl60, b3, inv_end b4 hl60, b5, inv_end b6 hl60⟩
end
end
section
set_option maxRecDepth 100000
set_option maxHeartbeats 4000000

/-! the plain law: which tables of powers fall -/
def askedN (lim : Nat) : Nat → Nat → List Nat
  | 0, _ => []
  | f + 1, c => if c ≤ lim then [] else c / 2 :: (askedN lim f (c / 2) ++ askedN lim f (c - c / 2))
theorem askedN_eq (lim : Nat) : ∀ (f c : Nat), askedL lim f c = (askedN lim f c).map fun i : Nat => (i : Int)
  | 0, _ => rfl
  | f + 1, c => by
    rw [askedL, askedN]
    by_cases h : c ≤ lim
    · rw [if_pos h, if_pos h]; rfl
    · rw [if_neg h, if_neg h, List.map_cons, List.map_append, askedN_eq lim f, askedN_eq lim f]
/-- the same as a number's bits: cheap to reckon -/
def askedM (lim : Nat) : Nat → Nat → Nat
  | 0, _ => 0
  | f + 1, c => if c ≤ lim then 0 else 2 ^ (c / 2) ||| (askedM lim f (c / 2) ||| askedM lim f (c - c / 2))
theorem askedM_bit (lim z : Nat) : ∀ (f c : Nat), (askedM lim f c).testBit z = true ↔ z ∈ askedN lim f c
  | 0, _ => by simp [askedM, askedN]
  | f + 1, c => by
    rw [askedM, askedN]
    by_cases h : c ≤ lim
    · rw [if_pos h, if_pos h]; simp
    · rw [if_neg h, if_neg h, Nat.testBit_or, Nat.testBit_or, Bool.or_eq_true, Bool.or_eq_true, Nat.testBit_two_pow, decide_eq_true_eq, askedM_bit lim z f, askedM_bit lim z f, List.mem_cons, List.mem_append]
      exact or_congr eq_comm Iff.rfl
def needN (lim c : Nat) : List Nat := (List.range c).filter fun z => (askedM lim c c).testBit z
def stepN (acc : List Nat) (k : Nat) : Bool := acc.any (fun j => Nat.beq (j + 1) k) || acc.any (Nat.beq (k / 2))
def runN : List Nat → List Nat → Bool
  | _, [] => true
  | acc, k :: r => stepN acc k && runN (acc ++ [k]) r
def runAllN : List Nat → Bool
  | [] => true
  | f :: r => runN [f] r
theorem needN_eq (lim c : Nat) : needL lim c = (needN lim c).map fun i : Nat => (i : Int) := by
  unfold needL needN
  rw [List.filter_map]
  congr 1
  refine List.filter_congr fun z _ => ?_
  rw [Bool.eq_iff_iff, askedM_bit, askedN_eq]
  simp only [Function.comp, decide_eq_true_eq]
  constructor
  · intro h
    obtain ⟨y, hy, e⟩ := List.mem_map.mp h
    have : y = z := by omega
    exact this ▸ hy
  · intro hy
    exact List.mem_map.mpr ⟨z, hy, rfl⟩
theorem stepN_eq (acc : List Nat) (k : Nat) : stepN acc k = true ↔ StepOk (acc.map fun i : Nat => (i : Int)) k := by
  unfold stepN StepOk
  rw [Bool.or_eq_true, List.any_eq_true, List.any_eq_true]
  simp only [Nat.beq_eq]
  constructor
  · rintro (⟨y, hy, e⟩ | ⟨y, hy, e⟩)
    · exact .inl (List.mem_map.mpr ⟨y, hy, by omega⟩)
    · exact .inr (List.mem_map.mpr ⟨y, hy, by omega⟩)
  · rintro (h | h)
    · obtain ⟨y, hy, e⟩ := List.mem_map.mp h
      exact .inl ⟨y, hy, by omega⟩
    · obtain ⟨y, hy, e⟩ := List.mem_map.mp h
      exact .inr ⟨y, hy, by omega⟩
theorem runN_eq : ∀ (l acc : List Nat), runN acc l = true ↔ RunOk (acc.map fun i : Nat => (i : Int)) (l.map fun i : Nat => (i : Int))
  | [], _ => ⟨fun _ => trivial, fun _ => rfl⟩
  | k :: r, acc => by
    rw [runN, Bool.and_eq_true, stepN_eq, runN_eq r, List.map_append]
    exact Iff.rfl
theorem runAllN_eq (l : List Nat) : runAllN l = true ↔ RunAll (l.map fun i : Nat => (i : Int)) := by
  cases l with
  | nil => exact ⟨fun _ => trivial, fun _ => rfl⟩
  | cons f r => exact runN_eq r [f]
/-- when the table falls -/
def fallsN (lim c : Nat) : Bool := (lim % 2 == 1) && decide (3 < lim) && (((List.range 6).map (· + 1)).any fun k => decide (lim * 2 ^ k < c) && decide (c < (lim + 1) * 2 ^ k))
theorem falls_half : ∀ c < 61, ∀ lim < 13, 1 ≤ lim → runAllN (needN lim c) = !fallsN lim c := by decide +kernel
theorem falls_up : ∀ c < 61, ∀ lim < 13, fallsN lim c = true → runAllN (needN (lim + 1) c) = true := by decide +kernel
theorem falls_all (c : Nat) (hc : c < 61) (lim : Nat) (hl : lim < 13) (h1 : 1 ≤ lim) : (runAllN (needN lim c) = !fallsN lim c) ∧ runAllN (needN (if fallsN lim c then lim + 1 else lim) c) = true := by
  refine ⟨falls_half c hc lim hl h1, ?_⟩
  cases h : fallsN lim c
  · rw [if_neg (by simp), falls_half c hc lim hl h1, h]; rfl
  · rw [if_pos rfl]; exact falls_up c hc lim hl h
theorem falls_run {lim c : Nat} (hc : c ≤ 60) (hl : 1 ≤ lim) (hl2 : lim ≤ 12) : (¬ RunAll (needL lim c) ↔ fallsN lim c = true) ∧ RunAll (needL (if fallsN lim c then lim + 1 else lim) c) := by
  obtain ⟨h1, h2⟩ := falls_all c (by omega) lim (by omega) hl
  rw [needN_eq, needN_eq, ← runAllN_eq, ← runAllN_eq]
  refine ⟨?_, h2⟩
  rw [h1]
  cases fallsN lim c <;> simp

theorem figs_top {b : Int} (hb : 0 < b) : ∀ (c : Nat) (n e : Int), figs b c (n - b ^ c * e) = figs b c n
  | 0, _, _ => rfl
  | c + 1, n, e => by
    rw [figs, figs]
    have h1 : (n - b ^ (c + 1) * e) = n + b * (-(b ^ c * e)) := by rw [Int.pow_succ, Int.mul_neg, Int.mul_comm (b ^ c) b, Int.mul_assoc]; rfl
    have h2 : (n - b ^ (c + 1) * e).fmod b = n.fmod b := by
      rw [h1, Int.fmod_eq_emod_of_nonneg _ (Int.le_of_lt hb), Int.fmod_eq_emod_of_nonneg _ (Int.le_of_lt hb), Int.add_mul_emod_self_left]
    have h3 : (n - b ^ (c + 1) * e).fdiv b = n.fdiv b - b ^ c * e := by
      rw [h1, Int.fdiv_eq_ediv_of_nonneg _ (Int.le_of_lt hb), Int.fdiv_eq_ediv_of_nonneg _ (Int.le_of_lt hb), Int.add_mul_ediv_left _ _ (by omega)]; omega
    rw [h2, h3, figs_top hb c]
theorem neg_pow_sign (b : Int) (k : Nat) : (-b) ^ k = if k % 2 = 1 then -(b ^ k) else b ^ k := by
  induction k with
  | zero => simp
  | succ k ih =>
    rw [Int.pow_succ, ih, Int.pow_succ]
    by_cases h : k % 2 = 1
    · rw [if_pos h, if_neg (by omega), Int.neg_mul_neg]
    · rw [if_neg h, if_pos (by omega), Int.mul_neg]

theorem fold_filter (p : Int → Prop) [DecidablePred p] : ∀ (ks acc : List Int), ks.foldl (fun (l : List Int) (k : Int) => if p k then l ++ [k] else l) acc = acc ++ ks.filter fun k => decide (p k)
  | [], acc => by simp
  | k :: ks, acc => by
    rw [List.foldl_cons, fold_filter p ks]
    by_cases h : p k
    · simp [List.filter_cons, h]
    · simp [List.filter_cons, h]
theorem between_nil {lim c : Nat} {x y : Int} (h1 : x = lim) (h2 : y = c) :
    ((rangeKs 1 6).foldl (fun (l : List Int) (k : Int) => if x * 2 ^ k.toNat < y ∧ y < (x + 1) * 2 ^ k.toNat then l ++ [k] else l) [] = []) ↔ (((List.range 6).map (· + 1)).any fun k => decide (lim * 2 ^ k < c) && decide (c < (lim + 1) * 2 ^ k)) = false := by
  subst h1 h2
  rw [fold_filter (fun k => (lim : Int) * 2 ^ k.toNat < (c : Int) ∧ (c : Int) < ((lim : Int) + 1) * 2 ^ k.toNat), List.nil_append, List.filter_eq_nil_iff, show rangeKs 1 6 = [1, 2, 3, 4, 5, 6] from rfl, show (List.range 6).map (· + 1) = [1, 2, 3, 4, 5, 6] from rfl, List.any_eq_false]
  have cast : ∀ k : Nat, ((lim : Int) * 2 ^ k < (c : Int) ∧ (c : Int) < ((lim : Int) + 1) * 2 ^ k) ↔ (lim * 2 ^ k < c ∧ c < (lim + 1) * 2 ^ k) := fun k => by
    rw [show (lim : Int) * 2 ^ k = ((lim * 2 ^ k : Nat) : Int) by push_cast; rfl, show ((lim : Int) + 1) * 2 ^ k = (((lim + 1) * 2 ^ k : Nat) : Int) by push_cast; rfl]
    omega
  simp only [List.forall_mem_cons, decide_eq_true_eq, Bool.and_eq_true]
  have t1 : (1 : Int).toNat = 1 := rfl
  have t2 : (2 : Int).toNat = 2 := rfl
  have t3 : (3 : Int).toNat = 3 := rfl
  have t4 : (4 : Int).toNat = 4 := rfl
  have t5 : (5 : Int).toNat = 5 := rfl
  have t6 : (6 : Int).toNat = 6 := rfl
  rw [t1, t2, t3, t4, t5, t6, cast, cast, cast, cast, cast, cast]
  simp
end
section
set_option maxRecDepth 100000
set_option maxHeartbeats 4000000

/-! lists of pairs of ints -/
def pr (p : Int × Int) : Dat := .tuple [.int p.1, .int p.2]
theorem pr_inj {a b : List (Int × Int)} (h : a.map pr = b.map pr) : a = b := by
  induction a generalizing b with
  | nil => cases b with | nil => rfl | cons => simp at h
  | cons x a ih =>
    cases b with
    | nil => simp at h
    | cons y b =>
      simp only [List.map_cons, List.cons.injEq] at h
      obtain ⟨h1, h2⟩ := h
      simp only [pr, Dat.tuple.injEq, List.cons.injEq, Dat.int.injEq, and_true] at h1
      obtain ⟨x1, x2⟩ := x
      obtain ⟨y1, y2⟩ := y
      rw [ih h2, show x1 = y1 from h1.1, show x2 = y2 from h1.2]
theorem pr_ok (l : List (Int × Int)) : ∀ d ∈ l.map pr, kqdOk 8 d = true := by
  intro d hd
  obtain ⟨x, _, rfl⟩ := List.mem_map.mp hd
  rfl

theorem dat_open {lo : Addr} {news : List (Addr × Obj)} : ∀ (kvs : List (Int × Value)) (c : List (Int × Int)) (vs : List Value) (tups : List (Addr × Obj)) (C : List Value → List (Addr × Obj) → Prop), PyProof.V.FlatPairs PyData.int kvs (kdfD c) →
    (∀ vs' tups', DatAll tups' vs' (c.map pr) → (∀ q ∈ tups', lo < q.1) → C (vs ++ vs') (tups' ++ tups)) → KdxOpen lo news (kvs.map fun p => (kyVal (PyData.int p.1), p.2)) vs tups C
  | [], c, vs, tups, C, hf, h => by
    cases c with
    | cons x c => exact nomatch (show PyProof.V.FlatPairs PyData.int [] ((PyData.int x.1, PyData.int x.2) :: kdfD c) from hf)
    | nil =>
      have := h [] [] .nil (fun _ h => nomatch h)
      rw [List.append_nil] at this
      exact this
  | (k, v) :: kvs, c, vs, tups, C, hf, h => by
    cases c with
    | nil => exact nomatch (show PyProof.V.FlatPairs PyData.int ((k, v) :: kvs) [] from hf)
    | cons x c =>
      obtain ⟨x1, x2⟩ := x
      have hf' : PyProof.V.FlatPairs PyData.int ((k, v) :: kvs) ((PyData.int x1, PyData.int x2) :: kdfD c) := hf
      cases hf' with
      | cons f r =>
        obtain ⟨t, rfl⟩ := f.int_inv
        refine KdxOpen.cons ?_
        intro a t' b1 b2 b3
        refine dat_open kvs c _ _ C r fun vs' tups' hd hlo => ?_
        have hh := h (Value.ref a :: vs') (tups' ++ [(a, ({ cls := .type "tuple", data := .seq #[Value.int k t', Value.int x2 t] } : Obj))])
          (.cons (.tuple (vs := [Value.int k t', Value.int x2 t]) (List.mem_append_right _ (.head _)) (.cons (.int _ _) (.cons (.int _ _) .nil))) (hd.mono fun p hp => List.mem_append_left _ hp))
          (fun q hq => (List.mem_append.mp hq).elim (hlo q) fun hq => by rw [show q = _ from List.mem_singleton.mp hq]; exact b1)
        rw [List.append_assoc] at hh ⊢
        exact hh
section
variable {prog : Program} {w : World} {A : Around} {E : Value → Shared → Prop} {s : Shared} {h₀ : Heap} {L v d : Addr} {m : Str → Option Value} {news : List (Addr × Obj)} {od : Obj} {kvs : List (Int × Value)} {c : List (Int × Int)} {Q : Value → Shared → Prop}
/-- list(d.items()) of a dict of ints -/
theorem list_items (hh : A.handled = none) (F : Fr h₀ L s.heap m) (N : News h₀ L s.heap news) (hvw : (v, { cls := .type "dict_items", data := .fields #[.ref d] }) ∈ news) (hmd : (d, od) ∈ news) (hod : od.IsDictOf (intKind prog w) kvs) (hf : PyProof.V.FlatPairs PyData.int kvs (kdfD c)) (hn : c.length ≤ 16777216)
    (h : ∀ B vs tups k h' tk, (∀ q ∈ news, q.1 < B) → (∀ q ∈ tups, B < q.1) → DatAll tups vs (c.map pr) → Fr h₀ L h' m → News h₀ L h' (tups ++ (B, listOf vs.toArray k) :: news) → Q (.ref B) { s with heap := h', toks := tk }) :
    wpAny (model prog w) A (call (.type "list") [.ref v]) Q E s := by
  have hl := hf.length
  rw [kdfD_length] at hl
  refine kdx_listN (enc := PyData.int) hh F N hvw hmd hod (by omega) (fun _ _ h => Value.isInt_shape h) rfl ?_
  intro B hB
  refine dat_open kvs c [] [] _ hf ?_
  intro vs tups hd hlo k h' tk _ F' N'
  rw [List.append_nil] at N'
  exact h B vs tups k h' tk hB hlo hd F' N'
end

/-- an element is made: a tuple more -/
def KcEl (news : List (Addr × Obj)) (d : Dat) (y : Value) (news' : List (Addr × Obj)) : Prop := ∃ a o, news' = (a, o) :: news ∧ DatIn [(a, o)] y d ∧ ∀ q ∈ news, q.1 ≠ a
theorem kc_el {news : List (Addr × Obj)} {a : Addr} {x1 x2 z1 z2 : Int} {t1 t2 : Tok} (h1 : x1 = z1) (h2 : x2 = z2) (h : ∀ q ∈ news, q.1 ≠ a) : KcEl news (pr (z1, z2)) (.ref a) ((a, ({ cls := .type "tuple", data := .seq [Value.int x1 t1, Value.int x2 t2].toArray } : Obj)) :: news) := by
  subst h1 h2
  exact ⟨a, _, rfl, .tuple (.head _) (.cons (.int _ _) (.cons (.int _ _) .nil)), h⟩
theorem kc_grow {tl news : List (Addr × Obj)} {a : Addr} {o : Obj} {ys : List Value} {l : List Dat} {y : Value} {d : Dat} (hd : DatAll tl ys l) (hoff : ∀ q ∈ tl, ∀ p ∈ news, p.1 ≠ q.1) (hy : DatIn [(a, o)] y d) (ha : ∀ q ∈ tl ++ news, q.1 ≠ a) :
    DatAll ((a, o) :: tl) (ys ++ [y]) (l ++ [d]) ∧ ∀ q ∈ (a, o) :: tl, ∀ p ∈ news, p.1 ≠ q.1 :=
  ⟨(hd.mono fun _ h => .tail _ h).append (.one (hy.mono fun p hp => by rw [List.mem_singleton.mp hp]; exact .head _)), List.forall_mem_cons.mpr ⟨fun p hp => ha p (List.mem_append_right _ hp), hoff⟩⟩

section
variable {prog : Program} {w : World} {A : Around} {h₀ : Heap} {L : Addr} {m : Str → Option Value} {env : Env} {ct elt : Expr} {x x₂ : Str} {scope : Scope} {cl : List (Str × Addr)} {s : Shared} {S : List (Addr × Obj) → Prop} {P : Nat → Value → Prop} {Fin : List Value → List (Addr × Obj) → Prop} {news : List (Addr × Obj)}
/-- a list of pairs, of a range's ints that pass a test -/
theorem kcd_range {n : Nat} {a : Int} (G : Int → Bool) (f : Int → Int × Int)
    (turn : ∀ k t I oI C oC D m₂ ys W h tk (E' : Value → Shared → Prop), a ≤ k → k < a + (n : Int) → (∀ p ∈ news, p ∈ W) → LCg.NsObj oC m₂ → m₂ x = some (.int k t) → Fr h₀ L h m → News h₀ L h ((I, oI) :: (C, oC) :: (D, LCg.lst ys) :: W) → LCg.Off3 I C D W → ((@Ne Nat I C) ∧ (@Ne Nat I D) ∧ (@Ne Nat C D)) →
      wpAny (model prog w) A (isTrue ct (compEnvC scope cl C env) (eval ct (compEnvC scope cl C env))) (fun b s' => if b = true then wpAny (model prog w) A (eval elt (compEnvC scope cl C env)) (LCg.CompEnd h₀ L m { s with heap := h, toks := tk } I oI C oC D (LCg.lst ys) (fun _ => True) (fun y news' => G k = true ∧ KcEl W (pr (f k)) y news')) E' s'
        else LCg.CompEnd h₀ L m { s with heap := h, toks := tk } I oI C oC D (LCg.lst ys) (fun _ => True) (fun _ news' => G k = false ∧ news' = W) Value.none s') E' { s with heap := h, toks := tk })
    (fin : ∀ ys tl, DatAll tl ys ((((rangeKs a n).filter G).map f).map pr) → (∀ q ∈ tl, ∀ p ∈ news, p.1 ≠ q.1) → Fin ys (tl ++ news)) :
    LCt.CompRestT prog w A h₀ L m env ct elt x scope cl s (fun _ => True) (fun i v => ∃ t, v = .int (a + (i : Int)) t) Fin n 0 [] news := by
  have key : ∀ (j i : Nat) (ys : List Value) (tl : List (Addr × Obj)), i + j = n → DatAll tl ys (((((rangeKs a n).take i).filter G).map f).map pr) → (∀ q ∈ tl, ∀ p ∈ news, p.1 ≠ q.1) → LCt.CompRestT prog w A h₀ L m env ct elt x scope cl s (fun _ => True) (fun i v => ∃ t, v = .int (a + (i : Int)) t) Fin j i ys (tl ++ news) := by
    intro j
    induction j with
    | zero =>
      intro i ys tl hi hy hoff
      refine LCt.CompRestT.zero (fin ys tl ?_ hoff)
      rw [List.take_of_length_le (by rw [rangeKs_length]; omega)] at hy
      exact hy
    | succ j ih =>
      intro i ys tl hi hy hoff
      refine LCt.CompRestT.succ ?_
      intro v I oI C oC D m₂ h tk E' hv hC hx F N off ne
      obtain ⟨t, rfl⟩ := hv
      have hs : (rangeKs a n).take (i + 1) = (rangeKs a n).take i ++ [a + (i : Int)] := by
        rw [List.take_add_one]
        congr 1
        have : i < n := by omega
        simp [rangeKs, this]
      refine wpAny_mono (turn (a + (i : Int)) t I oI C oC D m₂ ys (tl ++ news) h tk E' (by omega) (by omega) (fun p hp => List.mem_append_right _ hp) hC hx F N off ne) (fun b s₂ hq => ?_) fun _ _ e => e
      cases b with
      | true =>
        simp only [if_true] at hq ⊢
        refine wpAny_mono hq (fun y s₃ hr => ?_) fun _ _ e => e
        obtain ⟨h', tk', nw, e, F', N', off', hS, hG, a', o', rfl, hd, ha⟩ := hr
        obtain ⟨g1, g2⟩ := kc_grow hy hoff hd ha
        refine ⟨h', tk', _, e, F', N', off', hS, ?_⟩
        refine ih (i + 1) _ ((a', o') :: tl) (by omega) ?_ g2
        rw [hs, List.filter_append, List.map_append, List.map_append, List.filter_cons, if_pos hG]
        exact g1
      | false =>
        simp only [Bool.false_eq_true, if_false] at hq ⊢
        obtain ⟨h', tk', nw, e, F', N', off', hS, hG, rfl⟩ := hq
        refine ⟨h', tk', _, e, F', N', off', hS, ih (i + 1) _ tl (by omega) ?_ hoff⟩
        rw [hs, List.filter_append, List.map_append, List.map_append, List.filter_cons, if_neg (by rw [hG]; exact Bool.false_ne_true)]
        show DatAll tl ys (_ ++ [])
        rw [List.append_nil]
        exact hy
  exact key n 0 [] [] (by omega) .nil (fun _ h => nomatch h)

theorem dat_pair {src : List (Addr × Obj)} {v : Value} {k z : Int} (h : DatIn src v (pr (k, z))) : ∃ a n t u, v = .ref a ∧ (a, ({ cls := .type "tuple", data := .seq [Value.int k t, Value.int z u].toArray n } : Obj)) ∈ src := by
  cases h with
  | tuple hm hvs =>
    cases hvs with
    | cons h1 r =>
      cases r with
      | cons h2 r2 =>
        cases r2
        cases h1
        cases h2
        exact ⟨_, _, _, _, rfl, hm⟩
/-- a list of pairs, of a list of pairs -/
theorem kcd_pairs {src : List (Addr × Obj)} {its : Array Value} {xs : List (Int × Int)} (f : Int × Int → Int × Int) (hits : DatAll src its.toList (xs.map pr)) (hsrc : ∀ p ∈ src, p ∈ news) (hS : ∀ W, (∀ p ∈ news, p ∈ W) → S W)
    (turn : ∀ k z t u I oI C oC D m₂ ys W h tk (E' : Value → Shared → Prop), (k, z) ∈ xs → (∀ p ∈ news, p ∈ W) → LCg.NsObj oC m₂ → m₂ x = some (.int k t) → m₂ x₂ = some (.int z u) → Fr h₀ L h m → News h₀ L h ((I, oI) :: (C, oC) :: (D, LCg.lst ys) :: W) → LCg.Off3 I C D W → ((@Ne Nat I C) ∧ (@Ne Nat I D) ∧ (@Ne Nat C D)) →
      wpAny (model prog w) A (eval elt (compEnvC scope cl C env)) (LCg.CompEnd h₀ L m { s with heap := h, toks := tk } I oI C oC D (LCg.lst ys) (fun _ => True) (fun y news' => KcEl W (pr (f (k, z))) y news')) E' { s with heap := h, toks := tk })
    (fin : ∀ ys tl, DatAll tl ys ((xs.map f).map pr) → (∀ q ∈ tl, ∀ p ∈ news, p.1 ≠ q.1) → Fin ys (tl ++ news)) :
    LCp.CompRestP prog w A h₀ L m env elt x x₂ scope cl s S (fun i v => its[i]? = some v) Fin its.size 0 [] news := by
  have hlen := hits.length
  rw [List.length_map, Array.length_toList] at hlen
  have key : ∀ (j i : Nat) (ys : List Value) (tl : List (Addr × Obj)), i + j = its.size → DatAll tl ys (((xs.take i).map f).map pr) → (∀ q ∈ tl, ∀ p ∈ news, p.1 ≠ q.1) → LCp.CompRestP prog w A h₀ L m env elt x x₂ scope cl s S (fun i v => its[i]? = some v) Fin j i ys (tl ++ news) := by
    intro j
    induction j with
    | zero =>
      intro i ys tl hi hy hoff
      refine LCp.CompRestP.zero (fin ys tl ?_ hoff)
      rw [List.take_of_length_le (by omega)] at hy
      exact hy
    | succ j ih =>
      intro i ys tl hi hy hoff
      refine LCp.CompRestP.succ ?_
      intro v hv
      have hix : i < xs.length := by omega
      obtain ⟨v', hv', hd'⟩ := hits.get (k := i) (by rw [List.length_map]; exact hix)
      have e1 : v' = v := Option.some.inj (hv'.symm.trans (by simpa using hv))
      subst e1
      rw [List.getElem_map] at hd'
      obtain ⟨⟨k, z⟩, hkz⟩ : ∃ q, xs[i] = q := ⟨_, rfl⟩
      rw [hkz] at hd'
      have hmem : (k, z) ∈ xs := hkz ▸ List.getElem_mem hix
      obtain ⟨a, n, t, u, ev, hm⟩ := dat_pair hd'
      refine ⟨a, _, Value.int k t, Value.int z u, n, ev, List.mem_append_right _ (hsrc _ hm), rfl, rfl, ?_⟩
      intro I oI C oC D m₂ h tk E' hC hx hx2 F N off ne
      have hs : xs.take (i + 1) = xs.take i ++ [(k, z)] := by
        rw [List.take_add_one, List.getElem?_eq_getElem hix, hkz]; rfl
      refine wpAny_mono (turn k z t u I oI C oC D m₂ ys (tl ++ news) h tk E' hmem (fun p hp => List.mem_append_right _ hp) hC hx hx2 F N off ne) (fun y s₃ hr => ?_) fun _ _ e => e
      obtain ⟨h', tk', nw, e, F', N', off', _, a', o', rfl, hd, ha⟩ := hr
      obtain ⟨g1, g2⟩ := kc_grow hy hoff hd ha
      refine ⟨h', tk', _, e, F', N', off', hS _ fun p hp => .tail _ (List.mem_append_right _ hp), ?_⟩
      refine ih (i + 1) _ ((a', o') :: tl) (by omega) ?_ g2
      rw [hs, List.map_append, List.map_append]
      exact g1
  exact key its.size 0 [] [] (by omega) .nil (fun _ h => nomatch h)
end
theorem kc_sub {W : List (Addr × Obj)} (a b c d : Addr × Obj) : ∀ p ∈ a :: b :: c :: d :: W, p ∈ d :: a :: b :: c :: W := by
  intro p hp
  simp only [List.mem_cons] at hp ⊢
  rcases hp with h | h | h | h | h
  · exact .inr (.inl h)
  · exact .inr (.inr (.inl h))
  · exact .inr (.inr (.inr (.inl h)))
  · exact .inl h
  · exact .inr (.inr (.inr (.inr h)))
theorem kc_off {W : List (Addr × Obj)} {I C D d : Addr} {oI oC oD o : Obj} (off : LCg.Off3 I C D W) (h : ∀ p ∈ (I, oI) :: (C, oC) :: (D, oD) :: W, p.1 < d) : LCg.Off3 I C D ((d, o) :: W) :=
  ⟨⟨Nat.ne_of_gt (h _ (.head _)), Nat.ne_of_gt (h _ (.tail _ (.head _))), Nat.ne_of_gt (h _ (.tail _ (.tail _ (.head _))))⟩, off⟩
/-- the pairs that are due -/
theorem due_pw {lim c : Nat} (b : Int) : ((rangeKs 0 c).filter fun k => (askedL lim c c).any (· == k)).map (fun k => (k, b ^ k.toNat)) = pw b (needL lim c) := by
  unfold pw needL
  congr 1
  have e : rangeKs 0 c = (List.range c).map fun i : Nat => (i : Int) := by
    unfold rangeKs
    refine List.map_congr_left fun i _ => ?_
    omega
  rw [e]
  refine List.filter_congr fun z _ => ?_
  rw [Bool.eq_iff_iff, List.any_eq_true, decide_eq_true_eq]
  constructor
  · rintro ⟨y, hy, h⟩
    rw [← eq_of_beq h]; exact hy
  · intro h
    exact ⟨z, h, beq_self_eq_true z⟩
theorem off1_mem {D : Addr} : ∀ {l : List (Addr × Obj)}, LCg.Off1 D l → ∀ p ∈ l, p.1 ≠ D
  | [], _, _, h => nomatch h
  | _ :: _, x, p, h => by
    rcases List.mem_cons.mp h with rfl | h
    · exact x.1
    · exact off1_mem x.2 p h
theorem pw_need_len (b : Int) (lim c : Nat) : (pw b (needL lim c)).length ≤ c := by
  unfold pw needL
  rw [List.length_map]
  exact Nat.le_trans (List.length_filter_le _ _) (by rw [List.length_map, List.length_range]; exact Nat.le_refl _)
/-- the table of the base turned -/
def trn (q : Int × Int) : Int × Int := (q.1, if q.1.fmod 2 = 1 then -q.2 else q.2)
theorem trn_pw (b : Int) (l : List Int) (h : ∀ k ∈ l, 0 ≤ k) : (pw b l).map trn = pw (-b) l := by
  unfold pw
  rw [List.map_map]
  refine List.map_congr_left fun k hk => ?_
  have h0 := h k hk
  show (k, if k.fmod 2 = 1 then -(b ^ k.toNat) else b ^ k.toNat) = (k, (-b) ^ k.toNat)
  rw [neg_pow_sign, Int.fmod_eq_emod_of_nonneg _ (by decide)]
  by_cases h2 : k % 2 = 1
  · rw [if_pos h2, if_pos (by omega)]
  · rw [if_neg h2, if_neg (by omega)]
theorem pw_mem {b : Int} {l : List Int} {k z : Int} (h : (k, z) ∈ pw b l) : k ∈ l ∧ z = b ^ k.toNat := by
  unfold pw at h
  obtain ⟨j, hj, e⟩ := List.mem_map.mp h
  obtain ⟨e1, e2⟩ := Prod.mk.inj e
  subst e1
  exact ⟨hj, e2.symm⟩
theorem dec_self {α : Type} (x : α) (i : Decidable (x = x)) : @decide (x = x) i = true := decide_eq_true rfl
end
section
set_option maxRecDepth 100000
set_option maxHeartbeats 8000000
theorem law_bounds {q0 q2 q3 : Int} {lim c : Nat} (r0 : 0 ≤ q0 ∧ q0 < 60) (r2 : 0 ≤ q2 ∧ q2 < 12) (r3 : 0 ≤ q3 ∧ q3 < 9) (hlim : 1 + q2 = (lim : Int)) (hc : 1 + q0 = (c : Int)) :
    1 ≤ c ∧ c ≤ 60 ∧ (2 + q3).natAbs ≤ 10 ∧ 2 + q3 ≠ 0 ∧ (-(2 + q3)).natAbs ≤ 10 ∧ -(2 + q3) ≠ 0 ∧ 1 ≤ lim ∧ 2 ≤ 2 + q3 ∧ 2 + q3 ≤ 10 := by omega
theorem ne5 {D L k : Nat} {o1 o2 o3 o4 o5 : Obj} (h1 : k < D) (h2 : k < L) : ∀ p ∈ [((D : Addr), o1), (L + 1 + 1 + 1 + 1, o2), (L + 1 + 1 + 1, o3), (L + 1 + 1, o4), (L + 1, o5)], p.1 ≠ k :=
  List.forall_mem_cons.mpr ⟨Nat.ne_of_gt h1, List.forall_mem_cons.mpr ⟨neN (by omega), List.forall_mem_cons.mpr ⟨neN (by omega), List.forall_mem_cons.mpr ⟨neN (by omega), List.forall_mem_cons.mpr ⟨neN (by omega), fun _ h => nomatch h⟩⟩⟩⟩⟩
theorem ne5A {D L k : Nat} {o1 o2 o3 o4 o5 : Obj} (h1 : D < k) (h2 : L + 1 + 1 + 1 + 1 < k) : ∀ p ∈ [((D : Addr), o1), (L + 1 + 1 + 1 + 1, o2), (L + 1 + 1 + 1, o3), (L + 1 + 1, o4), (L + 1, o5)], p.1 ≠ k :=
  List.forall_mem_cons.mpr ⟨Nat.ne_of_lt h1, List.forall_mem_cons.mpr ⟨neN (by omega), List.forall_mem_cons.mpr ⟨neN (by omega), List.forall_mem_cons.mpr ⟨neN (by omega), List.forall_mem_cons.mpr ⟨neN (by omega), fun _ h => nomatch h⟩⟩⟩⟩⟩
/-- a truth value is reckoned, and the frame is as it was -/
def JB (s : Shared) (h₀ : Heap) (L : Addr) (m : Str → Option Value) (news : List (Addr × Obj)) (fl : Bool) (v : Value) (s' : Shared) : Prop := v = .bool fl ∧ ∃ h tk, s' = { s with heap := h, toks := tk } ∧ Fr h₀ L h m ∧ News h₀ L h news
theorem join_bool {M : Model} {A : Around} {E : Value → Shared → Prop} {s : Shared} {h₀ : Heap} {L : Addr} {m : Str → Option Value} {news : List (Addr × Obj)} {t : Sem Value} {Q : Value → Shared → Prop} (F : Fr h₀ L s.heap m) (N : News h₀ L s.heap news) (fl : Bool)
    (h1 : wpAny M A t (JB s h₀ L m news fl) E s) (h2 : ∀ h tk, Fr h₀ L h m → News h₀ L h news → Q (.bool fl) { s with heap := h, toks := tk }) : wpAny M A t Q E s :=
  wpAny_mono h1 (fun v s' ⟨e, h, tk, e2, F', N'⟩ => by rw [e, e2]; exact h2 h tk F' N') fun _ _ x => x
def JI (s : Shared) (h₀ : Heap) (L : Addr) (m : Str → Option Value) (news : List (Addr × Obj)) (z : Int) (v : Value) (s' : Shared) : Prop := (∃ t, v = .int z t) ∧ ∃ h tk, s' = { s with heap := h, toks := tk } ∧ Fr h₀ L h m ∧ News h₀ L h news
theorem join_int {M : Model} {A : Around} {E : Value → Shared → Prop} {s : Shared} {h₀ : Heap} {L : Addr} {m : Str → Option Value} {news : List (Addr × Obj)} {t : Sem Value} {Q : Value → Shared → Prop} (F : Fr h₀ L s.heap m) (N : News h₀ L s.heap news) (z : Int)
    (h1 : wpAny M A t (JI s h₀ L m news z) E s) (h2 : ∀ t h tk, Fr h₀ L h m → News h₀ L h news → Q (.int z t) { s with heap := h, toks := tk }) : wpAny M A t Q E s :=
  wpAny_mono h1 (fun v s' ⟨⟨t, e⟩, h, tk, e2, F', N'⟩ => by rw [e, e2]; exact h2 t h tk F' N') fun _ _ x => x
theorem law_holds : PySem.Challenge.rw_wy0067_01.Holds := hd (by
  k_with_none
  k_with "binaryOp FloorDiv int int" => (k_dflt (refine my_fdiv (by assumption) (by first | assumption | decide) (by first | decide | omega) ?_))
  k_with "binaryOp Mod int int" => (k_dflt (refine my_mod (by assumption) (by first | assumption | decide) ?_))
  k_with "binaryOp Pow int int" => (k_dflt (refine my_pow (by assumption) (by first | decide | assumption) (by first | decide | assumption) (by assumption) ?_))
  k_with "binaryOp Mult int int" => (k_dflt (refine my_mul (by with_reducible assumption) (by with_reducible assumption) ?_))
  k_with "eval Name" => ((with_reducible show wpAny _ _ (eval (PySem.Expr.Name (Str.ofString "low") _) (compEnvC _ _ _ _)) _ _ _); k_dflt (refine LCgL.ld_own (by k_asm) (by k_mem) (by assumption) (by assumption) ?_))
  k_with "eval Name" => ((with_reducible show wpAny _ _ (eval (PySem.Expr.Name (Str.ofString "asked") _) (compEnvC _ _ _ _)) _ _ _); k_dflt (refine lcf_free (by k_asm) (by rfl) (by k_mem) (by k_asm) ?_ (by rfl) (by rfl)))
  k_with "eval Name" => ((with_reducible show wpAny _ _ (eval (PySem.Expr.Name (Str.ofString "base") _) (compEnvC _ _ _ _)) _ _ _); k_dflt (refine lcf_free (by k_asm) (by rfl) (by k_mem) (by k_asm) ?_ (by rfl) (by rfl)))
  k_with "eval Name" => ((with_reducible show wpAny _ _ (eval (PySem.Expr.Name (Str.ofString "_law_times") _) (compEnvC _ _ _ _)) _ _ _); k_dflt (refine LCgL.ld_global (by k_asm) (by k_asm) (by k_asm) (by k_is) ?_))
  k_with "eval Name" => ((with_reducible show wpAny _ _ (eval (PySem.Expr.Name (Str.ofString "power") _) (compEnvC _ _ _ _)) _ _ _); k_dflt (refine LCgL.ld_own (by k_asm) (by k_mem) (by assumption) (by assumption) ?_))
  k_go0
  (all_goals try k_fold)
  repeat' (first | ((fail_if_success (with_reducible show wpAny _ _ (execs _ _) _ _ _)); first | (k_unfold; (try dsimp only)) | (k_end; wrow_close) | walk1 | (dsimp only; walk1) | (leave1; (try dsimp only))))
  (try k_unmd)
  k_fold
  repeat' (first | ((fail_if_success (with_reducible show wpAny _ _ (call (Value.ref _) _) _ _ _)); first | (k_unfold; (try dsimp only)) | (k_end; wrow_close) | walk1 | (dsimp only; walk1) | (leave1; (try dsimp only))))
  rename_i w s0 s1 mg mb G Y fa o pm cd doc ho hcd hg X V T B TE TW ns hs hlay hL1 hr1 hl2 w8 w7 l vs w4 hL ra w1 r0 hI hr hc63 hcT hD h1 tk1 oA oB oC oD ca cb cc ce X0 X' T' K' F' C9 N' l0
  have hlen := hI.length
  (try clear hr); (try clear r0); (try clear w1); (try clear ra); (try clear hL); (try clear hl2); (try clear hr1); (try clear hL1); (try clear hlay); (try clear hs); (try clear hcT); (try clear hD); (try clear G); (try clear Y); (try clear hcd); (try clear ho); (try clear hT8); (try clear hT9); (try clear X); (try clear V); (try clear T); (try clear B); (try clear TE); (try clear TW); (try clear X0); (try clear w4); (try clear w8); (try clear w7)
  generalize hgh : ghostOf s1.heap [(49, 45), (42, 38)] = G0 at *
  generalize hadr : s1.heap.objs.size = L0 at *
  k_dflt (refine' cells_spec (w := w) hI (by omega) _ _ _ _ _ _ _ _ _ _ _ _ _ _ _ ?uB ?uF ?uX ?uC ?uD ?uN ?uT ?uk ?ud ?uu ?_; (case uB => k_asm); (case uF => k_asm); (case uX => k_asm); (case uC => k_asm); (case uD => k_asm); (case uN => k_asm); (case uT => k_asm); (case uk => first | exact rfl | assumption); (case ud => first | ktr_room | decide); (case uu => first | ktr_units | decide))
  refine ⟨lifted, ?_⟩
  intro D os nn c0 c1 c2 h1 tk1 F1 N1 l1 hos hb
  k_lt l1
  obtain ⟨t0, t1, t2, rfl⟩ : ∃ t0 t1 t2, os = [.int c0 t0, .int c1 t1, .int c2 t2] := by
    cases hos with | cons _ t0 h => cases h with | cons _ t1 h => cases h with | cons _ t2 h => cases h; exact ⟨_, _, _, rfl⟩
  obtain ⟨b1, b2, b3, b4, b5, b6⟩ := hb
  obtain ⟨q0, hq0⟩ : ∃ q, Int.fmod c0 60 = q := ⟨_, rfl⟩
  obtain ⟨q1, hq1⟩ : ∃ q, Int.fdiv c0 60 = q := ⟨_, rfl⟩
  obtain ⟨q2, hq2⟩ : ∃ q, Int.fmod q1 12 = q := ⟨_, rfl⟩
  obtain ⟨q3, hq3⟩ : ∃ q, Int.fmod c1 9 = q := ⟨_, rfl⟩
  have r0 : 0 ≤ q0 ∧ q0 < 60 := by rw [← hq0, Int.fmod_eq_emod_of_nonneg _ (by decide)]; omega
  have r2 : 0 ≤ q2 ∧ q2 < 12 := by rw [← hq2, Int.fmod_eq_emod_of_nonneg _ (by decide)]; omega
  have r3 : 0 ≤ q3 ∧ q3 < 9 := by rw [← hq3, Int.fmod_eq_emod_of_nonneg _ (by decide)]; omega
  have e60 : (60 : Int) ≠ 0 := by decide
  have e12 : (12 : Int) ≠ 0 := by decide
  have e9 : (9 : Int) ≠ 0 := by decide
  repeat' (first | ((fail_if_success (with_reducible show wpAny _ _ (call (Value.ref _) _) _ _ _)); first | (k_unfold; (try dsimp only)) | (k_end; wrow_close) | walk1 | (dsimp only; walk1) | (leave1; (try dsimp only))))
  k_dflt (refine' times_spec (w := w) (b := 2 + q3) (c := 1 + q0) ⟨by omega, by omega, by omega⟩ _ _ _ _ _ _ _ _ _ _ _ _ _ _ _ _ _ ?uB ?uF ?uX ?uC ?uD ?uN ?uT ?uk ?ud ?uu ?_; (case uB => k_asm); (case uF => k_asm); (case uX => k_asm); (case uC => k_asm); (case uD => k_asm); (case uN => k_asm); (case uT => k_asm); (case uk => first | exact rfl | assumption); (case ud => ktr_room); (case uu => ktr_units))
  intro tt1 h2 tk2 F2 N2
  obtain ⟨top, htop⟩ : ∃ top, (2 + q3) ^ (1 + q0).toNat = top := ⟨_, rfl⟩
  rw [htop]
  have htop0 : 0 < top := by rw [← htop]; exact Int.pow_pos (by omega)
  have htop1 : top ≠ 0 := by omega
  obtain ⟨X, hX⟩ : ∃ X, (c2 * 1000003 + c1) ^ (3 : Int).toNat = X := ⟨_, rfl⟩
  obtain ⟨nm, hnm⟩ : ∃ nm, X.fmod top = nm := ⟨_, rfl⟩
  have hX64 : (c2 * 1000003 + c1).natAbs < 2 ^ 64 := by omega
  repeat' (first | ((fail_if_success (with_reducible show wpAny _ _ (exec (Stmt.Assign [_] (PySem.Expr.ListComp _ _ _ _) _) _) _ _ _)); first | (k_unfold; (try dsimp only)) | (k_end; wrow_close) | walk1 | (dsimp only; walk1) | (leave1; (try dsimp only))))
  clear b1 b2 b3 b4 b5 b6 hq0 hq1 hq2 hq3 e60 e12 e9 hX64 hX
  lct_look
  lcg_calm
  k_dflt (refine LCt.Assign_ListComp_T (F₀ := by k_asm) (by rfl) (by with_unfolding_all rfl) (by with_unfolding_all rfl) (by decide) (by rfl) (by decide) (by rfl) (by rfl) (by rfl) ?_)
  repeat' (first | ((fail_if_success (with_reducible show LCt.CompSrcT _ _ _ _ _ _ _ _ _ _ _ _ _ _ _)); first | (k_unfold; (try dsimp only)) | (k_end; wrow_close) | walk1 | (dsimp only; walk1) | (leave1; (try dsimp only))))
  k_dflt (refine LCt.CompSrcT.range (by rfl) (by k_asm) (by k_asm) (by assumption) (by decide) (by first | rfl | decide) (by exact Nat.le_of_ble_eq_true rfl) ?_)
  intro g9
  refine kci_range (n := 6) (a := 1) (fun l k => if (1 + q2) * 2 ^ k.toNat < 1 + q0 ∧ 1 + q0 < (1 + q2 + 1) * 2 ^ k.toNat then l ++ [k] else l) ?turn ?fin ?hg
  case hg => intro l k; dsimp only; split <;> simp
  case turn =>
    intro k t I oI C oC D m₂ ys l h tk E' hlo hhi hI hC hx F N off ne mk
    have hk1 : 0 ≤ k := by omega
    have hk2 : k ≤ 1000000 := by omega
    have h264 : (2 : Int).natAbs < 2 ^ 64 := by decide
    obtain ⟨P, hP⟩ : ∃ P, (2 : Int) ^ k.toNat = P := ⟨_, rfl⟩
    have hPs : Sm P := hP ▸ pow_sm (by decide) (by omega)
    obtain ⟨M1, hM1⟩ : ∃ M, (1 + q2) * P = M := ⟨_, rfl⟩
    obtain ⟨M2, hM2⟩ : ∃ M, (1 + q2 + 1) * P = M := ⟨_, rfl⟩
    have sm1 : Sm (1 + q2) := by unfold Sm; have : (2 : Nat) ^ 10 < 2 ^ 1000 := by decide +kernel
                                 omega
    have sm2 : Sm (1 + q2 + 1) := by unfold Sm; have : (2 : Nat) ^ 10 < 2 ^ 1000 := by decide +kernel
                                     omega
    have mo1 := sm_mul sm1 hPs
    have mo2 := sm_mul sm2 hPs
    rw [hP, hM1, hM2]
    by_cases d1 : M1 < 1 + q0
    · by_cases d2 : 1 + q0 < M2
      · k_steps
        exact ⟨_, _, _, rfl, by assumption, by assumption, off, trivial, kci_el (by rw [if_pos ⟨d1, d2⟩]) rfl rfl⟩
      · k_steps
        exact ⟨_, _, _, rfl, by assumption, by assumption, off, trivial, kci_no (by rw [if_neg fun h => d2 h.2]) rfl⟩
    · k_steps
      exact ⟨_, _, _, rfl, by assumption, by assumption, off, trivial, kci_no (by rw [if_neg fun h => d1 h.1]) rfl⟩
  case fin =>
    unfold KPfDone
    intro ys hys hylen
    obtain ⟨bl, hbl⟩ : ∃ bl, (rangeKs 1 6).foldl (fun (l : List Int) (k : Int) => if (1 + q2) * 2 ^ k.toNat < 1 + q0 ∧ 1 + q0 < (1 + q2 + 1) * 2 ^ k.toNat then l ++ [k] else l) [] = bl := ⟨_, rfl⟩
    rw [hbl] at hys
    obtain ⟨pm, hpm⟩ : ∃ pm, Int.fmod (1 + q2) 2 = pm := ⟨_, rfl⟩
    obtain ⟨lim, hlim⟩ : ∃ lim : Nat, 1 + q2 = (lim : Int) := ⟨(1 + q2).toNat, by omega⟩
    obtain ⟨c, hc⟩ : ∃ c : Nat, 1 + q0 = (c : Int) := ⟨(1 + q0).toNat, by omega⟩
    have p0 := law_bounds r0 r2 r3 hlim hc
    have p1 := p0.1
    have p2 := p0.2.1
    have p3 := p0.2.2.1
    have p4 := p0.2.2.2.1
    have p5 := p0.2.2.2.2.1
    have p6 := p0.2.2.2.2.2.1
    have p7 := p0.2.2.2.2.2.2.1
    have p8 := p0.2.2.2.2.2.2.2.1
    have p9 := p0.2.2.2.2.2.2.2.2
    clear p0
    repeat' (first | ((fail_if_success (with_reducible show wpAny _ _ (eval (PySem.Expr.BoolOp _ _ _) _) _ _ _)); first | (k_unfold; (try dsimp only)) | (k_end; wrow_close) | walk1 | (dsimp only; walk1) | (leave1; (try dsimp only))))
    rename Fr _ _ _ _ => F5
    rename News _ _ _ _ => N5
    refine join_bool F5 N5 (fallsN lim c) ?one ?two
    have hbn := between_nil (lim := lim) (c := c) hlim hc
    rw [hbl] at hbn
    have hpar : (pm == 1) = (lim % 2 == 1) := by
      rw [← hpm, hlim, Int.fmod_eq_emod_of_nonneg _ (by decide), Bool.eq_iff_iff, beq_iff_eq, beq_iff_eq]; omega
    have hfN : fallsN lim c = ((lim % 2 == 1) && decide (3 < lim) && (((List.range 6).map (· + 1)).any fun k => decide (lim * 2 ^ k < c) && decide (c < (lim + 1) * 2 ^ k))) := rfl
    case one =>
      by_cases f1 : (pm == 1) = true
      · by_cases f2 : 1 + q2 > 3
        · have f2' : decide (3 < lim) = true := decide_eq_true (by omega)
          by_cases f3 : bl = []
          · have v : false = fallsN lim c := by rw [hfN, hbn.mp f3, Bool.and_false]
            subst f3
            cases hys
            k_steps
            rename News _ _ _ _ => Nz
            refine ⟨congrArg Value.bool v, _, _, rfl, by assumption, ?_⟩
            first | exact Nz | exact kst_newsOf Nz (fun p hp => by repeat (first | exact hp | refine List.mem_cons_of_mem _ ?_))
          · have v : true = fallsN lim c := by
              rw [hfN, ← hpar, f1, f2']
              cases hb : (((List.range 6).map (· + 1)).any fun k => decide (lim * 2 ^ k < c) && decide (c < (lim + 1) * 2 ^ k)) with
              | true => rfl
              | false => exact absurd (hbn.mpr hb) f3
            k_steps
            rename News _ _ _ _ => Nz
            refine ⟨congrArg Value.bool (Eq.trans ?_ v), _, _, rfl, by assumption, by first | exact Nz | exact kst_newsOf Nz (fun p hp => by repeat (first | exact hp | refine List.mem_cons_of_mem _ ?_))⟩
            simp [f3]
        · have v : false = fallsN lim c := by rw [hfN, decide_eq_false (show ¬ 3 < lim by omega), Bool.and_false, Bool.false_and]
          k_steps
          refine ⟨congrArg Value.bool (Eq.trans ?_ v), _, _, rfl, by assumption, by assumption⟩
          simp; omega
      · have v : false = fallsN lim c := by rw [hfN, ← hpar, (Bool.not_eq_true _).mp f1, Bool.false_and, Bool.false_and]
        k_steps
        exact ⟨congrArg Value.bool (((Bool.not_eq_true _).mp f1).trans v), _, _, rfl, by assumption, by assumption⟩
    case two =>
      intro h6 tk6 F6 N6
      obtain ⟨fl, hfl⟩ : ∃ fl, fallsN lim c = fl := ⟨_, rfl⟩
      rw [hfl]
      obtain ⟨hf1, hf2⟩ := falls_run (lim := lim) (c := c) p2 p7 (by omega)
      rw [hfl] at hf1 hf2
      repeat' (first | ((fail_if_success (with_reducible show wpAny _ _ (call (Value.ref _) _) _ _ _)); first | (k_unfold; (try dsimp only)) | (k_end; wrow_close) | walk1 | (dsimp only; walk1) | (leave1; (try dsimp only))))
      k_dflt (refine' refused_spec (w := w) (c := c) (lim := lim) (b := 2 + q3) p1 p2 hc hlim p7 p3 p4 _ _ _ _ _ _ _ _ _ _ _ _ _ _ _ ?uB ?uF ?uX ?uC ?uD ?uN ?uT ?uk ?ud ?uu ?_; (case uB => k_asm); (case uF => k_asm); (case uX => k_asm); (case uC => k_asm); (case uD => k_asm); (case uN => k_asm); (case uT => k_asm); (case uk => first | exact rfl | assumption); (case ud => first | ktr_room | decide); (case uu => first | ktr_units | decide))
      intro bo h7 tk7 d7 hbo F7 N7
      have hbo' : bo = fl := by rw [Bool.eq_iff_iff, hbo, hf1]
      subst hbo'
      have nq : (bo != bo) = false := bne_self_eq_false _
      repeat' (first | ((fail_if_success (with_reducible show wpAny _ _ (call (Value.ref _) _) _ _ _)); first | (k_unfold; (try dsimp only)) | (k_end; wrow_close) | walk1 | (dsimp only; walk1) | (leave1; (try dsimp only))))
      k_dflt (refine' refused_spec (w := w) (c := c) (lim := lim) (b := -(2 + q3)) p1 p2 hc hlim p7 p5 p6 _ _ _ _ _ _ _ _ _ _ _ _ _ _ _ ?uB ?uF ?uX ?uC ?uD ?uN ?uT ?uk ?ud ?uu ?_; (case uB => k_asm); (case uF => k_asm); (case uX => k_asm); (case uC => k_asm); (case uD => k_asm); (case uN => k_asm); (case uT => k_asm); (case uk => first | exact rfl | assumption); (case ud => first | ktr_room | decide); (case uu => first | ktr_units | decide))
      intro bo2 h8 tk8 d8 hbo2 F8 N8
      have hbo2' : bo2 = bo := by rw [Bool.eq_iff_iff, hbo2, hf1]
      subst hbo2'
      have nq2 : (bo2 != bo2) = false := bne_self_eq_false _
      repeat' (first | ((fail_if_success (with_reducible show wpAny _ _ (eval (PySem.Expr.IfExp _ _ _ _) _) _ _ _)); first | (k_unfold; (try dsimp only)) | (k_end; wrow_close) | walk1 | (dsimp only; walk1) | (leave1; (try dsimp only))))
      rename Fr _ _ _ _ => F9
      rename News _ _ _ _ => N9
      refine join_int F9 N9 (if bo2 then 1 + q2 + 1 else 1 + q2) ?three ?four
      case three =>
        cases bo2 with
        | true =>
          k_steps
          exact ⟨⟨_, rfl⟩, _, _, rfl, by assumption, by assumption⟩
        | false =>
          k_steps
          exact ⟨⟨_, rfl⟩, _, _, rfl, by assumption, by assumption⟩
      case four =>
        intro tb h10 tk10 F10 N10
        obtain ⟨bnd, hbnd⟩ : ∃ bnd, (if bo2 = true then lim + 1 else lim) = bnd := ⟨_, rfl⟩
        have hz : (if bo2 = true then 1 + q2 + 1 else 1 + q2) = (bnd : Int) := by rw [← hbnd, hlim]; cases bo2 <;> rfl
        rw [hz]
        rw [hbnd] at hf2
        have hb1 : 1 ≤ bnd := by rw [← hbnd]; cases bo2 <;> simp <;> omega
        repeat' (first | ((fail_if_success (with_reducible show wpAny _ _ (call (Value.ref _) _) _ _ _)); first | (k_unfold; (try dsimp only)) | (k_end; wrow_close) | walk1 | (dsimp only; walk1) | (leave1; (try dsimp only))))
        k_dflt (refine' pow_spec (w := w) (c := c) (lim := bnd) (b := 2 + q3) p1 p2 hc rfl hb1 p3 p4 _ _ _ _ _ _ _ _ _ _ _ _ _ _ _ _ _ ?uB ?uF ?uX ?uC ?uD ?uN ?uT ?uk ?ud ?uu ?_; (case uB => k_asm); (case uF => k_asm); (case uX => k_asm); (case uC => k_asm); (case uD => k_asm); (case uN => k_asm); (case uT => k_asm); (case uk => first | exact rfl | assumption); (case ud => ktr_room); (case uu => ktr_units))
        refine ⟨fun _ D1 o1 kv1 h11 tk11 d11 F11 N11 hd1 hff1 lo1 l11 => ?_, fun hbad => absurd hf2 hbad⟩
        k_lt l11
        obtain ⟨e2, he2⟩ : ∃ e, Int.fmod c2 2 = e := ⟨_, rfl⟩
        obtain ⟨T2, hT2⟩ : ∃ z, top * e2 = z := ⟨_, rfl⟩
        have htopE : top = (2 + q3) ^ c := by rw [← htop, hc]; rfl
        have hmoT : IntMulOk top e2 := by
          have : e2 = 0 ∨ e2 = 1 := by rw [← he2, Int.fmod_eq_emod_of_nonneg _ (by decide)]; omega
          refine sm_mul (htopE ▸ pow_sm (by omega) (by omega)) ?_
          rcases this with h | h <;> rw [h] <;> unfold Sm <;> decide +kernel
        repeat' (first | ((fail_if_success (with_reducible show wpAny _ _ (call (Value.ref _) _) _ _ _)); first | (k_unfold; (try dsimp only)) | (k_end; wrow_close) | walk1 | (dsimp only; walk1) | (leave1; (try dsimp only))))
        rename_i h12 tk12 la h13 l12 h14 oAs F12 N12 dAs t12
        have hkeys : ∀ z ∈ askedL bnd c c, lookup (.int z) (kdfD (pw (2 + q3) (needL bnd c))) = some (.int ((2 + q3) ^ z.toNat)) := fun z hz => by
          have hm := (needL_mem hb1 z).mpr hz
          have := kdfD_item (c := pw (2 + q3) (needL bnd c)) (k := z) (by rw [pw_has]; exact decide_eq_true hm)
          rw [pw_look _ hm] at this
          exact this
        have hnm0 : 0 ≤ nm ∧ nm < top := by
          rw [← hnm, Int.fmod_eq_emod_of_nonneg _ (Int.le_of_lt htop0)]
          exact ⟨Int.emod_nonneg _ htop1, Int.emod_lt_of_pos _ htop0⟩
        have he01 : e2 = 0 ∨ e2 = 1 := by rw [← he2, Int.fmod_eq_emod_of_nonneg _ (by decide)]; omega
        have hx1 : -((2 + q3) ^ c) ≤ nm - T2 := by
          rw [← htopE]
          rcases he01 with h | h <;> rw [h] at hT2 <;> omega
        have hx2 : nm - T2 < (2 + q3) ^ c := by
          rw [← htopE]
          rcases he01 with h | h <;> rw [h] at hT2 <;> omega
        have la1 : @LT.lt Nat _ D1 la ∧ @LT.lt Nat _ 45 la ∧ @LT.lt Nat _ 38 la := by omega
        have N13 := kst_newsOf (l' := (la, W.listOf [].toArray 0) :: (38, tabObj #[]) :: (45, tabObj #[]) :: (D1, o1) :: (L0 + 1 + 1 + 1 + 1, _) :: (L0 + 1 + 1 + 1, _) :: (L0 + 1 + 1, _) :: (L0 + 1, _) :: []) N12
          (List.forall_mem_cons.mpr ⟨by k_mem, List.forall_mem_cons.mpr ⟨by k_mem, List.forall_mem_cons.mpr ⟨by k_mem, List.forall_mem_cons.mpr ⟨by k_mem, List.forall_mem_cons.mpr ⟨by k_mem, List.forall_mem_cons.mpr ⟨by k_mem, List.forall_mem_cons.mpr ⟨by k_mem, List.forall_mem_cons.mpr ⟨by k_mem, fun _ h => nomatch h⟩⟩⟩⟩⟩⟩⟩⟩)
        clear N12
        k_dflt (refine' (cut_spec (w := w) (pd := D1) (asked := la) (od := o1) (kvs := kv1) (lim := bnd) (b := 2 + q3) lo1 hd1 hff1 hb1 p8 p9 (Nat.ne_of_lt la1.1) la1.2.1 60 (Nat.le_refl _) ((D1, o1) :: (L0 + 1 + 1 + 1 + 1, oAs) :: (L0 + 1 + 1 + 1, _) :: (L0 + 1 + 1, _) :: (L0 + 1, _) :: []) c (nm - T2) _ _ _ _ [] [] 0 #[] #[] _ _ p1 p2 hkeys hc rfl hx1 hx2 (.head _) (ne5 l11.2.2.2.2.2.2.2.2 l0.2) (ne5 l11.2.2.2.2.2.2.2.1 l0.1) (ne5A la1.1 l12.2.2.2.2.1) (.inl rfl) (.inl rfl) .nil (by simp; omega)) _ _ _ _ _ _ _ _ _ _ _ _ _ _ _ _ _ ?uB ?uF ?uX ?uC ?uD ?uN ?uT ?uk ?ud ?uu ?_; (case uB => k_asm); (case uF => k_asm); (case uX => k_asm); (case uC => k_asm); (case uD => k_asm); (case uN => k_asm); (case uT => k_asm); (case uk => first | exact rfl | assumption); (case ud => ktr_room); (case uu => ktr_units))
        intro rl vr kr va' ka' p1' p2' ex h15 tk15 F15 N15 ivr iva ht1 ht2 hex hrl
        have N16 := kst_newsOf (l' := (rl, W.listOf vr.toArray kr) :: (la, W.listOf va'.toArray ka') :: (D1, o1) :: (L0 + 1 + 1 + 1 + 1, _) :: (L0 + 1 + 1 + 1, _) :: (L0 + 1 + 1, _) :: (L0 + 1, _) :: (38, tabObj p1') :: (45, tabObj p2') :: []) N15
          (List.forall_mem_cons.mpr ⟨by k_mem, List.forall_mem_cons.mpr ⟨by k_mem, List.forall_mem_cons.mpr ⟨.tail _ (.tail _ (.tail _ (.tail _ (List.mem_append_right _ (by k_mem))))), List.forall_mem_cons.mpr ⟨.tail _ (.tail _ (.tail _ (.tail _ (List.mem_append_right _ (by k_mem))))), List.forall_mem_cons.mpr ⟨.tail _ (.tail _ (.tail _ (.tail _ (List.mem_append_right _ (by k_mem))))), List.forall_mem_cons.mpr ⟨.tail _ (.tail _ (.tail _ (.tail _ (List.mem_append_right _ (by k_mem))))), List.forall_mem_cons.mpr ⟨.tail _ (.tail _ (.tail _ (.tail _ (List.mem_append_right _ (by k_mem))))), List.forall_mem_cons.mpr ⟨.tail _ (.tail _ (.head _)), List.forall_mem_cons.mpr ⟨.tail _ (.tail _ (.tail _ (.head _))), fun _ h => nomatch h⟩⟩⟩⟩⟩⟩⟩⟩⟩)
        clear N15 ht1 ht2 hex
        have la2 : @LT.lt Nat _ la rl := hrl.1
        clear hrl
        rw [List.nil_append] at iva
        repeat' (first | ((fail_if_success (with_reducible show wpAny _ _ (call (Value.ref _) _) _ _ _)); first | (k_unfold; (try dsimp only)) | (k_end; wrow_close) | walk1 | (dsimp only; walk1) | (leave1; (try dsimp only))))
        k_dflt (refine' fig_spec (w := w) (x := nm) (b := 2 + q3) (n := 1 + q0) ⟨by omega, by omega, by omega, by omega⟩ _ _ _ _ _ _ _ _ _ _ _ _ _ _ _ _ _ ?uB ?uF ?uX ?uC ?uD ?uN ?uT ?uk ?ud ?uu ?_; (case uB => k_asm); (case uF => k_asm); (case uX => k_asm); (case uC => k_asm); (case uD => k_asm); (case uN => k_asm); (case uT => k_asm); (case uk => first | exact rfl | assumption); (case ud => ktr_room); (case uu => ktr_units))
        intro l9 vs9 nn9 h16 tk16 F16 N17 i9 l9r
        have l93 : @LT.lt Nat _ rl l9 ∧ @LT.lt Nat _ la l9 ∧ @LT.lt Nat _ D1 l9 := ⟨l9r _ (.head _), l9r _ (.tail _ (.head _)), l9r _ (.tail _ (.tail _ (.head _)))⟩
        clear l9r
        have hfe : figs (2 + q3) c (nm - T2) = figs (2 + q3) (1 + q0).toNat nm := by
          rw [hc, Int.toNat_natCast, ← hT2, htopE, figs_top (by omega)]
        repeat' (first | ((fail_if_success (with_reducible show wpAny _ _ (compareOp CmpOp.NotEq _ _) _ _ _)); first | (k_unfold; (try dsimp only)) | (k_end; wrow_close) | walk1 | (dsimp only; walk1) | (leave1; (try dsimp only))))
        refine ke_ne_ints (News.isList N17 (.tail _ (.head _))) (News.isList N17 (.head _)) ivr i9 (by ke_room) ?_
        rw [decide_eq_true hfe, Bool.not_true]
        repeat' (first | ((fail_if_success (with_reducible show wpAny _ _ (exec (Stmt.Assign [_] (PySem.Expr.ListComp _ _ _ _) _) _) _ _ _)); first | (k_unfold; (try dsimp only)) | (k_end; wrow_close) | walk1 | (dsimp only; walk1) | (leave1; (try dsimp only))))
        lct_look
        lcg_calm
        k_dflt (refine LCt.Assign_ListComp_T (F₀ := by k_asm) (by rfl) (by with_unfolding_all rfl) (by with_unfolding_all rfl) (by decide) (by rfl) (by decide) (by rfl) (by rfl) (by rfl) ?_)
        have hr0 : (1 + q0) ≤ 60 := by omega
        repeat' (first | ((fail_if_success (with_reducible show LCt.CompSrcT _ _ _ _ _ _ _ _ _ _ _ _ _ _ _)); first | (k_unfold; (try dsimp only)) | (k_end; wrow_close) | walk1 | (dsimp only; walk1) | (leave1; (try dsimp only))))
        k_dflt (refine LCt.CompSrcT.range (n := c) (by rfl) (by k_asm) (by k_asm) (by assumption) (small_one (by omega) (by omega) (by omega) (by omega)) ((rangeSize_nat _ _).trans (by omega)) (by rw [sizeLine_eq]; omega) ?_)
        intro g9
        refine kcd_range (n := c) (a := 0) (fun k => (askedL bnd c c).any (· == k)) (fun k => (k, (2 + q3) ^ k.toNat)) ?turn ?fin
        case turn =>
          intro k t I oI C oC D m₂ ys W h tk E' hlo hhi hW hC hx F N off ne
          have hmA := hW _ (.tail _ (.tail _ (.head _)))
          have hmC := hW _ (.tail _ (.tail _ (.tail _ (.tail _ (.head _)))))
          have hmB := hW _ (.tail _ (.tail _ (.tail _ (.tail _ (.tail _ (.head _))))))
          repeat' (first | ((fail_if_success (with_reducible show wpAny _ _ (compareOp CmpOp.In _ _) _ _ _)); first | (k_unfold; (try dsimp only)) | (k_end; wrow_close) | walk1 | (dsimp only; walk1) | (leave1; (try dsimp only))))
          refine in_list_ints (by exact News.isList N (.tail _ (.tail _ (.tail _ hmA)))) iva ?_
          cases hb : (askedL bnd c c).any (· == k) with
          | true =>
            repeat' (first | ((fail_if_success (with_reducible show wpAny _ _ (call (Value.ref _) _) _ _ _)); first | (k_unfold; (try dsimp only)) | (k_end; wrow_close) | walk1 | (dsimp only; walk1) | (leave1; (try dsimp only))))
            k_dflt (refine' times_spec (w := w) (b := 2 + q3) (c := k) ⟨by omega, by omega, by omega⟩ _ _ _ _ _ _ _ _ _ _ _ _ _ _ _ _ _ ?uB ?uF ?uX ?uC ?uD ?uN ?uT ?uk ?ud ?uu ?_; (case uB => k_asm); (case uF => k_asm); (case uX => k_asm); (case uC => k_asm); (case uD => k_asm); (case uN => k_asm); (case uT => k_asm); (case uk => first | exact rfl | assumption); (case ud => ktr_room); (case uu => ktr_units))
            intro t9 h9 tk9 F9 N9
            repeat' (first | ((fail_if_success (with_reducible show wpAny _ _ (newTuple _) _ _ _)); first | (k_unfold; (try dsimp only)) | (k_end; wrow_close) | walk1 | (dsimp only; walk1) | (leave1; (try dsimp only))))
            (k_dflt (refine' kup_newTuple ?zzF ?zzN ?_ ?zzz; (case zzF => k_asm); (case zzN => k_asm); (case zzz => kmk_size)))
            intro D9 h10 F10 N10 l10
            repeat' (first | ((fail_if_success (with_reducible show LCg.CompEnd _ _ _ _ _ _ _ _ _ _ _ _ _ _)); first | (k_unfold; (try dsimp only)) | (k_end; wrow_close) | walk1 | (dsimp only; walk1) | (leave1; (try dsimp only))))
            k_unfold
            dsimp only
            exact LCg.CompEnd.intro F10 N10 ((D9, _) :: W) (kc_sub _ _ _ _) (kc_off off l10) trivial ⟨rfl, kc_el rfl rfl fun q hq => Nat.ne_of_lt (l10 q (.tail _ (.tail _ (.tail _ hq))))⟩
          | false =>
            repeat' (first | ((fail_if_success (with_reducible show LCg.CompEnd _ _ _ _ _ _ _ _ _ _ _ _ _ _)); first | (k_unfold; (try dsimp only)) | (k_end; wrow_close) | walk1 | (dsimp only; walk1) | (leave1; (try dsimp only))))
            exact LCg.CompEnd.intro F N W (fun p hp => hp) off trivial ⟨rfl, rfl⟩
        case fin =>
          intro ys tl hda hoff
          rw [due_pw] at hda
          unfold LCg.FinA
          intro D2 h20 tk20 F20 N20 o20
          have off2 : ∀ q ∈ tl, q.1 ≠ D1 := fun q hq e => hoff q hq _ (.tail _ (.tail _ (.tail _ (.head _)))) e.symm
          have N21 := kst_newsOf (l' := (D1, o1) :: (D2, LCg.lst ys) :: (L0 + 1 + 1 + 1 + 1, _) :: (L0 + 1 + 1 + 1, _) :: (L0 + 1 + 1, _) :: (L0 + 1, _) :: (38, tabObj p1') :: (45, tabObj p2') :: tl) N20
            (List.forall_mem_cons.mpr ⟨.tail _ (List.mem_append_right _ (by k_mem)), List.forall_mem_cons.mpr ⟨.head _, List.forall_mem_cons.mpr ⟨.tail _ (List.mem_append_right _ (by k_mem)), List.forall_mem_cons.mpr ⟨.tail _ (List.mem_append_right _ (by k_mem)), List.forall_mem_cons.mpr ⟨.tail _ (List.mem_append_right _ (by k_mem)), List.forall_mem_cons.mpr ⟨.tail _ (List.mem_append_right _ (by k_mem)), List.forall_mem_cons.mpr ⟨.tail _ (List.mem_append_right _ (by k_mem)), List.forall_mem_cons.mpr ⟨.tail _ (List.mem_append_right _ (by k_mem)), fun q hq => .tail _ (List.mem_append_left _ hq)⟩⟩⟩⟩⟩⟩⟩⟩)
          have hD12 : @Ne Nat D1 D2 := off1_mem o20 _ (List.mem_append_right _ (.tail _ (.tail _ (.tail _ (.head _)))))
          clear N20 hoff o20
          dsimp only
          repeat' (first | ((fail_if_success (with_reducible show wpAny _ _ (call (Value.type _) _) _ _ _)); first | (k_unfold; (try dsimp only)) | (k_end; wrow_close) | walk1 | (dsimp only; walk1) | (leave1; (try dsimp only))))
          rename_i V4 h21 F21 N22 l22
          have hpl := pw_need_len (2 + q3) bnd c
          refine list_items (by with_unfolding_all rfl) F21 N22 (.head _) (.tail _ (.head _)) hd1 hff1 (by omega) ?_
          intro B4 vs4 tu4 k4 h23 tk23 lB4 lt4 da4 F23 N23
          clear F21 N22 N21
          repeat' (first | ((fail_if_success (with_reducible show wpAny _ _ (compareOp CmpOp.NotEq _ _) _ _ _)); first | (k_unfold; (try dsimp only)) | (k_end; wrow_close) | walk1 | (dsimp only; walk1) | (leave1; (try dsimp only))))
          refine kqd_ne (n₁ := tu4) (n₂ := tl) N23 (List.mem_append_right _ (.head _)) rfl rfl da4 (fun p hp => List.mem_append_left _ hp) (List.mem_append_right _ (.tail _ (.tail _ (.tail _ (.head _))))) rfl rfl hda (fun p hp => List.mem_append_right _ (.tail _ (.tail _ (.tail _ (.tail _ (.tail _ (.tail _ (.tail _ (.tail _ (.tail _ (.tail _ hp))))))))))) (pr_ok _) (pr_ok _) (by ke_room) ?_
          rw [dec_self, Bool.not_true]
          have N24 := kst_newsOf (l' := (D1, o1) :: (D2, LCg.lst ys) :: (L0 + 1 + 1 + 1 + 1, _) :: (L0 + 1 + 1 + 1, _) :: (L0 + 1 + 1, _) :: (L0 + 1, _) :: (38, tabObj p1') :: (45, tabObj p2') :: tl) N23
            (fun p hp => List.mem_append_right _ (.tail _ (.tail _ hp)))
          clear N23 da4 lt4 lB4
          repeat' (first | ((fail_if_success (with_reducible show wpAny _ _ (call (Value.ref _) _) _ _ _)); first | (k_unfold; (try dsimp only)) | (k_end; wrow_close) | walk1 | (dsimp only; walk1) | (leave1; (try dsimp only))))
          k_dflt (refine' pow_spec (w := w) (c := c) (lim := bnd) (b := -(2 + q3)) p1 p2 hc rfl hb1 p5 p6 _ _ _ _ _ _ _ _ _ _ _ _ _ _ _ _ _ ?uB ?uF ?uX ?uC ?uD ?uN ?uT ?uk ?ud ?uu ?_; (case uB => k_asm); (case uF => k_asm); (case uX => k_asm); (case uC => k_asm); (case uD => k_asm); (case uN => k_asm); (case uT => k_asm); (case uk => first | exact rfl | assumption); (case ud => ktr_room); (case uu => ktr_units))
          refine ⟨fun _ D5 o5 kv5 h25 tk25 d25 F25 N25 hd5 hff5 lo5 l25 => ?_, fun hbad => absurd hf2 hbad⟩
          have hD15 : @LT.lt Nat _ D1 D5 := l25 _ (.head _)
          clear N24
          repeat' (first | ((fail_if_success (with_reducible show wpAny _ _ (call (Value.type _) _) _ _ _)); first | (k_unfold; (try dsimp only)) | (k_end; wrow_close) | walk1 | (dsimp only; walk1) | (leave1; (try dsimp only))))
          rename_i V6 h26 F26 N26 l26
          have hpl6 := pw_need_len (-(2 + q3)) bnd c
          refine list_items (by with_unfolding_all rfl) F26 N26 (.head _) (by k_mem) hd5 hff5 (by omega) ?_
          intro B6 vs6 tu6 k6 h27 tk27 lB6 lt6 da6 F27 N27
          clear F26 N26
          repeat' (first | ((fail_if_success (with_reducible show wpAny _ _ (eval (PySem.Expr.ListComp _ _ _ _) _) _ _ _)); first | (k_unfold; (try dsimp only)) | (k_end; wrow_close) | walk1 | (dsimp only; walk1) | (leave1; (try dsimp only))))
          lcp_look
          lcg_calm
          k_dflt (refine LCp.ListComp_P (F₀ := by k_asm) (by with_unfolding_all rfl) (by decide) (by rfl) (by decide) (by rfl) (by rfl) (by decide) ?_)
          repeat' (first | ((fail_if_success (with_reducible show LCp.SrcLP _ _ _ _ _ _ _ _ _ _ _ _ _ _ _)); first | (k_unfold; (try dsimp only)) | (k_end; wrow_close) | walk1 | (dsimp only; walk1) | (leave1; (try dsimp only))))
          have hys : ys.toArray.size ≤ 60 := by
            rw [List.size_toArray, hda.length, List.length_map]; omega
          refine LCp.SrcLP.ledger (k := ys.length) (by rfl) (by k_asm) N27 (List.mem_append_right _ (.tail _ (.tail _ (.tail _ (.tail _ (.head _)))))) (by rw [sizeLine_eq]; omega) ?_
          intro g9
          refine kcd_pairs (src := tl) (xs := pw (2 + q3) (needL bnd c)) trn hda (fun p hp => List.mem_append_right _ (.tail _ (.tail _ (.tail _ (.tail _ (.tail _ (.tail _ (.tail _ (.tail _ (.tail _ (.tail _ (.tail _ hp)))))))))))) ?hS ?turn ?fin
          case hS => exact fun W hW => .inr ⟨_, hW _ (List.mem_append_right _ (.tail _ (.tail _ (.tail _ (.tail _ (.head _)))))), rfl, _, rfl⟩
          case turn =>
            intro k z t u I oI C oC D m₂ ys9 W h tk E' hkz hW hC hx hx2 F N off ne
            obtain ⟨hk, hz⟩ := pw_mem hkz
            obtain ⟨k2, hk2⟩ : ∃ k2, Int.fmod k 2 = k2 := ⟨_, rfl⟩
            by_cases hp : k2 = 1
            · have hq : (k2 == 1) = true := by rw [beq_iff_eq]; exact hp
              repeat' (first | ((fail_if_success (with_reducible show wpAny _ _ (newTuple _) _ _ _)); first | (k_unfold; (try dsimp only)) | (k_end; wrow_close) | walk1 | (dsimp only; walk1) | (leave1; (try dsimp only))))
              (k_dflt (refine' kup_newTuple ?zzF ?zzN ?_ ?zzz; (case zzF => k_asm); (case zzN => k_asm); (case zzz => kmk_size)))
              intro D9 h10 F10 N10 l10
              repeat' (first | ((fail_if_success (with_reducible show LCg.CompEnd _ _ _ _ _ _ _ _ _ _ _ _ _ _)); first | (k_unfold; (try dsimp only)) | (k_end; wrow_close) | walk1 | (dsimp only; walk1) | (leave1; (try dsimp only))))
              (try k_unfold)
              (try dsimp only)
              exact LCg.CompEnd.intro F10 N10 ((D9, _) :: W) (kc_sub _ _ _ _) (kc_off off l10) trivial (kc_el rfl (by rw [if_pos (hk2.trans hp)]) fun q hq => Nat.ne_of_lt (l10 q (.tail _ (.tail _ (.tail _ hq)))))
            · have hq : (k2 == 1) = false := beq_false_of_ne hp
              repeat' (first | ((fail_if_success (with_reducible show wpAny _ _ (newTuple _) _ _ _)); first | (k_unfold; (try dsimp only)) | (k_end; wrow_close) | walk1 | (dsimp only; walk1) | (leave1; (try dsimp only))))
              (k_dflt (refine' kup_newTuple ?zzF ?zzN ?_ ?zzz; (case zzF => k_asm); (case zzN => k_asm); (case zzz => kmk_size)))
              intro D9 h10 F10 N10 l10
              repeat' (first | ((fail_if_success (with_reducible show LCg.CompEnd _ _ _ _ _ _ _ _ _ _ _ _ _ _)); first | (k_unfold; (try dsimp only)) | (k_end; wrow_close) | walk1 | (dsimp only; walk1) | (leave1; (try dsimp only))))
              (try k_unfold)
              (try dsimp only)
              exact LCg.CompEnd.intro F10 N10 ((D9, _) :: W) (kc_sub _ _ _ _) (kc_off off l10) trivial (kc_el rfl (by rw [if_neg (fun h => hp (hk2.symm.trans h))]) fun q hq => Nat.ne_of_lt (l10 q (.tail _ (.tail _ (.tail _ hq)))))
          case fin =>
            intro ys5 tl5 hd5' hoff5
            rw [trn_pw _ _ (fun k hk => by have := (asked_bound hb1 ((needL_mem hb1 k).mp hk)).1; omega)] at hd5'
            unfold LCg.FinE
            intro D7 h30 tk30 F30 N30 o30
            dsimp only
            refine kqd_ne (n₁ := tu6) (n₂ := tl5) N30 (.tail _ (List.mem_append_right _ (List.mem_append_right _ (.head _)))) rfl rfl da6 (fun p hp => .tail _ (List.mem_append_right _ (List.mem_append_left _ hp))) (.head _) rfl rfl hd5' (fun p hp => .tail _ (List.mem_append_left _ hp)) (pr_ok _) (pr_ok _) (by ke_room) ?_
            rw [dec_self, Bool.not_true]
            have N31 := kst_newsOf (l' := (D1, o1) :: (D2, LCg.lst ys) :: (L0 + 1 + 1 + 1 + 1, _) :: (L0 + 1 + 1 + 1, _) :: (L0 + 1 + 1, _) :: (L0 + 1, _) :: (38, tabObj p1') :: (45, tabObj p2') :: tl) N30
              (fun p hp => .tail _ (List.mem_append_right _ (List.mem_append_right _ (.tail _ (.tail _ (.tail _ hp))))))
            clear N30 hoff5 hd5' o30 da6 lt6 lB6 N27
            repeat' (first | ((fail_if_success (with_reducible show wpAny _ _ (call (Value.builtin "dict.clear") _) _ _ _)); first | (k_unfold; (try dsimp only)) | (k_end; wrow_close) | walk1 | (dsimp only; walk1) | (leave1; (try dsimp only))))
            dsimp only
            refine call_clear_madeIn (own := []) (knd := intKind _ _) (enc := PyData.int) (by k_asm) N31 (fun _ h => nomatch h) (List.forall_mem_cons.mpr ⟨Ne.symm hD12, List.forall_mem_cons.mpr ⟨Nat.ne_of_lt l11.2.2.2.1, List.forall_mem_cons.mpr ⟨Nat.ne_of_lt l11.2.2.2.2.1, List.forall_mem_cons.mpr ⟨Nat.ne_of_lt l11.2.2.2.2.2.1, List.forall_mem_cons.mpr ⟨Nat.ne_of_lt l11.2.2.2.2.2.2.1, List.forall_mem_cons.mpr ⟨Nat.ne_of_lt l11.2.2.2.2.2.2.2.2, List.forall_mem_cons.mpr ⟨Nat.ne_of_lt l11.2.2.2.2.2.2.2.1, off2⟩⟩⟩⟩⟩⟩⟩) hd1 ?_ ?hsz
            case hsz =>
              have hl := hff1.length
              rw [kdfD_length] at hl
              rw [sizeLine_eq]; omega
            intro h32 o32 F32 N32 _ _
            rw [List.nil_append] at N32
            clear N31
            repeat' (first | ((fail_if_success (with_reducible show wpAny _ _ (call (Value.ref _) _) _ _ _)); first | (k_unfold; (try dsimp only)) | (k_end; wrow_close) | walk1 | (dsimp only; walk1) | (leave1; (try dsimp only))))
            k_dflt (refine' pow_spec (w := w) (c := c) (lim := bnd) (b := 2 + q3) p1 p2 hc rfl hb1 p3 p4 _ _ _ _ _ _ _ _ _ _ _ _ _ _ _ _ _ ?uB ?uF ?uX ?uC ?uD ?uN ?uT ?uk ?ud ?uu ?_; (case uB => k_asm); (case uF => k_asm); (case uX => k_asm); (case uC => k_asm); (case uD => k_asm); (case uN => k_asm); (case uT => k_asm); (case uk => first | exact rfl | assumption); (case ud => ktr_room); (case uu => ktr_units))
            refine ⟨fun _ D8 o8 kv8 h33 tk33 d33 F33 N33 hd8 hff8 lo8 l33 => ?_, fun hbad => absurd hf2 hbad⟩
            clear N32
            repeat' (first | ((fail_if_success (with_reducible show wpAny _ _ (call (Value.type _) _) _ _ _)); first | (k_unfold; (try dsimp only)) | (k_end; wrow_close) | walk1 | (dsimp only; walk1) | (leave1; (try dsimp only))))
            rename_i V9 h34 F34 N34 l34
            refine list_items (by with_unfolding_all rfl) F34 N34 (.head _) (by k_mem) hd8 hff8 (by omega) ?_
            intro B9 vs9 tu9 k9 h35 tk35 lB9 lt9 da9 F35 N35
            clear F34 N34
            repeat' (first | ((fail_if_success (with_reducible show wpAny _ _ (compareOp CmpOp.Eq _ _) _ _ _)); first | (k_unfold; (try dsimp only)) | (k_end; wrow_close) | walk1 | (dsimp only; walk1) | (leave1; (try dsimp only))))
            refine kqd_eq (n₁ := tu9) (n₂ := tl) N35 (List.mem_append_right _ (.head _)) rfl rfl da9 (fun p hp => List.mem_append_left _ hp) (List.mem_append_right _ (.tail _ (.tail _ (.tail _ (.tail _ (.head _)))))) rfl rfl hda (fun p hp => List.mem_append_right _ (.tail _ (.tail _ (.tail _ (.tail _ (.tail _ (.tail _ (.tail _ (.tail _ (.tail _ (.tail _ (.tail _ hp)))))))))))) (pr_ok _) (pr_ok _) (by ke_room) ?_
            rw [dec_self]
            k_unfold
            dsimp only
            rw [hgh]
            refine ⟨goodW_bool F35 hg (raisesW_false ?rai) ?post rfl, GrownAt.of N35 (List.mem_append_right _ (.tail _ (.tail _ (.tail _ (.tail _ (.tail _ (.tail _ (.tail _ (.tail _ (.tail _ (.tail _ (.head _)))))))))))), GrownAt.of N35 (List.mem_append_right _ (.tail _ (.tail _ (.tail _ (.tail _ (.tail _ (.tail _ (.tail _ (.tail _ (.tail _ (.head _))))))))))), trivial⟩
            case rai => wrow_none_raised
            case post => wrow_post)
end
end Mine
theorem PySem.Challenge.cw_wy0067_01_holds : PySem.Challenge.rw_wy0067_01.Holds :=
  Mine.law_holds
