import PyProof.Rows.All
import Wide.All
import OpenK.AllK
import Wide.FinOn
import PySem.Challenge.RW_xg0042_01
open PySem PySem.W PyProof.Rows
set_option Elab.async false
namespace Mine
set_option maxRecDepth 100000 in
set_option maxHeartbeats 8000000 in
open_top hd for PySem.Challenge.rw_xg0042_01
end Mine
local macro_rules | `(tactic| walk_at "m_enterC") => `(tactic| (k_dflt (refine' code_defC ?k1 ?k2 ?k3 ?k4 ?k5 ?kA ?kF ?kK ?k6 ?k7 ?k8 ?k9 ?kB ?kD ?_ ?c2 ?c3 ?c4; (case kA => exact rfl); (case kF => exact rfl); (case kK => first | exact rfl | assumption); (case k1 => k_asm); (case k2 => k_asm); (case k3 => k_asm); (case k4 => k_asm); (case k5 => k_asm); (case k6 => k_is); (case k7 => k_is); (case k8 => ktr_room); (case k9 => first | exact BindsTo.of_eq rfl | exact binds_K (by k_in) rfl (by k_is) rfl rfl rfl); (case kB => exact rfl); (case kD => decide +kernel); (case c2 => exact rfl); (case c3 => exact rfl); (case c4 => exact rfl); k_whole; intro g' L' h' tk' cells' FG' F' N' Y' B' X' T' l1; (try k_lt l1); k_cells Y'; (try simp only [List.cons_append, List.nil_append] at N'); (try dsimp only); (try k_lift B'); (try k_fold))))
local macro_rules | `(tactic| walk_at "m_enterN") => `(tactic| (k_dflt (refine' code_nest ?k1 ?k2 ?k3 ?k4 ?k5 ?kA ?kF ?kK ?k6 ?k7 ?k8 ?k9 ?kB ?_ ?c2 ?c3 ?c4 ?c5; (case kA => exact rfl); (case kF => exact rfl); (case kK => first | exact rfl | assumption); (case k1 => k_asm); (case k2 => k_asm); (case k3 => k_asm); (case k4 => k_asm); (case k5 => k_asm); (case k6 => k_mem); (case k7 => exact codeRec_news (by k_asm) (by k_mem) (by assumption) (by assumption)); (case k8 => ktr_room); (case k9 => exact BindsTo.of_eq rfl); (case c5 => decide); (case kB => exact locs rfl); (case c2 => exact rfl); (case c3 => exact rfl); (case c4 => exact rfl); k_whole; intro g' L' h' FG' F' N' B' X' T'; (try dsimp only); (try k_lift B'); (try k_fold))))
namespace Mine
abbrev Led := List (Addr × Obj)
abbrev prg : Program := PySem.Challenge.rw_xg0042_01.row.prog
/-- the contract of a call of the text's own def at address f -/
def Tell (w : World) (f : Addr) (news : Led) (vs : List Value) (d : Nat) (Out : Value → Led → Prop) : Prop :=
  ∀ (p : Program) (loose : List Str) (mean : ExcName → Option Value) (mg mb : Str → Option Value) (dp un : Nat) (gd : Option (List Code)) (cn : Str) (cs : Scope) (a : Addr) (ccd : Value) (cl : List (Str × Addr)) (outer : List Env) (A₀ : Around) (base h₀ : Heap) (L : Addr) (m : Str → Option Value) (s : Shared) (Q E : Value → Shared → Prop),
    Below A₀ base outer h₀ → Fr h₀ L s.heap m → (Mine.hd.heap_39 w.params).In h₀ → News h₀ L s.heap news → Top p loose mean mg mb h₀ → cs.kind = .function → dp + d < recursionLimit → un + 8 * d < cLine →
    (∀ r news' h' tk', Fr h₀ L h' m → News h₀ L h' news' → Out r news' → Q r { s with heap := h', toks := tk' }) →
    wpAny (model PySem.Challenge.rw_xg0042_01.row.prog w) (ktrTop dp un gd cn cs L a ccd cl outer) (call (.ref f) vs) Q E s
theorem Tell.use {w : World} {f : Addr} {news : Led} {vs : List Value} {d : Nat} {Out : Value → Led → Prop} (C : Tell w f news vs d Out)
  {p : Program} {loose : List Str} {mean : ExcName → Option Value} {mg mb : Str → Option Value} {dp un : Nat} {gd : Option (List Code)} {cn : Str} {cs : Scope} {a : Addr} {ccd : Value} {cl : List (Str × Addr)} {outer : List Env} {A₀ : Around} {base h₀ : Heap} {L : Addr} {m : Str → Option Value} {s : Shared} {Q E : Value → Shared → Prop}
    (B : Below A₀ base outer h₀) (F : Fr h₀ L s.heap m) (X : (Mine.hd.heap_39 w.params).In h₀) (N : News h₀ L s.heap news) (T : Top p loose mean mg mb h₀) (hk : cs.kind = .function) (hd : dp + d < recursionLimit) (hu : un + 8 * d < cLine)
    (ret : ∀ r news' h' tk', Fr h₀ L h' m → News h₀ L h' news' → Out r news' → Q r { s with heap := h', toks := tk' }) :
    wpAny (model PySem.Challenge.rw_xg0042_01.row.prog w) (ktrTop dp un gd cn cs L a ccd cl outer) (call (.ref f) vs) Q E s := C _ _ _ _ _ _ _ _ _ _ _ _ _ _ _ _ _ _ _ _ _ _ B F X N T hk hd hu ret
theorem fillme : PySem.Challenge.rw_xg0042_01 = PySem.Challenge.rw_xg0042_01 ∧ Mine.hd.heap_39 = Mine.hd.heap_39 := ⟨rfl, rfl⟩
end Mine
namespace Mine
/-- the names are bound so -/
inductive Bnd (m : Str → Option Value) : List (Str × Value) → Prop where
  | nil : Bnd m []
  | cons {x : Str} {v : Value} {r : List (Str × Value)} : m x = some v → Bnd m r → Bnd m ((x, v) :: r)
theorem Bnd.all {m : Str → Option Value} : ∀ {ps : List (Str × Value)}, Bnd m ps → ∀ p ∈ ps, m p.1 = some p.2
  | _, .nil => fun _ h => nomatch h
  | _, .cons h r => List.forall_mem_cons.mpr ⟨h, r.all⟩
/-- the frame map of a loop's turn: the named values, the forgotten stored names, the rest as it stood -/
abbrev lm (stored : List Str) (u m₀ : Str → Option Value) (ps : List (Str × Value)) : Str → Option Value := kstB (fun z => if stored.contains z then u z else m₀ z) ps

theorem off_upd {x : Str} {v : Option Value} {m m₀ : Str → Option Value} {stored : List Str} (hx : stored.contains x = true) (h : ∀ z, stored.contains z = false → m z = m₀ z) : ∀ z, stored.contains z = false → (if z = x then v else m z) = m₀ z := by
  intro z hz
  have : z ≠ x := by rintro rfl; rw [hx] at hz; cases hz
  rw [if_neg this]; exact h z hz
theorem off_lm {stored : List Str} {u m₀ : Str → Option Value} : ∀ {ps : List (Str × Value)}, (ps.all fun p => stored.contains p.1) = true → ∀ z, stored.contains z = false → lm stored u m₀ ps z = m₀ z
  | [], _, z, hz => by show (if stored.contains z = true then u z else m₀ z) = m₀ z; rw [hz]; simp
  | p :: r, h, z, hz => by
    rw [List.all_cons, Bool.and_eq_true] at h
    have : z ≠ p.1 := by rintro rfl; rw [h.1] at hz; cases hz
    show (if z = p.1 then some p.2 else kstB (fun z => if stored.contains z then u z else m₀ z) r z) = m₀ z
    rw [if_neg this]; exact off_lm h.2 z hz
theorem off_lm2 {stored st2 : List Str} {u m₀ m₂ : Str → Option Value} (h0 : ∀ z, stored.contains z = false → m₀ z = m₂ z) : ∀ {ps : List (Str × Value)}, (ps.all fun p => stored.contains p.1) = true → (st2.all fun p => stored.contains p) = true → ∀ z, stored.contains z = false → lm st2 u m₀ ps z = m₂ z
  | [], _, h2, z, hz => by
    show (if st2.contains z = true then u z else m₀ z) = m₂ z
    cases h3 : st2.contains z with
    | false => simp; exact h0 z hz
    | true =>
      have := List.all_eq_true.mp h2 z (by simpa using h3)
      rw [this] at hz; cases hz
  | p :: r, h, h2, z, hz => by
    rw [List.all_cons, Bool.and_eq_true] at h
    have : z ≠ p.1 := by rintro rfl; rw [h.1] at hz; cases hz
    show (if z = p.1 then some p.2 else kstB (fun z => if st2.contains z then u z else m₀ z) r z) = m₂ z
    rw [if_neg this]; exact off_lm2 h0 h.2 h2 z hz
theorem lm_eq {stored : List Str} {m₀ m₁ : Str → Option Value} {ps : List (Str × Value)} (h1 : ∀ p ∈ ps, m₁ p.1 = some p.2) (h2 : ∀ z, stored.contains z = false → m₁ z = m₀ z) : lm stored m₁ m₀ ps = m₁ := by
  funext z
  refine kstB_eq h1 fun _ => ?_
  show (if stored.contains z = true then m₁ z else m₀ z) = m₁ z
  cases h3 : stored.contains z with
  | true => simp
  | false => simp; exact (h2 z h3).symm

def WSt {σ : Type} (Ld : σ → Led) (ps : σ → List (Str × Value)) (stored : List Str) (m₀ : Str → Option Value) (P : Nat → σ → Prop) (n : Nat) (m : Str → Option Value) (nx : Led) : Prop :=
  ∃ c : σ, nx = Ld c ∧ Bnd m (ps c) ∧ (∀ z, stored.contains z = false → m z = m₀ z) ∧ P n c

section
variable {prog : Program} {w : World} {A : Around} {E : Value → Shared → Prop} {Q : Flow → Shared → Prop} {s : Shared} {env : Env} {h₀ : Heap} {L : Addr}
/-- what a turn of a while must bring about -/
def WEnd (h₀ : Heap) (L : Addr) (s : Shared) {σ : Type} (Ld : σ → Led) (ps : σ → List (Str × Value)) (stored : List Str) (m₀ : Str → Option Value) (P : Nat → σ → Prop) (n : Nat) (f : Flow) (s₃ : Shared) : Prop :=
  f = .next ∧ ∃ h' tk m₂ news₂ c n', s₃ = { s with heap := h', toks := tk } ∧ Fr h₀ L h' m₂ ∧ News h₀ L h' news₂ ∧ (∀ p ∈ Ld c, p ∈ news₂) ∧ Bnd m₂ (ps c) ∧ (∀ z, stored.contains z = false → m₂ z = m₀ z) ∧ n' < n ∧ P n' c
theorem WEnd.intro {σ : Type} {Ld : σ → Led} {ps : σ → List (Str × Value)} {stored : List Str} {m₀ : Str → Option Value} {P : Nat → σ → Prop} {n : Nat} (c : σ) (n' : Nat) {h' : Heap} {tk : Nat} {m₂ : Str → Option Value} {news₂ : Led}
   (F : Fr h₀ L h' m₂) (N : News h₀ L h' news₂) (h1 : ∀ p ∈ Ld c, p ∈ news₂) (h2 : Bnd m₂ (ps c)) (h3 : ∀ z, stored.contains z = false → m₂ z = m₀ z) (h4 : n' < n) (h5 : P n' c) :
   WEnd h₀ L s Ld ps stored m₀ P n .next { s with heap := h', toks := tk } := ⟨rfl, h', tk, m₂, news₂, c, n', rfl, F, N, h1, h2, h3, h4, h5⟩
theorem while_st {σ : Type} {test : Expr} {body : List Stmt} {pos : Pos} {m₀ : Str → Option Value} {news : Led} (Ld : σ → Led) (ps : σ → List (Str × Value)) (stored : List Str) (P : Nat → σ → Prop) (n₀ : Nat) (c₀ : σ)
    (F : Fr h₀ L s.heap m₀) (N : News h₀ L s.heap news) (hl : ∀ p ∈ Ld c₀, p ∈ news) (hp : Bnd m₀ (ps c₀)) (hP : P n₀ c₀)
    (turn : ∀ n c u h₁ tk₁, P n c → Fr h₀ L h₁ (lm stored u m₀ (ps c)) → News h₀ L h₁ (Ld c) →
      wpAny (model prog w) A (isTrue test env (eval test env)) (fun b s₂ =>
        if b = true then wpAny (model prog w) A (execs body env) (WEnd h₀ L s Ld ps stored m₀ P n) E s₂ else Q .next s₂) E { s with heap := h₁, toks := tk₁ })
    (hE : PassesOwn (model prog w) A env E) :
    wpAny (model prog w) A (exec (.While test body [] pos) env) Q E s := by
  refine While_inv (WSt Ld ps stored m₀ P) (n₀ := n₀) (news := Ld c₀) F (fun p hq => N p (hl p hq)) ⟨c₀, rfl, hp, fun _ _ => rfl, hP⟩ ?_ hE
  rintro n m₁ news₁ h₁ tk₁ F₁ N₁ ⟨c, rfl, h1, h2, h3⟩
  have F₂ : Fr h₀ L h₁ (lm stored m₁ m₀ (ps c)) := by rw [lm_eq h1.all h2]; exact F₁
  refine wpAny_mono (turn n c m₁ h₁ tk₁ h3 F₂ N₁) (fun b s₂ h => ?_) fun _ _ x => x
  cases b with
  | false => exact h
  | true =>
    simp only [if_true] at h ⊢
    refine wpAny_mono h (fun f s₃ h' => ?_) fun _ _ x => x
    obtain ⟨rfl, h', tk, m₂, news₂, c', n', rfl, F', N', q1, q2, q3, q4, q5⟩ := h'
    exact ⟨rfl, h', tk, m₂, Ld c', n', rfl, F', fun p hp => N' p (q1 p hp), q4, c', rfl, q2, q3, q5⟩
end
/-- the walk stops here -/
def Stop (P : Prop) : Prop := P
theorem Stop.mk {P : Prop} (h : Stop P) : P := h
theorem Stop.out {P : Prop} (h : P) : Stop P := h
/-- numbers below x -/
def cntLt (ns : List Int) (x : Int) : Nat := ns.countP (fun a => decide (a < x))
theorem cnt_of_split : ∀ {ns : List Int} {x : Int} {r : Nat}, r ≤ ns.length → (∀ i, i < r → ns.getD i 0 < x) → (∀ i, r ≤ i → i < ns.length → x ≤ ns.getD i 0) → cntLt ns x = r
  | [], x, r, h, _, _ => by simp only [List.length_nil, Nat.le_zero] at h; subst h; rfl
  | a :: ns, x, 0, _, _, h2 => by
    have ha := h2 0 (Nat.le_refl _) (by simp)
    simp only [List.getD_cons_zero] at ha
    have ih := cnt_of_split (ns := ns) (x := x) (r := 0) (Nat.zero_le _) (fun i hi => absurd hi (Nat.not_lt_zero _)) (fun i hi hl => by have := h2 (i+1) (Nat.zero_le _) (by simpa using hl); simpa using this)
    unfold cntLt at *
    rw [List.countP_cons, ih]
    simp; omega
  | a :: ns, x, r + 1, h, h1, h2 => by
    have ha := h1 0 (Nat.succ_pos _)
    simp only [List.getD_cons_zero] at ha
    have ih := cnt_of_split (ns := ns) (x := x) (r := r) (by simpa using h) (fun i hi => by have := h1 (i+1) (by omega); simpa using this) (fun i hi hl => by have := h2 (i+1) (by omega) (by simpa using hl); simpa using this)
    unfold cntLt at *
    rw [List.countP_cons, ih]
    simp [ha]
end Mine
namespace Mine
section
variable {prog : Program} {w : World} {A : Around} {E : Value → Shared → Prop} {s : Shared} {a b n : Int} {t u : Tok} {Q : Value → Shared → Prop}
theorem lsh_S (hn : Stop (0 ≤ n ∧ (Builtin.Int.intBits a : Int) + n ≤ 2 ^ 27)) (h : Q (.int (a * 2 ^ n.toNat) s.toks) { s with toks := s.toks + 1 }) : wpAny (model prog w) A (binaryOp .LShift (.int a t) (.int n u)) Q E s := lshift_int hn.1 hn.2 h
theorem ilsh_S (hn : Stop (0 ≤ n ∧ (Builtin.Int.intBits a : Int) + n ≤ 2 ^ 27)) (h : Q (.int (a * 2 ^ n.toNat) s.toks) { s with toks := s.toks + 1 }) : wpAny (model prog w) A (inplaceOp .LShift (.int a t) (.int n u)) Q E s := ilshift_int hn.1 hn.2 h
theorem rsh_S (hn : Stop (0 ≤ n)) (h : Q (.int (a / 2 ^ n.toNat) s.toks) { s with toks := s.toks + 1 }) : wpAny (model prog w) A (binaryOp .RShift (.int a t) (.int n u)) Q E s :=
  rshift_int hn (by rw [Int.fdiv_eq_ediv_of_nonneg _ (Int.le_of_lt (kbt_pos _))]; exact h)
theorem irsh_S (hn : Stop (0 ≤ n)) (h : Q (.int (a / 2 ^ n.toNat) s.toks) { s with toks := s.toks + 1 }) : wpAny (model prog w) A (inplaceOp .RShift (.int a t) (.int n u)) Q E s :=
  irshift_int hn (by rw [Int.fdiv_eq_ediv_of_nonneg _ (Int.le_of_lt (kbt_pos _))]; exact h)
theorem mul_S (hm : Stop (IntMulOk a b)) (h : Q (.int (a * b) s.toks) { s with toks := s.toks + 1 }) : wpAny (model prog w) A (binaryOp .Mult (.int a t) (.int b u)) Q E s := PyProof.Rows.mul_int h hm
theorem fdv_S (hp : Stop (0 < b ∧ b < 1073741824)) (h : Q (.int (a / b) s.toks) { s with toks := s.toks + 1 }) : wpAny (model prog w) A (binaryOp .FloorDiv (.int a t) (.int b u)) Q E s :=
  floordiv_int (by have := hp.1; omega) (by rw [Int.fdiv_eq_ediv_of_nonneg _ (Int.le_of_lt hp.1)]; exact h) (.inl (PyProof.noPylong_small (by have := hp.1; have := hp.2; omega)))
theorem md_S (hp : Stop (0 < b)) (h : Q (.int (a % b) s.toks) { s with toks := s.toks + 1 }) : wpAny (model prog w) A (binaryOp .Mod (.int a t) (.int b u)) Q E s :=
  mod_int' (Int.ne_of_gt hp) (by rw [Int.fmod_eq_emod_of_nonneg _ (Int.le_of_lt hp)]; exact h)
theorem len_S {h₀ : Heap} {L l : Addr} {news : Led} {us : List Value} {c : Nat} (N : News h₀ L s.heap news) (hm : (l, listOf us.toArray c) ∈ news) (h : ∀ tk, Q (.int (us.length : Int) tk) { s with toks := tk + 1 }) (hp : Stop (us.length < 2 ^ 60)) :
    wpAny (model prog w) A (call (.builtin "len") [.ref l]) Q E s := by
  have hl : s.heap.IsList l us.toArray := ⟨_, (N _ hm).1, rfl, c, rfl⟩
  have hp' : us.length < 2 ^ 60 := hp
  have := h (s.toks + 1)
  exact len_list hl (by rw [List.size_toArray]; omega) (by rw [List.size_toArray]; exact this)
end
theorem bits_of {x : Int} {m : Nat} (h0 : 0 ≤ x) (h : x < 2 ^ m) : Builtin.Int.intBits x ≤ m := by
  rw [intBits_le_iff]
  have : (x.natAbs : Int) < ((2 ^ m : Nat) : Int) := by rw [kbt_cast]; omega
  exact_mod_cast this
end Mine
local macro_rules | `(tactic| walk_at "call ref") => `(tactic| (refine Mine.Stop.mk ?_))
local macro_rules | `(tactic| walk_at "exec While Compare cons nil") => `(tactic| (refine Mine.Stop.mk ?_))
local macro_rules | `(tactic| walk_at "pyIter ref") => `(tactic| (refine Mine.Stop.mk ?_))
local macro_rules | `(tactic| walk_at "binaryOp LShift int int") => `(tactic| (k_here; with_reducible refine Mine.lsh_S ?_ ?_))
local macro_rules | `(tactic| walk_at "binaryOp RShift int int") => `(tactic| (k_here; with_reducible refine Mine.rsh_S ?_ ?_))
namespace Mine
def sorted (ns : List Int) : Prop := ∀ i j, i ≤ j → j < ns.length → ns.getD i 0 ≤ ns.getD j 0
set_option maxRecDepth 100000 in
set_option maxHeartbeats 8000000 in
theorem bis_tell (w : World) (l : Addr) (vs : List Value) (ns : List Int) (ep : Nat) (x : Int) (tx : Tok) (own : Led) (hi : IntsAre vs ns) (hlen : ns.length < 2 ^ 24) (hs : sorted ns)
  (as : List Value) (ha : as = [.ref l, .int x tx] ∨ ∃ t, as = [.ref l, .int x tx, .int 0 t, .none]) :
  Tell w 70 ((l, listOf vs.toArray ep) :: own) as 1 (fun r news' => ∃ t, r = .int (cntLt ns x) t ∧ news' = (l, listOf vs.toArray ep) :: own) := by
  (((have hz : PySem.Challenge.rw_xg0042_01 = PySem.Challenge.rw_xg0042_01 ∧ Mine.hd.heap_39 = Mine.hd.heap_39 := by (k_fill; exact ⟨rfl, rfl⟩)); clear hz))
  unfold Tell
  intro p loose mean mg mb dp un gd cn cs a ccd cl outer A₀ base h₀ L m s Q E B F X N T hk hd hu hret
  refine wpAny_call ?_
  rcases ha with rfl | ⟨t0, rfl⟩
  all_goals ((k_dflt (refine' code_def ?k1e2 ?k2e2 ?k3e2 ?k4e2 ?k5e2 ?kAe2 ?kFe2 ?kKe2 ?k6e2 ?k7e2 ?k8e2 ?k9e2 ?kBe2 ?_ ?c2e2 ?c3e2 ?c4e2 ?c5e2; (case kAe2 => exact rfl); (case kFe2 => exact rfl); (case kKe2 => first | exact rfl | assumption); (case k1e2 => k_asm); (case k2e2 => k_asm); (case k3e2 => k_asm); (case k4e2 => k_asm); (case k5e2 => k_asm); (case k6e2 => k_is); (case k7e2 => k_is); (case k8e2 => ktr_room); (case k9e2 => first | exact BindsTo.of_eq rfl | exact binds_K (by k_in) rfl (by k_is) rfl rfl rfl | (refine' kp_binds ?kXe2 ?kPe2; (case kXe2 => k_in); (case kPe2 => intro S; with_unfolding_all rfl))); (case c5e2 => decide); (case kBe2 => exact locs rfl); (case c2e2 => exact rfl); (case c3e2 => exact rfl); (case c4e2 => exact rfl); k_whole; intro g' L' h' FG' F' N' B' X' T'; (try dsimp only); (try k_lift B'); (try k_fold))))
  all_goals (with_unfolding_all (rename Fr _ _ _ _ => kF))
  all_goals first
    | replace kF : Fr _ _ _ (fun y => List.lookup y [(Str.ofString "key", .none), (Str.ofString "hi", .none), (Str.ofString "lo", .int 0 343), (Str.ofString "x", .int x tx), (Str.ofString "a", .ref l)]) := kF
    | replace kF : Fr _ _ _ (fun y => List.lookup y [(Str.ofString "key", .none), (Str.ofString "hi", .none), (Str.ofString "lo", .int 0 t0), (Str.ofString "x", .int x tx), (Str.ofString "a", .ref l)]) := kF
  all_goals
    k_steps
    refine Stop.out ?_
    with_unfolding_all (rename Fr _ _ _ _ => kF)
    with_unfolding_all (rename News _ _ _ _ => kN)
    with_unfolding_all
     refine' while_st (σ := Int × Int × Nat × Nat) (fun _ => (l, listOf vs.toArray ep) :: own) (fun c => [(Str.ofString "lo", .int c.1 c.2.2.1), (Str.ofString "hi", .int c.2.1 c.2.2.2)]) [Str.ofString "lo", Str.ofString "hi", Str.ofString "mid"]
      (fun n c => 0 ≤ c.1 ∧ c.1 ≤ c.2.1 ∧ c.2.1 ≤ ns.length ∧ n = (c.2.1 - c.1).toNat ∧ (∀ i, i < c.1.toNat → ns.getD i 0 < x) ∧ (∀ i, c.2.1.toNat ≤ i → i < ns.length → x ≤ ns.getD i 0)) ns.length (0, ns.length, _, _) kF kN (fun p hp => hp) (.cons rfl (.cons rfl .nil)) ?_ ?_ ?_
    · dsimp only; refine ⟨by omega, by omega, by omega, by simp, fun i hi => absurd hi (Nat.not_lt_zero _), fun i hi hl => by simp at hi; omega⟩
    · rintro n ⟨lo, hi', t1, t2⟩ u h₁ tk₁ ⟨p1, p2, p3, p4, p5, p6⟩ F₁ N₁
      dsimp only at p1 p2 p3 p4 p5 p6 F₁
      clear kF kN
      try k_fold
      k_steps
      · have e2 := Int.fdiv_eq_ediv_of_nonneg (lo + hi') (b := 2) (by decide)
        (rename ns.getD _ 0 < x => q)
        (rename lo < hi' => q2)
        try dsimp only at q
        rw [e2] at q
        with_unfolding_all
         refine' WEnd.intro ((lo + hi').fdiv 2 + 1, hi', _, _) (hi' - ((lo + hi') / 2 + 1)).toNat (by assumption) (by assumption) (fun p hp => hp) (.cons rfl (.cons rfl .nil)) (off_upd rfl (off_upd rfl (off_lm rfl))) ?_ ?_
        · omega
        · dsimp only
          rw [e2]
          refine ⟨by omega, by omega, by omega, rfl, fun i hi => ?_, p6⟩
          exact Int.lt_of_le_of_lt (hs i _ (by omega) (by omega)) q
      · have e2 := Int.fdiv_eq_ediv_of_nonneg (lo + hi') (b := 2) (by decide)
        (rename ¬ ns.getD _ 0 < x => q)
        (rename lo < hi' => q2)
        try dsimp only at q
        rw [e2] at q
        with_unfolding_all
         refine' WEnd.intro (lo, (lo + hi').fdiv 2, _, _) ((lo + hi') / 2 - lo).toNat (by assumption) (by assumption) (fun p hp => hp) (.cons rfl (.cons rfl .nil)) (off_upd rfl (off_upd rfl (off_lm rfl))) ?_ ?_
        · omega
        · dsimp only
          rw [e2]
          refine ⟨by omega, by omega, by omega, rfl, p5, fun i hi hl => ?_⟩
          exact Int.le_trans (Int.not_lt.mp q) (hs _ i (by omega) hl)
      · (rename ¬ lo < hi' => q2)
        have hh : hi' = lo := by omega
        subst hh
        have e3 := cnt_of_split (ns := ns) (x := x) (r := hi'.toNat) (by omega) p5 p6
        exact hret _ _ _ _ (by assumption) (by assumption) ⟨_, by rw [e3, Int.toNat_of_nonneg p1], rfl⟩
    · unfold ek
      passes_own
end Mine
namespace Mine
def insP (ns : List Int) (x : Int) : List Int := ns.take (cntLt ns x) ++ x :: ns.drop (cntLt ns x)
theorem cntLt_le (ns : List Int) (x : Int) : cntLt ns x ≤ ns.length := List.countP_le_length
theorem fits_idx {n : Nat} (h : n < 2 ^ 24) : Builtin.List.listFitsIndex (n : Int) = true := by
  unfold Builtin.List.listFitsIndex
  simp; omega
theorem ins_ints {vs : List Value} {ns : List Int} {x : Int} {tx : Tok} (hi : IntsAre vs ns) : IntsAre (kl_ins vs (cntLt ns x : Int) (.int x tx)) (insP ns x) := by
  unfold kl_ins insP
  have h1 : ¬ ((cntLt ns x : Int) < 0) := by omega
  have h2 : min (cntLt ns x : Int).toNat vs.length = cntLt ns x := by have := cntLt_le ns x; have := hi.length; simp; omega
  rw [if_neg h1, h2]
  exact IntsAre.append (hi.take _) (.cons x tx (hi.drop _))
set_option maxRecDepth 100000 in
set_option maxHeartbeats 8000000 in
theorem ins_tell (w : World) (l : Addr) (vs : List Value) (ns : List Int) (ep : Nat) (x : Int) (tx : Tok) (own : Led) (hi : IntsAre vs ns) (hlen : ns.length < 2 ^ 20) (hs : sorted ns) (hown : ∀ p ∈ own, p.1 ≠ l) :
  Tell w 61 ((l, listOf vs.toArray ep) :: own) [.ref l, .int x tx] 2 (fun r news' => r = .none ∧ ∃ vs' ep', IntsAre vs' (insP ns x) ∧ news' = (l, listOf vs'.toArray ep') :: own) := by
  (((have hz : PySem.Challenge.rw_xg0042_01 = PySem.Challenge.rw_xg0042_01 ∧ Mine.hd.heap_39 = Mine.hd.heap_39 := by (k_fill; exact ⟨rfl, rfl⟩)); clear hz))
  unfold Tell
  intro p loose mean mg mb dp un gd cn cs a ccd cl outer A₀ base h₀ L m s Q E B F X N T hk hd hu hret
  refine wpAny_call ?_
  ((k_dflt (refine' code_def ?k1e5 ?k2e5 ?k3e5 ?k4e5 ?k5e5 ?kAe5 ?kFe5 ?kKe5 ?k6e5 ?k7e5 ?k8e5 ?k9e5 ?kBe5 ?_ ?c2e5 ?c3e5 ?c4e5 ?c5e5; (case kAe5 => exact rfl); (case kFe5 => exact rfl); (case kKe5 => first | exact rfl | assumption); (case k1e5 => k_asm); (case k2e5 => k_asm); (case k3e5 => k_asm); (case k4e5 => k_asm); (case k5e5 => k_asm); (case k6e5 => k_is); (case k7e5 => k_is); (case k8e5 => ktr_room); (case k9e5 => first | exact BindsTo.of_eq rfl | exact binds_K (by k_in) rfl (by k_is) rfl rfl rfl | (refine' kp_binds ?kXe5 ?kPe5; (case kXe5 => k_in); (case kPe5 => intro S; with_unfolding_all rfl))); (case c5e5 => decide); (case kBe5 => exact locs rfl); (case c2e5 => exact rfl); (case c3e5 => exact rfl); (case c4e5 => exact rfl); k_whole; intro g' L' h' FG' F' N' B' X' T'; (try dsimp only); (try k_lift B'); (try k_fold)))); (with_unfolding_all (rename Fr _ _ _ _ => kF)); replace kF : Fr _ _ _ (fun y => List.lookup y [(Str.ofString "key", .none), (Str.ofString "hi", .none), (Str.ofString "lo", .int 0 330), (Str.ofString "x", .int x tx), (Str.ofString "a", .ref l)]) := kF
  k_steps
  refine Stop.out ?_

  (k_dflt (refine' Tell.use (bis_tell w l vs ns ep x tx own hi (by omega) hs _ (.inr ⟨_, rfl⟩)) ?kBc3 ?kFc3 ?kXc3 ?kNc3 ?kTc3 ?kKc3 ?kdc3 ?kuc3 ?kRc3; (case kBc3 => k_asm); (case kFc3 => k_asm); (case kXc3 => k_asm); (case kNc3 => k_asm); (case kTc3 => k_asm); (case kKc3 => first | exact rfl | assumption); (case kdc3 => ktr_room); (case kuc3 => ktr_units)))
  rintro r9 news9 h9 tk9 F9 N9 ⟨t9, rfl, rfl⟩
  clear kF
  (try dsimp only)
  (try k_fold)
  k_steps
  (with_unfolding_all (rename Fr _ _ _ _ => kF))
  (with_unfolding_all (rename News _ _ _ _ => kN))
  with_unfolding_all
   refine' kl_insert kF kN (fits_idx (Nat.lt_of_le_of_lt (cntLt_le _ _) (by omega))) rfl (.head hown) ?_ ?_
  · rw [sizeLine_eq]; show vs.length ≤ _; rw [hi.length]; omega
  · intro h9 F9 N9
    clear kF kN
    k_steps

    exact hret _ _ _ _ (by assumption) (by assumption) ⟨rfl, _, _, ins_ints hi, rfl⟩
end Mine
namespace Mine
theorem bitOr_nn {x y : Int} (hx : 0 ≤ x) (hy : 0 ≤ y) : Builtin.bitOr x y = ((x.toNat ||| y.toNat : Nat) : Int) := by
  obtain ⟨a, rfl⟩ := Int.eq_ofNat_of_zero_le hx
  obtain ⟨b, rfl⟩ := Int.eq_ofNat_of_zero_le hy
  have e1 : (-(-(a : Int) - 1) - 1).toNat = a := by omega
  have e2 : (-(-(b : Int) - 1) - 1).toNat = b := by omega
  simp only [Builtin.bitOr, Builtin.bitAnd, Builtin.bitNot, e1, e2, Int.toNat_natCast]
  split <;> rename_i h1 h2 <;> simp at h1 h2 <;> omega
theorem bitOr_low {x y : Int} {k : Nat} (hx : 0 ≤ x) (hy : 0 ≤ y) (h : y < 2 ^ k) : Builtin.bitOr (x * 2 ^ k) y = x * 2 ^ k + y := by
  have hp := kbt_pos k
  rw [bitOr_nn (Int.mul_nonneg hx (Int.le_of_lt hp)) hy]
  obtain ⟨a, rfl⟩ := Int.eq_ofNat_of_zero_le hx
  obtain ⟨b, rfl⟩ := Int.eq_ofNat_of_zero_le hy
  have e : ((a : Int) * 2 ^ k) = ((2 ^ k * a : Nat) : Int) := by rw [Int.natCast_mul, kbt_cast, Int.mul_comm]
  rw [e]
  have hb : b < 2 ^ k := by
    have : (b : Int) < ((2 ^ k : Nat) : Int) := by rw [kbt_cast]; exact h
    exact_mod_cast this
  rw [Int.toNat_natCast, Int.toNat_natCast, ← Nat.two_pow_add_eq_or_of_lt hb]
  omega
/-- the two ways of the quotient's first guess -/
theorem d3_way1 {a12 a3 b b1 b2 P : Int} (hP : 0 < P) (e : b = b1 * P + b2) (hA : a12 * P + a3 < b * P) (hq : a12 / P = b1) :
   (1 * P - 1) * b + ((a12 - b1 * P + b1) * P + a3 - (1 * P - 1) * b2) = a12 * P + a3 ∧ (a12 - b1 * P + b1) * P + a3 - (1 * P - 1) * b2 < b ∧ 0 ≤ a12 - b1 * P ∧ a12 - b1 * P < P := by
  have h1 : (1 * P - 1) * b + ((a12 - b1 * P + b1) * P + a3 - (1 * P - 1) * b2) = a12 * P + a3 := by subst e; grind
  have h2 : (1 * P - 1) * b = b * P - b := by grind
  have h3 := Int.mul_ediv_add_emod a12 P
  have h4 := Int.emod_nonneg a12 (Int.ne_of_gt hP)
  have h5 := Int.emod_lt_of_pos a12 hP
  rw [hq] at h3
  have h6 : P * b1 = b1 * P := Int.mul_comm _ _
  refine ⟨h1, by omega, by omega, by omega⟩
theorem d3_way2 {a12 a3 b b1 b2 P : Int} (hP : 0 < P) (hb1 : 0 < b1) (e : b = b1 * P + b2) (h0 : 0 ≤ a12) (h3 : a3 < P) (hb2 : 0 ≤ b2) :
   a12 / b1 * b + (a12 % b1 * P + a3 - a12 / b1 * b2) = a12 * P + a3 ∧ a12 % b1 * P + a3 - a12 / b1 * b2 < b := by
  have h1 := Int.mul_ediv_add_emod a12 b1
  have h4 := Int.emod_nonneg a12 (Int.ne_of_gt hb1)
  have h5 := Int.emod_lt_of_pos a12 hb1
  have h6 : 0 ≤ a12 / b1 := Int.ediv_nonneg h0 (Int.le_of_lt hb1)
  have h7 : 0 ≤ a12 / b1 * b2 := Int.mul_nonneg h6 hb2
  generalize a12 / b1 = q at *
  generalize a12 % b1 = r at *
  have h8 : (r + 1) * P ≤ b1 * P := Int.mul_le_mul_of_nonneg_right (by omega) (Int.le_of_lt hP)
  have h9 : (r + 1) * P = r * P + P := by grind
  refine ⟨by subst e; subst h1; grind, by omega⟩
theorem d3_pre {a12 a3 b b1 b2 P : Int} (hP : 0 < P) (e : b = b1 * P + b2) (h3 : 0 ≤ a3) (hb2 : b2 < P) (hA : a12 * P + a3 < b * P) (hq : ¬ a12 / P = b1) : a12 < b1 * P := by
  have h1 : a12 < b := by
    refine Int.lt_of_mul_lt_mul_right (a := P) ?_ (Int.le_of_lt hP)
    omega
  have h2 : a12 < (b1 + 1) * P := by have : (b1 + 1) * P = b1 * P + P := by grind
                                     omega
  have h4 : a12 / P < b1 + 1 := Int.ediv_lt_of_lt_mul hP h2
  have h5 : a12 / P < b1 := by omega
  have h6 := Int.mul_ediv_add_emod a12 P
  have h7 := Int.emod_lt_of_pos a12 hP
  have h8 : (a12 / P + 1) * P ≤ b1 * P := Int.mul_le_mul_of_nonneg_right (by omega) (Int.le_of_lt hP)
  have h9 : (a12 / P + 1) * P = P * (a12 / P) + P := by grind
  omega
theorem ediv_of {A b q r : Int} (h : q * b + r = A) (h0 : 0 ≤ r) (h1 : r < b) : q = A / b ∧ r = A % b := by
  have := kbt_unique (a := A) (b := b) (q := q) (r := r) (by omega) (by rw [← h, Int.mul_comm]; omega) h0 h1
  exact ⟨this.1.symm, this.2.symm⟩
end Mine
namespace Mine
theorem no_py {a b n : Int} (hn : 1 ≤ n) (h1 : 2 ^ (n - 1).toNat ≤ b) (h : (Builtin.Int.intBits a : Int) - n ≤ 4000) : Builtin.divisionGoesByPylong a b = false := by
  have b0 : 0 < b := Int.lt_of_lt_of_le (kbt_pos _) h1
  have hb : ¬ Builtin.Int.intBits b ≤ (n - 1).toNat := by
    rw [intBits_le_iff]
    intro hh
    have : (b.natAbs : Int) < ((2 ^ (n - 1).toNat : Nat) : Int) := by exact_mod_cast hh
    rw [kbt_cast] at this
    omega
  unfold Builtin.Int.intBits at h hb
  unfold Builtin.divisionGoesByPylong
  have hb0 : (b == 0) = false := by simp; omega
  rw [hb0] at hb
  simp only [hb0, Bool.false_eq_true, if_false] at hb ⊢
  cases ha : (a == 0) with
  | true => simp
  | false =>
    rw [ha] at h
    simp only [Bool.false_eq_true, if_false] at h ⊢
    rw [Bool.and_eq_false_iff]
    right
    simp only [decide_eq_false_iff_not, gt_iff_lt, Nat.not_lt]
    omega
theorem p1 : (2 : Int) ^ Int.toNat 1 = 2 := by decide
/-- all that the call below wants -/
theorem d2_pre {A b half N : Int} (hN : N = 2 * half) (h1 : 1 ≤ half) (hb1 : 2 ^ (N - 1).toNat ≤ b) (hb2 : b < 2 ^ N.toNat) (hA0 : 0 ≤ A) (hA : A < b * 2 ^ N.toNat) :
   0 ≤ A / 2 ^ N.toNat ∧ 0 ≤ Builtin.bitAnd (A / 2 ^ half.toNat) (1 * 2 ^ half.toNat - 1) ∧ Builtin.bitAnd (A / 2 ^ half.toNat) (1 * 2 ^ half.toNat - 1) < 2 ^ half.toNat ∧
   b = b / 2 ^ half.toNat * 2 ^ half.toNat + Builtin.bitAnd b (1 * 2 ^ half.toNat - 1) ∧ 0 ≤ Builtin.bitAnd b (1 * 2 ^ half.toNat - 1) ∧ Builtin.bitAnd b (1 * 2 ^ half.toNat - 1) < 2 ^ half.toNat ∧
   2 ^ (half - 1).toNat ≤ b / 2 ^ half.toNat ∧ b / 2 ^ half.toNat < 2 ^ half.toNat ∧
   A / 2 ^ N.toNat * 2 ^ half.toNat + Builtin.bitAnd (A / 2 ^ half.toNat) (1 * 2 ^ half.toNat - 1) = A / 2 ^ half.toNat ∧ A / 2 ^ half.toNat < b * 2 ^ half.toNat := by
  have hp := kbt_pos half.toNat
  have hq := kbt_pos (half - 1).toNat
  have e1 : (2 : Int) ^ N.toNat = 2 ^ half.toNat * 2 ^ half.toNat := by rw [← Int.pow_add]; congr 1; omega
  have e2 : (2 : Int) ^ (N - 1).toNat = 2 ^ half.toNat * 2 ^ (half - 1).toNat := by rw [← Int.pow_add]; congr 1; omega
  rw [Int.one_mul, kbt_mask, kbt_mask, e1]
  rw [e1] at hA hb2
  rw [e2] at hb1
  generalize (2 : Int) ^ half.toNat = H at *
  generalize (2 : Int) ^ (half - 1).toNat = G at *
  have m1 := Int.mul_ediv_add_emod A H
  have m2 := Int.mul_ediv_add_emod b H
  have m3 := Int.mul_ediv_add_emod (A / H) H
  have n1 := Int.emod_nonneg A (Int.ne_of_gt hp)
  have n2 := Int.emod_nonneg b (Int.ne_of_gt hp)
  have n3 := Int.emod_nonneg (A / H) (Int.ne_of_gt hp)
  have l2 := Int.emod_lt_of_pos b hp
  have l3 := Int.emod_lt_of_pos (A / H) hp
  have d0 : A / (H * H) = A / H / H := Int.ediv_mul_of_nonneg (Int.le_of_lt hp)
  have c1 : b / H * H = H * (b / H) := Int.mul_comm _ _
  have c2 : A / H / H * H = H * (A / H / H) := Int.mul_comm _ _
  refine ⟨Int.ediv_nonneg hA0 (Int.mul_nonneg (Int.le_of_lt hp) (Int.le_of_lt hp)), n3, l3, by omega, n2, l2, ?_, Int.ediv_lt_of_lt_mul hp hb2, by rw [d0]; omega, ?_⟩
  · exact Int.le_ediv_of_mul_le hp (by rw [Int.mul_comm]; exact hb1)
  · exact Int.ediv_lt_of_lt_mul hp (by rw [Int.mul_assoc]; exact hA)
theorem d2_pre2 {A b r H : Int} (hp : 0 < H) (h1 : r < b) : r * H + A % H < b * H := by
  have l := Int.emod_lt_of_pos A hp
  have : (r + 1) * H ≤ b * H := Int.mul_le_mul_of_nonneg_right (by omega) (Int.le_of_lt hp)
  have e : (r + 1) * H = r * H + H := by grind
  omega
theorem d2_fin {A b H : Int} (hp : 0 < H) (hb : 0 < b) (h0 : 0 ≤ A) :
    A / H / b * H + (A / H % b * H + A % H) / b = A / b ∧ (A / H % b * H + A % H) % b = A % b ∧ 0 ≤ (A / H % b * H + A % H) / b ∧ (A / H % b * H + A % H) / b < H ∧ 0 ≤ A / H / b := by
  have m1 := Int.mul_ediv_add_emod A H
  have m2 := Int.mul_ediv_add_emod (A / H) b
  have n1 := Int.emod_nonneg A (Int.ne_of_gt hp)
  have n2 := Int.emod_nonneg (A / H) (Int.ne_of_gt hb)
  have l2 := Int.emod_lt_of_pos (A / H) hb
  have q0 : 0 ≤ A / H / b := Int.ediv_nonneg (Int.ediv_nonneg h0 (Int.le_of_lt hp)) (Int.le_of_lt hb)
  have pre := d2_pre2 (A := A) hp l2
  have k0 : 0 ≤ A / H % b * H + A % H := by have := Int.mul_nonneg n2 (Int.le_of_lt hp); omega
  have q3 := Int.ediv_nonneg k0 (Int.le_of_lt hb)
  have q4 : (A / H % b * H + A % H) / b < H := Int.ediv_lt_of_lt_mul hb (by rw [Int.mul_comm H b]; exact pre)
  have m4 := Int.mul_ediv_add_emod (A / H % b * H + A % H) b
  have n4 := Int.emod_nonneg (A / H % b * H + A % H) (Int.ne_of_gt hb)
  have l4 := Int.emod_lt_of_pos (A / H % b * H + A % H) hb
  have key : (A / H / b * H + (A / H % b * H + A % H) / b) * b + (A / H % b * H + A % H) % b = A := by
    generalize (A / H % b * H + A % H) / b = x at *
    generalize hy : (A / H % b * H + A % H) % b = y at *
    have e1 : (A / H / b * H + x) * b + y = b * (A / H / b) * H + (b * x + y) := by grind
    rw [e1, m4]
    have e2 : b * (A / H / b) * H + (A / H % b * H + A % H) = (b * (A / H / b) + A / H % b) * H + A % H := by grind
    rw [e2, m2]
    have : A / H * H = H * (A / H) := Int.mul_comm _ _
    omega
  obtain ⟨u1, u2⟩ := ediv_of key n4 l4
  exact ⟨u1, u2, q3, q4, q0⟩
end Mine
namespace Mine
abbrev tup2 (v w : Value) (c : Nat) : Obj := { cls := .type "tuple", data := .seq #[v, w] c }
def OutT (own : Led) (q r : Int) (v : Value) (news' : Led) : Prop :=
  ∃ D t1 t2 c, v = .ref D ∧ news' = (D, tup2 (.int q t1) (.int r t2) c) :: own ∧ ∀ p ∈ own, p.1 < D
def D2 (w : World) (N : Nat) : Prop := ∀ (a b n : Int) (ta tb tn : Tok) (own : Led), 1 ≤ n → n ≤ 2 ^ N → n ≤ 65536 → 2 ^ (n - 1).toNat ≤ b → b < 2 ^ n.toNat → 0 ≤ a → a < b * 2 ^ n.toNat →
  Tell w 38 own [.int a ta, .int b tb, .int n tn] (2 * N + 1) (OutT own (a / b) (a % b))
def D3 (w : World) (N : Nat) : Prop := ∀ (a12 a3 b b1 b2 n : Int) (t1 t2 t3 t4 t5 t6 : Tok) (own : Led), 1 ≤ n → n ≤ 2 ^ N → n ≤ 65536 → 0 ≤ a12 → 0 ≤ a3 → a3 < 2 ^ n.toNat → b = b1 * 2 ^ n.toNat + b2 → 0 ≤ b2 → b2 < 2 ^ n.toNat →
  2 ^ (n - 1).toNat ≤ b1 → b1 < 2 ^ n.toNat → a12 * 2 ^ n.toNat + a3 < b * 2 ^ n.toNat →
  Tell w 45 own [.int a12 t1, .int a3 t2, .int b t3, .int b1 t4, .int b2 t5, .int n t6] (2 * N + 2) (OutT own ((a12 * 2 ^ n.toNat + a3) / b) ((a12 * 2 ^ n.toNat + a3) % b))
local macro_rules | `(tactic| walk_at "binaryOp Mult int int") => `(tactic| (k_here; with_reducible refine mul_S ?_ ?_))
set_option maxRecDepth 100000 in
set_option maxHeartbeats 8000000 in
theorem d3_of (w : World) (N : Nat) (IH : D2 w N) : D3 w N := by
  intro a12 a3 b b1 b2 n tt1 tt2 tt3 tt4 tt5 tt6 own n1 n2 n3 q1 q2 q3 q4 q5 q6 q7 q8 q9
  (((have hz : PySem.Challenge.rw_xg0042_01 = PySem.Challenge.rw_xg0042_01 ∧ Mine.hd.heap_39 = Mine.hd.heap_39 := by (k_fill; exact ⟨rfl, rfl⟩)); clear hz))
  unfold Tell
  intro p loose mean mg mb dp un gd cn cs a ccd cl outer A₀ base h₀ L m s Q E B F X N T hk hd hu hret
  refine wpAny_call ?_
  ((k_dflt (refine' code_def ?k1e8 ?k2e8 ?k3e8 ?k4e8 ?k5e8 ?kAe8 ?kFe8 ?kKe8 ?k6e8 ?k7e8 ?k8e8 ?k9e8 ?kBe8 ?_ ?c2e8 ?c3e8 ?c4e8 ?c5e8; (case kAe8 => exact rfl); (case kFe8 => exact rfl); (case kKe8 => first | exact rfl | assumption); (case k1e8 => k_asm); (case k2e8 => k_asm); (case k3e8 => k_asm); (case k4e8 => k_asm); (case k5e8 => k_asm); (case k6e8 => k_is); (case k7e8 => k_is); (case k8e8 => ktr_room); (case k9e8 => first | exact BindsTo.of_eq rfl | exact binds_K (by k_in) rfl (by k_is) rfl rfl rfl | (refine' kp_binds ?kXe8 ?kPe8; (case kXe8 => k_in); (case kPe8 => intro S; with_unfolding_all rfl))); (case c5e8 => decide); (case kBe8 => exact locs rfl); (case c2e8 => exact rfl); (case c3e8 => exact rfl); (case c4e8 => exact rfl); k_whole; intro g' L' h' FG' F' N' B' X' T'; (try dsimp only); (try k_lift B'); (try k_fold)))); (with_unfolding_all (rename Fr _ _ _ _ => kF)); replace kF : Fr _ _ _ (fun y => List.lookup y [(Str.ofString "n", .int n tt6), (Str.ofString "b2", .int b2 tt5), (Str.ofString "b1", .int b1 tt4), (Str.ofString "b", .int b tt3), (Str.ofString "a3", .int a3 tt2), (Str.ofString "a12", .int a12 tt1)]) := kF
  have hP : (0 : Int) < 2 ^ n.toNat := kbt_pos _
  have hb0 : 0 < b1 := Int.lt_of_lt_of_le (kbt_pos _) q7
  have hbb : 0 < b := by have := Int.mul_pos hb0 hP; omega
  have hn : (n.toNat : Int) = n := by omega
  k_steps
  · exact Stop.out (by omega)
  · refine Stop.out ⟨by omega, ?_⟩
    have : Builtin.Int.intBits 1 = 1 := by decide
    omega
  · have := bits_of (Int.le_of_lt hb0) q8
    exact Stop.out ⟨by omega, by omega⟩
  · (rename a12 / 2 ^ n.toNat = b1 => hw)
    obtain ⟨w1, w2, w3, w4⟩ := d3_way1 hP q4 q9 hw
    have hx : a12 - b1 * 2 ^ n.toNat + b1 < 2 ^ (n.toNat + 1) := by rw [Int.pow_succ]; omega
    have := bits_of (by omega) hx
    exact Stop.out ⟨by omega, by omega⟩
  · have h1 := bits_of (x := 1 * 2 ^ n.toNat - 1) (m := n.toNat) (by omega) (by omega)
    have h2 := bits_of q5 q6
    exact Stop.out (IntMulOk.of_le h1 h2 (by omega))
  · (rename a12 / 2 ^ n.toNat = b1 => hw)
    obtain ⟨w1, w2, w3, w4⟩ := d3_way1 hP q4 q9 hw
    have hor : Builtin.bitOr ((a12 - b1 * 2 ^ n.toNat + b1) * 2 ^ n.toNat) a3 = (a12 - b1 * 2 ^ n.toNat + b1) * 2 ^ n.toNat + a3 := bitOr_low (by omega) q2 q3
    rw [← hor] at w1 w2
    refine Stop.out ?_
    (with_unfolding_all (rename Fr _ _ _ _ => kF))
    (with_unfolding_all (rename News _ _ _ _ => kN))
    with_unfolding_all
     refine' while_st (σ := Int × Int × Nat × Nat) (fun _ => own) (fun c => [(Str.ofString "q", .int c.1 c.2.2.1), (Str.ofString "r", .int c.2.1 c.2.2.2)]) [Str.ofString "q", Str.ofString "r"]
      (fun k c => c.1 * b + c.2.1 = a12 * 2 ^ n.toNat + a3 ∧ c.2.1 < b ∧ k = (-c.2.1).toNat) _ (1 * 2 ^ n.toNat - 1, Builtin.bitOr ((a12 - b1 * 2 ^ n.toNat + b1) * 2 ^ n.toNat) a3 - (1 * 2 ^ n.toNat - 1) * b2, _, _) kF kN ?hown (.cons rfl (.cons rfl .nil)) ⟨(And.intro w1 w2).1, (And.intro w1 w2).2, rfl⟩ ?turn ?hE
    case hown => exact fun p hp => List.mem_cons_of_mem _ hp
    case hE => unfold ek; passes_own
    case turn =>
      rintro k ⟨qq, rr, t1, t2⟩ u h₁ tk₁ ⟨p1, p2, p3⟩ F₁ N₁
      dsimp only at p1 p2 p3 F₁
      clear kF kN
      (try k_fold)
      k_steps
      · (rename rr < 0 => hneg)
        with_unfolding_all
         refine' WEnd.intro (qq - 1, rr + b, _, _) (-(rr + b)).toNat (by assumption) (by assumption) (fun p hp => hp) (.cons rfl (.cons rfl .nil)) (off_upd rfl (off_upd rfl (off_lm rfl))) ?_ ?_
        · omega
        · dsimp only
          refine ⟨?_, by omega, rfl⟩
          rw [← p1]; grind
      · (rename ¬ rr < 0 => hneg)
        obtain ⟨e1, e2⟩ := ediv_of p1 (by omega) p2
        exact hret _ _ _ _ (by assumption) (by assumption) ⟨_, _, _, _, rfl, by rw [e1, e2], by assumption⟩
  · refine Stop.out ?_
    (rename ¬ a12 / 2 ^ n.toNat = b1 => hw)
    have hpre := d3_pre hP q4 q2 q6 q9 hw
    (k_dflt (refine' Tell.use (IH a12 b1 n _ _ _ own n1 n2 n3 q7 q8 q1 hpre) ?kBc6 ?kFc6 ?kXc6 ?kNc6 ?kTc6 ?kKc6 ?kdc6 ?kuc6 ?kRc6; (case kBc6 => k_asm); (case kFc6 => k_asm); (case kXc6 => k_asm); (case kNc6 => k_asm); (case kTc6 => k_asm); (case kKc6 => first | exact rfl | assumption); (case kdc6 => ktr_room); (case kuc6 => ktr_units)))
    rintro r9 news9 h9 tk9 F9 N9 ⟨D9, t91, t92, c9, rfl, rfl, hlt9⟩
    have hr0 := Int.emod_nonneg a12 (Int.ne_of_gt hb0)
    have hr1 := Int.emod_lt_of_pos a12 hb0
    obtain ⟨w1, w2⟩ := d3_way2 hP hb0 q4 q1 q3 q5
    have hor : Builtin.bitOr ((a12 % b1) * 2 ^ n.toNat) a3 = (a12 % b1) * 2 ^ n.toNat + a3 := bitOr_low hr0 q2 q3
    rw [← hor] at w1 w2
    clear kF
    (try dsimp only)
    (try k_fold)
    k_steps
    · have := bits_of hr0 (Int.lt_trans hr1 q8)
      exact Stop.out ⟨by omega, by omega⟩
    · have hq1 : a12 / b1 < 2 ^ n.toNat := Int.ediv_lt_of_lt_mul hb0 (by rw [Int.mul_comm]; exact hpre)
      have h1 := bits_of (Int.ediv_nonneg q1 (Int.le_of_lt hb0)) hq1
      have h2 := bits_of q5 q6
      exact Stop.out (IntMulOk.of_le h1 h2 (by omega))
    · refine Stop.out ?_
      (with_unfolding_all (rename Fr _ _ _ _ => kF))
      (with_unfolding_all (rename News _ _ _ _ => kN))
      with_unfolding_all
       refine' while_st (σ := Int × Int × Nat × Nat) (fun _ => own) (fun c => [(Str.ofString "q", .int c.1 c.2.2.1), (Str.ofString "r", .int c.2.1 c.2.2.2)]) [Str.ofString "q", Str.ofString "r"]
        (fun k c => c.1 * b + c.2.1 = a12 * 2 ^ n.toNat + a3 ∧ c.2.1 < b ∧ k = (-c.2.1).toNat) _ (a12 / b1, Builtin.bitOr ((a12 % b1) * 2 ^ n.toNat) a3 - a12 / b1 * b2, _, _) kF kN ?hown (.cons rfl (.cons rfl .nil)) ⟨(And.intro w1 w2).1, (And.intro w1 w2).2, rfl⟩ ?turn ?hE
      case hown => exact fun p hp => List.mem_cons_of_mem _ hp
      case hE => unfold ek; passes_own
      case turn =>
        rintro k ⟨qq, rr, t1, t2⟩ u h₁ tk₁ ⟨p1, p2, p3⟩ F₁ N₁
        dsimp only at p1 p2 p3 F₁
        clear kF kN
        (try k_fold)
        k_steps
        · (rename rr < 0 => hneg)
          with_unfolding_all
           refine' WEnd.intro (qq - 1, rr + b, _, _) (-(rr + b)).toNat (by assumption) (by assumption) (fun p hp => hp) (.cons rfl (.cons rfl .nil)) (off_upd rfl (off_upd rfl (off_lm rfl))) ?_ ?_
          · omega
          · dsimp only
            refine ⟨?_, by omega, rfl⟩
            rw [← p1]; grind
        · (rename ¬ rr < 0 => hneg)
          obtain ⟨e1, e2⟩ := ediv_of p1 (by omega) p2
          exact hret _ _ _ _ (by assumption) (by assumption) ⟨_, _, _, _, rfl, by rw [e1, e2], by assumption⟩
section
variable {prog : Program} {w : World} {A : Around} {E : Value → Shared → Prop} {s : Shared} {a b n : Int} {t u : Tok} {Q : Value → Shared → Prop} {h₀ : Heap} {L : Addr} {m : Str → Option Value} {news : Led}
theorem divmod_S (F : Fr h₀ L s.heap m) (N : News h₀ L s.heap news)
    (h : ∀ D h' tk t1 t2 c, Fr h₀ L h' m → News h₀ L h' ((D, tup2 (.int (a / b) t1) (.int (a % b) t2) c) :: news) → (∀ p ∈ news, p.1 < D) → Q (.ref D) { s with heap := h', toks := tk }) (hp : Stop (0 < b ∧ Builtin.divisionGoesByPylong a b = false)) :
    wpAny (model prog w) A (call (.builtin "divmod") [.int a t, .int b u]) Q E s := by
  refine divmod_N F N (Int.ne_of_gt hp.1) (fun h' F' N' => ?_) (.inl hp.2)
  rw [Int.fdiv_eq_ediv_of_nonneg _ (Int.le_of_lt hp.1), Int.fmod_eq_emod_of_nonneg _ (Int.le_of_lt hp.1)] at N'
  exact h _ h' _ _ _ _ F' N' fun p hp => Heap.lt_size (N p hp).1
end
local macro_rules | `(tactic| walk_at "inplaceOp LShift int int") => `(tactic| (k_here; with_reducible refine ilsh_S ?_ ?_))
local macro_rules | `(tactic| walk_at "inplaceOp RShift int int") => `(tactic| (k_here; with_reducible refine irsh_S ?_ ?_))
local macro_rules | `(tactic| walk_at "call builtin:divmod") => `(tactic| (k_here; k_dflt (refine' divmod_S ?k1 ?k2 ?_ ?_; (case k1 => k_asm); (case k2 => k_asm)); intro D' h' tk' t1' t2' c' F' N' l1'; (try k_sweep)))
set_option maxRecDepth 100000 in
set_option maxHeartbeats 8000000 in
theorem d2_of (w : World) (NN : Nat) (IH : ∀ N', NN = N' + 1 → D3 w N') : D2 w NN := by
  intro a b n tt1 tt2 tt3 own n1 n2 n3 q1 q2 q3 q4
  (((have hz : PySem.Challenge.rw_xg0042_01 = PySem.Challenge.rw_xg0042_01 ∧ Mine.hd.heap_39 = Mine.hd.heap_39 := by (k_fill; exact ⟨rfl, rfl⟩)); clear hz))
  unfold Tell
  intro p loose mean mg mb dp un gd cn cs aa ccd cl outer A₀ base h₀ L m s Q E B F X N T hk hd hu hret
  refine wpAny_call ?_
  ((k_dflt (refine' code_def ?k1e14 ?k2e14 ?k3e14 ?k4e14 ?k5e14 ?kAe14 ?kFe14 ?kKe14 ?k6e14 ?k7e14 ?k8e14 ?k9e14 ?kBe14 ?_ ?c2e14 ?c3e14 ?c4e14 ?c5e14; (case kAe14 => exact rfl); (case kFe14 => exact rfl); (case kKe14 => first | exact rfl | assumption); (case k1e14 => k_asm); (case k2e14 => k_asm); (case k3e14 => k_asm); (case k4e14 => k_asm); (case k5e14 => k_asm); (case k6e14 => k_is); (case k7e14 => k_is); (case k8e14 => ktr_room); (case k9e14 => first | exact BindsTo.of_eq rfl | exact binds_K (by k_in) rfl (by k_is) rfl rfl rfl | (refine' kp_binds ?kXe14 ?kPe14; (case kXe14 => k_in); (case kPe14 => intro S; with_unfolding_all rfl))); (case c5e14 => decide); (case kBe14 => exact locs rfl); (case c2e14 => exact rfl); (case c3e14 => exact rfl); (case c4e14 => exact rfl); k_whole; intro g' L' h' FG' F' N' B' X' T'; (try dsimp only); (try k_lift B'); (try k_fold)))); (with_unfolding_all (rename Fr _ _ _ _ => kF)); replace kF : Fr _ _ _ (fun y => List.lookup y [(Str.ofString "n", .int n tt3), (Str.ofString "b", .int b tt2), (Str.ofString "a", .int a tt1)]) := kF
  have hH : ∀ x : Int, 0 ≤ x → (x.toNat : Int) = x := fun x hx => by omega
  have b0 : 0 < b := Int.lt_of_lt_of_le (kbt_pos _) q1
  have bitsa : a < 2 ^ (n.toNat + n.toNat) := by
    refine Int.lt_of_lt_of_le q4 ?_
    rw [Int.pow_add]
    exact Int.mul_le_mul_of_nonneg_right (Int.le_of_lt q2) (Int.le_of_lt (kbt_pos _))
  have bitsa2 := bits_of q3 bitsa
  have bitsb := bits_of (Int.le_of_lt b0) q2
  have bits1 : Builtin.Int.intBits 1 = 1 := by decide
  k_steps
  all_goals (try (refine Stop.out ?_; omega))
  all_goals (try (refine Stop.out ?_; rw [p1]; omega))
  all_goals (try (refine Stop.out ?_; rw [p1]; exact ⟨by omega, by omega⟩))
  · exact hret _ _ _ _ (by assumption) (by assumption) ⟨_, _, _, _, rfl, rfl, by assumption⟩
  · (rename (Builtin.Int.intBits a : Int) - n ≤ 4000 => hsmall)
    exact Stop.out ⟨b0, no_py n1 q1 hsmall⟩
  · refine Stop.out ?_
    (rename ¬ (Builtin.Int.intBits a : Int) - n ≤ 4000 => hbig)
    (rename Builtin.bitAnd n 1 ≠ 0 => hodd)
    rw [bitAnd_m1] at hodd
    have ex1 : (n + 1).toNat = n.toNat + 1 := by omega
    have ex2 : (n + 1 - 1).toNat = (n - 1).toNat + 1 := by omega
    have fN : n + 1 = 2 * ((n + 1) / 2 ^ Int.toNat 1) := by rw [p1]; omega
    have f1 : 1 ≤ (n + 1) / 2 ^ Int.toNat 1 := by rw [p1]; omega
    have fb1 : 2 ^ (n + 1 - 1).toNat ≤ b * 2 ^ Int.toNat 1 := by rw [p1, ex2, Int.pow_succ]; omega
    have fb2 : b * 2 ^ Int.toNat 1 < 2 ^ (n + 1).toNat := by rw [p1, ex1, Int.pow_succ]; omega
    have fA0 : 0 ≤ a * 2 ^ Int.toNat 1 := by rw [p1]; omega
    have fA : a * 2 ^ Int.toNat 1 < b * 2 ^ Int.toNat 1 * 2 ^ (n + 1).toNat := by
      have h0 : 0 ≤ b * 2 ^ n.toNat := Int.mul_nonneg (Int.le_of_lt b0) (Int.le_of_lt (kbt_pos _))
      have h1 : b * 2 * (2 ^ n.toNat * 2) = 4 * (b * 2 ^ n.toNat) := by grind
      rw [p1, ex1, Int.pow_succ, h1]; omega
    rcases NN with _ | N'
    · exfalso; omega
    have hPN : ((2 ^ (N' + 1) : Nat) : Int) = 2 * ((2 ^ N' : Nat) : Int) := by rw [Nat.pow_succ]; omega
    have hle1 : (n + 1) / 2 ^ Int.toNat 1 ≤ 2 ^ N' := by have c1 := kbt_cast N'; have c2 := kbt_cast (N' + 1); rw [p1] at fN ⊢; omega
    obtain ⟨g1, g2, g3, g4, g5, g6, g7, g8, g9, g10⟩ := d2_pre (A := a * 2 ^ Int.toNat 1) (b := b * 2 ^ Int.toNat 1) (half := (n + 1) / 2 ^ Int.toNat 1) (N := n + 1) fN f1 fb1 fb2 fA0 fA
    have hp := kbt_pos ((n + 1) / 2 ^ Int.toNat 1).toNat
    have hB0 : 0 < b * 2 ^ Int.toNat 1 := Int.lt_of_lt_of_le (kbt_pos _) fb1
    (k_dflt (refine' Tell.use (IH N' rfl (a * 2 ^ Int.toNat 1 / 2 ^ (n + 1).toNat) (Builtin.bitAnd (a * 2 ^ Int.toNat 1 / 2 ^ ((n + 1) / 2 ^ Int.toNat 1).toNat) (1 * 2 ^ ((n + 1) / 2 ^ Int.toNat 1).toNat - 1)) (b * 2 ^ Int.toNat 1) (b * 2 ^ Int.toNat 1 / 2 ^ ((n + 1) / 2 ^ Int.toNat 1).toNat) (Builtin.bitAnd (b * 2 ^ Int.toNat 1) (1 * 2 ^ ((n + 1) / 2 ^ Int.toNat 1).toNat - 1)) ((n + 1) / 2 ^ Int.toNat 1) _ _ _ _ _ _ _ f1 hle1 (by omega) g1 g2 g3 g4 g5 g6 g7 g8 (by rw [g9]; exact g10)) ?kBc9 ?kFc9 ?kXc9 ?kNc9 ?kTc9 ?kKc9 ?kdc9 ?kuc9 ?kRc9; (case kBc9 => k_asm); (case kFc9 => k_asm); (case kXc9 => k_asm); (case kNc9 => k_asm); (case kTc9 => k_asm); (case kKc9 => first | exact rfl | assumption); (case kdc9 => ktr_room); (case kuc9 => ktr_units)))
    rintro r9 news9 h9 tk9 F9 N9 ⟨D9, t91, t92, c9, rfl, rfl, hlt9⟩
    rw [g9] at N9
    have hr0 := Int.emod_nonneg (a * 2 ^ Int.toNat 1 / 2 ^ ((n + 1) / 2 ^ Int.toNat 1).toNat) (Int.ne_of_gt hB0)
    have hr1 := Int.emod_lt_of_pos (a * 2 ^ Int.toNat 1 / 2 ^ ((n + 1) / 2 ^ Int.toNat 1).toNat) hB0
    have em : Builtin.bitAnd (a * 2 ^ Int.toNat 1) (1 * 2 ^ ((n + 1) / 2 ^ Int.toNat 1).toNat - 1) = a * 2 ^ Int.toNat 1 % 2 ^ ((n + 1) / 2 ^ Int.toNat 1).toNat := by rw [Int.one_mul, kbt_mask]
    (try dsimp only)
    (try k_fold)
    k_steps
    refine Stop.out ?_
    (k_dflt (refine' Tell.use (IH N' rfl (a * 2 ^ Int.toNat 1 / 2 ^ ((n + 1) / 2 ^ Int.toNat 1).toNat % (b * 2 ^ Int.toNat 1)) (Builtin.bitAnd (a * 2 ^ Int.toNat 1) (1 * 2 ^ ((n + 1) / 2 ^ Int.toNat 1).toNat - 1)) (b * 2 ^ Int.toNat 1) (b * 2 ^ Int.toNat 1 / 2 ^ ((n + 1) / 2 ^ Int.toNat 1).toNat) (Builtin.bitAnd (b * 2 ^ Int.toNat 1) (1 * 2 ^ ((n + 1) / 2 ^ Int.toNat 1).toNat - 1)) ((n + 1) / 2 ^ Int.toNat 1) _ _ _ _ _ _ _ f1 hle1 (by omega) hr0 (by rw [em]; exact Int.emod_nonneg _ (Int.ne_of_gt hp)) (by rw [em]; exact Int.emod_lt_of_pos _ hp) g4 g5 g6 g7 g8 (by rw [em]; exact d2_pre2 hp hr1)) ?kBc10 ?kFc10 ?kXc10 ?kNc10 ?kTc10 ?kKc10 ?kdc10 ?kuc10 ?kRc10; (case kBc10 => k_asm); (case kFc10 => k_asm); (case kXc10 => k_asm); (case kNc10 => k_asm); (case kTc10 => k_asm); (case kKc10 => first | exact rfl | assumption); (case kdc10 => ktr_room); (case kuc10 => ktr_units)))
    rintro r8 news8 h8 tk8 F8 N8 ⟨D8, t81, t82, c8, rfl, rfl, hlt8⟩
    rw [em] at N8
    obtain ⟨z1, z2, z3, z4, z5⟩ := d2_fin (A := a * 2 ^ Int.toNat 1) (b := b * 2 ^ Int.toNat 1) hp hB0 fA0
    have hq1 : a * 2 ^ Int.toNat 1 / 2 ^ ((n + 1) / 2 ^ Int.toNat 1).toNat / (b * 2 ^ Int.toNat 1) < 2 ^ ((n + 1) / 2 ^ Int.toNat 1).toNat := Int.ediv_lt_of_lt_mul hB0 (by rw [Int.mul_comm (2 ^ ((n + 1) / 2 ^ Int.toNat 1).toNat)]; exact g10)
    have hbq1 := bits_of z5 hq1
    have hhalf : (((n + 1) / 2 ^ Int.toNat 1).toNat : Int) = (n + 1) / 2 ^ Int.toNat 1 := Int.toNat_of_nonneg (by omega)
    (try dsimp only)
    (try k_fold)
    k_steps
    all_goals (try (exact Stop.out (by decide)))
    all_goals (try (refine Stop.out ⟨by omega, ?_⟩; rw [p1] at hhalf hbq1 ⊢; omega))
    · (rename News h₀ L _ _ => kNN)
      (rename _ ∧ _ ∧ _ ∧ AllLt _ own => hll)
      have fe : a / b * (b * 2 ^ Int.toNat 1) + a % b * 2 = a * 2 ^ Int.toNat 1 := by
        have := Int.mul_ediv_add_emod a b
        rw [p1]; grind
      have fl := Int.emod_lt_of_pos a b0
      have fn := Int.emod_nonneg a (Int.ne_of_gt b0)
      obtain ⟨fq, fr⟩ := ediv_of fe (by omega) (by rw [p1]; omega)
      have fr2 : a % b * 2 / 2 ^ Int.toNat 1 = a % b := by rw [p1]; omega
      rw [bitOr_low z5 z3 z4, z1, z2, ← fq, ← fr, fr2] at kNN
      exact hret _ _ _ _ (by assumption) (cb_drop kNN (List.forall_mem_cons.mpr ⟨.head _, fun p hp => .tail _ (.tail _ (.tail _ (.tail _ hp)))⟩)) ⟨_, _, _, _, rfl, rfl, kst_ltOf hll.2.2.2⟩
    · exfalso
      (rename Builtin.bitAnd n 1 = 0 => hx)
      rw [bitAnd_m1] at hx; exact hodd hx
  · refine Stop.out ?_
    (rename ¬ (Builtin.Int.intBits a : Int) - n ≤ 4000 => hbig)
    (rename Builtin.bitAnd n 1 = 0 => hodd)
    rw [bitAnd_m1] at hodd
    have fN : n = 2 * (n / 2 ^ Int.toNat 1) := by rw [p1]; omega
    have f1 : 1 ≤ n / 2 ^ Int.toNat 1 := by rw [p1]; omega
    have fb1 := q1
    have fb2 := q2
    have fA0 := q3
    have fA := q4
    rcases NN with _ | N'
    · exfalso; omega
    have hPN : ((2 ^ (N' + 1) : Nat) : Int) = 2 * ((2 ^ N' : Nat) : Int) := by rw [Nat.pow_succ]; omega
    have hle1 : n / 2 ^ Int.toNat 1 ≤ 2 ^ N' := by have c1 := kbt_cast N'; have c2 := kbt_cast (N' + 1); rw [p1] at fN ⊢; omega
    obtain ⟨g1, g2, g3, g4, g5, g6, g7, g8, g9, g10⟩ := d2_pre (A := a) (b := b) (half := n / 2 ^ Int.toNat 1) (N := n) fN f1 fb1 fb2 fA0 fA
    have hp := kbt_pos (n / 2 ^ Int.toNat 1).toNat
    have hB0 : 0 < b := Int.lt_of_lt_of_le (kbt_pos _) fb1
    (k_dflt (refine' Tell.use (IH N' rfl (a / 2 ^ (n).toNat) (Builtin.bitAnd (a / 2 ^ (n / 2 ^ Int.toNat 1).toNat) (1 * 2 ^ (n / 2 ^ Int.toNat 1).toNat - 1)) (b) (b / 2 ^ (n / 2 ^ Int.toNat 1).toNat) (Builtin.bitAnd (b) (1 * 2 ^ (n / 2 ^ Int.toNat 1).toNat - 1)) (n / 2 ^ Int.toNat 1) _ _ _ _ _ _ _ f1 hle1 (by omega) g1 g2 g3 g4 g5 g6 g7 g8 (by rw [g9]; exact g10)) ?kBc11 ?kFc11 ?kXc11 ?kNc11 ?kTc11 ?kKc11 ?kdc11 ?kuc11 ?kRc11; (case kBc11 => k_asm); (case kFc11 => k_asm); (case kXc11 => k_asm); (case kNc11 => k_asm); (case kTc11 => k_asm); (case kKc11 => first | exact rfl | assumption); (case kdc11 => ktr_room); (case kuc11 => ktr_units)))
    rintro r9 news9 h9 tk9 F9 N9 ⟨D9, t91, t92, c9, rfl, rfl, hlt9⟩
    rw [g9] at N9
    have hr0 := Int.emod_nonneg (a / 2 ^ (n / 2 ^ Int.toNat 1).toNat) (Int.ne_of_gt hB0)
    have hr1 := Int.emod_lt_of_pos (a / 2 ^ (n / 2 ^ Int.toNat 1).toNat) hB0
    have em : Builtin.bitAnd (a) (1 * 2 ^ (n / 2 ^ Int.toNat 1).toNat - 1) = a % 2 ^ (n / 2 ^ Int.toNat 1).toNat := by rw [Int.one_mul, kbt_mask]
    (try dsimp only)
    (try k_fold)
    k_steps
    refine Stop.out ?_
    (k_dflt (refine' Tell.use (IH N' rfl (a / 2 ^ (n / 2 ^ Int.toNat 1).toNat % (b)) (Builtin.bitAnd (a) (1 * 2 ^ (n / 2 ^ Int.toNat 1).toNat - 1)) (b) (b / 2 ^ (n / 2 ^ Int.toNat 1).toNat) (Builtin.bitAnd (b) (1 * 2 ^ (n / 2 ^ Int.toNat 1).toNat - 1)) (n / 2 ^ Int.toNat 1) _ _ _ _ _ _ _ f1 hle1 (by omega) hr0 (by rw [em]; exact Int.emod_nonneg _ (Int.ne_of_gt hp)) (by rw [em]; exact Int.emod_lt_of_pos _ hp) g4 g5 g6 g7 g8 (by rw [em]; exact d2_pre2 hp hr1)) ?kBc12 ?kFc12 ?kXc12 ?kNc12 ?kTc12 ?kKc12 ?kdc12 ?kuc12 ?kRc12; (case kBc12 => k_asm); (case kFc12 => k_asm); (case kXc12 => k_asm); (case kNc12 => k_asm); (case kTc12 => k_asm); (case kKc12 => first | exact rfl | assumption); (case kdc12 => ktr_room); (case kuc12 => ktr_units)))
    rintro r8 news8 h8 tk8 F8 N8 ⟨D8, t81, t82, c8, rfl, rfl, hlt8⟩
    rw [em] at N8
    obtain ⟨z1, z2, z3, z4, z5⟩ := d2_fin (A := a) (b := b) hp hB0 fA0
    have hq1 : a / 2 ^ (n / 2 ^ Int.toNat 1).toNat / (b) < 2 ^ (n / 2 ^ Int.toNat 1).toNat := Int.ediv_lt_of_lt_mul hB0 (by rw [Int.mul_comm (2 ^ (n / 2 ^ Int.toNat 1).toNat)]; exact g10)
    have hbq1 := bits_of z5 hq1
    have hhalf : ((n / 2 ^ Int.toNat 1).toNat : Int) = n / 2 ^ Int.toNat 1 := Int.toNat_of_nonneg (by omega)
    (try dsimp only)
    (try k_fold)
    k_steps
    all_goals (try (exact Stop.out (by decide)))
    all_goals (try (refine Stop.out ⟨by omega, ?_⟩; rw [p1] at hhalf hbq1 ⊢; omega))
    · exfalso
      (rename Builtin.bitAnd n 1 ≠ 0 => hx)
      rw [bitAnd_m1] at hx; exact hx hodd
    · (rename News h₀ L _ _ => kNN)
      (rename _ ∧ _ ∧ _ ∧ AllLt _ own => hll)
      rw [bitOr_low z5 z3 z4, z1, z2] at kNN
      exact hret _ _ _ _ (by assumption) (cb_drop kNN (List.forall_mem_cons.mpr ⟨.head _, fun p hp => .tail _ (.tail _ (.tail _ (.tail _ hp)))⟩)) ⟨_, _, _, _, rfl, rfl, kst_ltOf hll.2.2.2⟩
theorem d2_all (w : World) : ∀ N, D2 w N
  | 0 => d2_of w 0 fun _ e => nomatch e
  | N + 1 => d2_of w (N + 1) fun N' e => by obtain rfl := Nat.succ.inj e; exact d3_of w N (d2_all w N)
theorem nat_and_hi (a k : Nat) : a &&& (a / 2 ^ k * 2 ^ k) = a / 2 ^ k * 2 ^ k := by
  apply Nat.eq_of_testBit_eq
  intro i
  rw [Nat.testBit_and, ← Nat.shiftRight_eq_div_pow, ← Nat.shiftLeft_eq, Nat.testBit_shiftLeft, Nat.testBit_shiftRight]
  by_cases h : k ≤ i
  · have : k + (i - k) = i := by omega
    simp [h, this]
  · simp; omega
theorem xor_low {x : Int} (hx : 0 ≤ x) (k : Nat) : Builtin.bitXor x (x / 2 ^ k * 2 ^ k) = x % 2 ^ k := by
  have hp := kbt_pos k
  have hy : 0 ≤ x / 2 ^ k * 2 ^ k := Int.mul_nonneg (Int.ediv_nonneg hx (Int.le_of_lt hp)) (Int.le_of_lt hp)
  have hand : Builtin.bitAnd x (x / 2 ^ k * 2 ^ k) = x / 2 ^ k * 2 ^ k := by
    obtain ⟨a, rfl⟩ := Int.eq_ofNat_of_zero_le hx
    have e : ((a : Int) / 2 ^ k * 2 ^ k) = ((a / 2 ^ k * 2 ^ k : Nat) : Int) := by rw [Int.natCast_mul, Int.natCast_ediv, kbt_cast]
    rw [e]
    unfold Builtin.bitAnd
    have h1 : decide ((0 : Int) ≤ (a : Int)) = true := by simp
    have h2 : decide ((0 : Int) ≤ ((a / 2 ^ k * 2 ^ k : Nat) : Int)) = true := by rw [decide_eq_true_eq]; exact Int.natCast_nonneg _
    split <;> rename_i g1 g2
    · rw [Int.toNat_natCast, Int.toNat_natCast, nat_and_hi]
    · rw [g2] at h2; cases h2
    · rw [g1] at h1; cases h1
    · rw [g1] at h1; cases h1
  rw [bitXor_and, hand]
  have := Int.mul_ediv_add_emod x (2 ^ k)
  have e := Int.mul_comm (2 ^ k) (x / 2 ^ k)
  omega
def setD (ns : List Int) (x : Int) (n Lo k : Nat) : List Int := ns.take Lo ++ (List.range k).map (fun i => x / 2 ^ (n * i) % 2 ^ n) ++ ns.drop (Lo + k)
theorem setD_one {ns : List Int} {x : Int} {n Lo : Nat} (h : Lo < ns.length) (h0 : 0 ≤ x) (hx : x < 2 ^ n) : setD ns x n Lo 1 = ns.set Lo x := by
  unfold setD
  have e : x / 2 ^ (n * 0) % 2 ^ n = x := by simp; exact Int.emod_eq_of_lt h0 hx
  rw [List.set_eq_take_append_cons_drop, if_pos h]
  simp only [List.range_one, List.map_cons, List.map_nil, e, List.append_assoc, List.singleton_append]
theorem setD_length {ns : List Int} {x : Int} {n Lo k : Nat} (h : Lo + k ≤ ns.length) : (setD ns x n Lo k).length = ns.length := by
  unfold setD
  simp; omega
theorem dig_lo {x : Int} {n i j : Nat} (h : i < j) : x % 2 ^ (n * j) / 2 ^ (n * i) % 2 ^ n = x / 2 ^ (n * i) % 2 ^ n := by
  have e : n * j = n * i + (n + n * (j - i - 1)) := by
    have : j = i + 1 + (j - i - 1) := by omega
    calc n * j = n * (i + 1 + (j - i - 1)) := by rw [← this]
      _ = n * i + (n + n * (j - i - 1)) := by rw [Nat.mul_add, Nat.mul_add, Nat.mul_one, Nat.add_assoc]
  have hp := kbt_pos (n * i)
  have hq := kbt_pos n
  have hr := kbt_pos (n * (j - i - 1))
  rw [e, Int.pow_add, Int.pow_add]
  generalize (2 : Int) ^ (n * i) = A at *
  generalize (2 : Int) ^ n = B at *
  generalize (2 : Int) ^ (n * (j - i - 1)) = C at *
  have h1 : x % (A * (B * C)) = x - A * (B * C) * (x / (A * (B * C))) := Int.emod_def _ _
  rw [h1]
  have h2 : x - A * (B * C) * (x / (A * (B * C))) = x + A * (-(B * C * (x / (A * (B * C))))) := by grind
  rw [h2, Int.add_mul_ediv_left _ _ (Int.ne_of_gt hp)]
  have h3 : x / A + -(B * C * (x / (A * (B * C)))) = x / A + B * (-(C * (x / (A * (B * C))))) := by grind
  rw [h3, Int.add_mul_emod_self_left]
theorem dig_hi {x : Int} {n i j : Nat} : x / 2 ^ (n * j) / 2 ^ (n * i) % 2 ^ n = x / 2 ^ (n * (j + i)) % 2 ^ n := by
  rw [Int.ediv_ediv_of_nonneg (Int.le_of_lt (kbt_pos _)), ← Int.pow_add, Nat.mul_add]
theorem digs_split {x : Int} {n j k : Nat} : (List.range (j + k)).map (fun i => x / 2 ^ (n * i) % 2 ^ n) =
    (List.range j).map (fun i => x % 2 ^ (n * j) / 2 ^ (n * i) % 2 ^ n) ++ (List.range k).map (fun i => x / 2 ^ (n * j) / 2 ^ (n * i) % 2 ^ n) := by
  rw [List.range_add, List.map_append, List.map_map]
  congr 1
  · refine List.map_congr_left fun i hi => ?_
    rw [dig_lo (List.mem_range.mp hi)]
  · refine List.map_congr_left fun i _ => ?_
    rw [Function.comp_apply, dig_hi]
theorem setD_split {ns : List Int} {x : Int} {n Lo j k : Nat} (h : Lo + j + k ≤ ns.length) :
    setD (setD ns (x % 2 ^ (n * j)) n Lo j) (x / 2 ^ (n * j)) n (Lo + j) k = setD ns x n Lo (j + k) := by
  have hl : (ns.take Lo ++ (List.range j).map (fun i => x % 2 ^ (n * j) / 2 ^ (n * i) % 2 ^ n)).length = Lo + j := by simp; omega
  have t1 : (setD ns (x % 2 ^ (n * j)) n Lo j).take (Lo + j) = ns.take Lo ++ (List.range j).map (fun i => x % 2 ^ (n * j) / 2 ^ (n * i) % 2 ^ n) := by
    unfold setD
    rw [List.take_append_of_le_length (by omega), List.take_of_length_le (by omega)]
  have t2 : (setD ns (x % 2 ^ (n * j)) n Lo j).drop (Lo + j + k) = ns.drop (Lo + (j + k)) := by
    unfold setD
    rw [List.drop_append, hl]
    rw [List.drop_of_length_le (by omega), List.nil_append, List.drop_drop]
    congr 1; omega
  have e0 : setD (setD ns (x % 2 ^ (n * j)) n Lo j) (x / 2 ^ (n * j)) n (Lo + j) k = (setD ns (x % 2 ^ (n * j)) n Lo j).take (Lo + j) ++ (List.range k).map (fun i => x / 2 ^ (n * j) / 2 ^ (n * i) % 2 ^ n) ++ (setD ns (x % 2 ^ (n * j)) n Lo j).drop (Lo + j + k) := rfl
  rw [e0, t1, t2]
  unfold setD
  rw [digs_split]
  simp only [List.append_assoc]
theorem rep_foldl (v : Value) : ∀ (k : Nat) (a : Array Value), List.foldl (fun x1 x2 => x1 ++ x2) a (List.replicate k #[v]) = a ++ (List.replicate k v).toArray
  | 0, a => by simp
  | k + 1, a => by
    rw [List.replicate_succ, List.foldl_cons, rep_foldl v k, List.replicate_succ]
    apply Array.toList_inj.mp
    simp
theorem allLt_mono {d d' : Addr} (h : d ≤ d') : ∀ {l : Led}, AllLt d l → AllLt d' l
  | [], _ => trivial
  | _ :: _, q => ⟨Nat.lt_of_lt_of_le q.1 h, allLt_mono h q.2⟩
section
variable {prog : Program} {w : World} {A : Around} {E : Value → Shared → Prop} {s : Shared} {Q : Value → Shared → Prop} {h₀ : Heap} {L l : Addr} {m : Str → Option Value} {news : Led} {x : Int} {t0 u : Tok} {k : Nat}
theorem zeros_S (F : Fr h₀ L s.heap m) (N : News h₀ L s.heap news) (hm : (l, listOf #[.int 0 t0] k) ∈ news)
    (h : ∀ D h', Fr h₀ L h' m → News h₀ L h' ((D, listOf (List.replicate x.toNat (.int 0 t0)).toArray 0) :: news) → (∀ p ∈ news, p.1 < D) → Q (.ref D) { s with heap := h' }) (hp : Stop (0 ≤ x ∧ x ≤ 100000)) :
    wpAny (model prog w) A (binaryOp .Mult (.ref l) (.int x u)) Q E s := by
  obtain ⟨h1, h2⟩ := hp
  refine mul_list F N (N.get hm) (by omega) (by omega) ?_ fun h' F' N' => ?_
  · simp only [List.size_toArray, List.length_cons, List.length_nil]; omega
  · refine h _ h' F' ?_ fun p hp => Heap.lt_size (N p hp).1
    have e : List.foldl (fun x1 x2 => x1 ++ x2) #[] (List.replicate (if (#[Value.int 0 t0] : Array Value).isEmpty = true then 0 else x.toNat) #[Value.int 0 t0]) = (List.replicate x.toNat (.int 0 t0)).toArray := by
      have : (#[Value.int 0 t0] : Array Value).isEmpty = false := rfl
      rw [this, rep_foldl]; simp
    rw [e] at N'
    exact N'
end
local macro_rules | `(tactic| walk_at "binaryOp FloorDiv int int") => `(tactic| (k_here; with_reducible refine fdv_S ?_ ?_))
local macro_rules | `(tactic| walk_at "binaryOp Mult ref int") => `(tactic| (k_here; k_dflt (refine' zeros_S ?k1 ?k2 ?k3 ?_ ?_; (case k1 => k_asm); (case k2 => k_asm); (case k3 => k_mem)); intro D' h' F' N' l1; (try k_lt l1); (try k_sweep)))
local macro_rules | `(tactic| walk_at "call builtin:len") => `(tactic| (k_here; k_dflt (refine' len_S ?k1 ?k2 ?_ ?_; (case k1 => k_asm); (case k2 => k_mem)); intro tk'))
theorem grab {h₀ : Heap} {L : Addr} {h : Heap} {f : Addr} {fo : Obj} {r : Led} (N : News h₀ L h ((f, fo) :: r)) : ∃ fo', fo' = fo ∧ News h₀ L h ((f, fo') :: r) := ⟨fo, rfl, N⟩
abbrev tabHit (c : Addr) : Obj := tabObj (#[] ++ #[rawInt ((33 : Nat) : Int), rawInt ((4 : Nat) : Int), .ref c])
/-- the code object of the def within -/
def OkC (oc : Obj) : Prop := ∃ vs t, oc.data = .fields vs ∧ vs[1]? = some (.str (Str.ofString "_int2digits.<locals>.inner") t)
def digs (a : Int) (n k : Nat) : List Int := (List.range k).map (fun i => a / 2 ^ (n * i) % 2 ^ n)
theorem setD_all {a : Int} {n k : Nat} : setD (List.replicate k 0) a n 0 k = digs a n k := by
  unfold setD digs
  simp
theorem rep_ints (k : Nat) (t : Tok) : IntsAre (List.replicate k (.int 0 t)) (List.replicate k 0) := by
  induction k with
  | zero => exact .nil
  | succ k ih => exact .cons 0 t ih
def OutD (own : Led) (ds : List Int) (r : Value) (news' : Led) : Prop :=
  ∃ D c oc vs ep, r = .ref D ∧ OkC oc ∧ IntsAre vs ds ∧ news' = (D, listOf vs.toArray ep) :: (47, tabHit c) :: (c, oc) :: own ∧ (∀ p ∈ own, p.1 < D) ∧ 47 < D ∧ c ≠ D ∧ c ≠ 47 ∧ ∀ p ∈ own, p.1 ≠ c
set_option maxRecDepth 100000 in
set_option maxHeartbeats 8000000 in
theorem i2d (w : World) (a n : Int) (ta tn : Tok) (own : Led) (ha : 0 < a) (hn1 : 1 ≤ n) (hn2 : n ≤ 1000) (hkk : ((Builtin.Int.intBits a : Int) + n - 1) / n ≤ 1000) (hoff : OwnOff own [47]) :
  Tell w 52 ((47, tabObj #[]) :: own) [.int a ta, .int n tn] 13 (OutD own (digs a n.toNat (((Builtin.Int.intBits a : Int) + n - 1) / n).toNat)) := by
  (((have hz : PySem.Challenge.rw_xg0042_01 = PySem.Challenge.rw_xg0042_01 ∧ Mine.hd.heap_39 = Mine.hd.heap_39 := by (k_fill; exact ⟨rfl, rfl⟩)); clear hz))
  unfold Tell
  intro p loose mean mg mb dp un gd cn cs aa ccd cl outer A₀ base h₀ L m s Q E B F X N T hk hd hu hret
  refine wpAny_call ?_
  walk_at "m_enterC"
  (with_unfolding_all rename_i g0 L0 hh0 tk00 kFG kF0 kB kX kT hL o1 o2 o3 d1 d2 d3 kN)
  replace d1 : o1.data = .cell none := d1
  replace d2 : o2.data = .cell none := d2
  replace d3 : o3.data = .cell (some (.int n tn)) := d3
  have hC := codeHd_of_K (c := 51) (P := 47) kX (by kernel_rfl)
  have hMk := kstMark
  have hL1 := allLt_mono (Nat.le_succ _) hL.2
  have hL2 := allLt_mono (Nat.le_succ _) hL1
  have hL3 := allLt_mono (Nat.le_succ _) hL2
  k_steps
  · exact Stop.out ⟨by omega, by omega⟩
  · rename_i l0 hx0 l10 D0 hx1 l11 hx2 oA dA f0 c0 oc0 vs0 t0 ct0 dc0 hx3 tkx1 e1 e2 l12 l13 hx4 oI kF1 kN1 dI hane tkx2
    refine Stop.out ?_
    obtain ⟨fo, hfo, kN2⟩ := grab kN1
    have key : ∀ (NN : Nat) (x Lo Hi : Int) (tx tl th : Tok) (vs : List Value) (ns : List Int) (ep : Nat), IntsAre vs ns → 0 ≤ Lo → Lo < Hi → Hi ≤ ns.length → ns.length ≤ 1000 → Hi - Lo ≤ 2 ^ NN → 0 ≤ x → x < 2 ^ (n.toNat * (Hi - Lo).toNat) →
        Tell w f0 ((f0, fo) :: (c0, oc0) :: (D0, listOf vs.toArray ep) :: (l0, listOf #[.int 0 tk00] 0) :: (L0 + 1 + 1 + 1, oI) :: (L0 + 1 + 1, oA) :: (L0 + 1, o3) :: (47, tabHit c0) :: own) [.int x tx, .int Lo tl, .int Hi th] (NN + 1)
          (fun r news' => r = .none ∧ ∃ vs' ep', IntsAre vs' (setD ns x n.toNat Lo.toNat (Hi - Lo).toNat) ∧ news' = (f0, fo) :: (c0, oc0) :: (D0, listOf vs'.toArray ep') :: (l0, listOf #[.int 0 tk00] 0) :: (L0 + 1 + 1 + 1, oI) :: (L0 + 1 + 1, oA) :: (L0 + 1, o3) :: (47, tabHit c0) :: own) := by
      clear hret kN1 kN2 kF1 kX kT kB kFG hd hu
      intro NN
      induction NN using Nat.strongRecOn with
      | _ NN IH =>
        intro x Lo Hi tx tl th vs ns ep hi q1 q2 q3 q3' q4 q5 q6
        unfold Tell
        intro p loose mean mg mb dp un gd cn cs aa ccd cl outer A₀ base h₀ L m s Q E B F X N T hk hd hu hret
        subst hfo
        refine wpAny_call ?_
        walk_at "m_enterN"
        (with_unfolding_all (rename Fr _ _ _ _ => kF)); replace kF : Fr _ _ _ (fun y => List.lookup y [(Str.ofString "R", .int Hi th), (Str.ofString "L", .int Lo tl), (Str.ofString "x", .int x tx)]) := kF
        have hmid : ∀ z, z = (Lo + Hi) / 2 ^ Int.toNat 1 → Lo + 1 ≠ Hi → Lo < z ∧ z < Hi ∧ z - Lo ≤ Hi - z + 1 ∧ Hi - z ≤ z - Lo + 1 ∧ ((z - Lo) * n).toNat = n.toNat * (z - Lo).toNat ∧ 0 ≤ (z - Lo) * n ∧ (z - Lo) * n ≤ 1000000 := by
          intro z hz hne
          rw [p1] at hz
          have h0 : 0 ≤ (z - Lo) * n := Int.mul_nonneg (by omega) (by omega)
          have h1 : (z - Lo) * n ≤ 1000 * 1000 := Int.mul_le_mul (by omega) hn2 (by omega) (by omega)
          have h2 : (((z - Lo) * n).toNat : Int) = ((n.toNat * (z - Lo).toNat : Nat) : Int) := by
            rw [Int.toNat_of_nonneg h0, Int.natCast_mul, Int.toNat_of_nonneg (by omega), Int.toNat_of_nonneg (by omega), Int.mul_comm]
          exact ⟨by omega, by omega, by omega, by omega, by exact_mod_cast h2, h0, h1⟩
        have hxb : Builtin.Int.intBits x ≤ 1000000 := Nat.le_trans (bits_of q5 q6) (Nat.le_trans (Nat.mul_le_mul (show n.toNat ≤ 1000 by omega) (show (Hi - Lo).toNat ≤ 1000 by omega)) (by decide))
        k_steps
        · (rename Lo + 1 = Hi => hone)
          (rename IntsAre (List.set _ _ _) _ => hset)
          subst hone
          have e1 : (Lo + 1 - Lo).toNat = 1 := by omega
          rw [e1] at q6
          rw [Nat.mul_one] at q6
          have e2 := setD_one (ns := ns) (x := x) (n := n.toNat) (Lo := Lo.toNat) (by omega) q5 q6
          exact hret _ _ _ _ (by assumption) (by assumption) ⟨rfl, _, _, by rw [e1, e2]; exact hset, rfl⟩
        · exact Stop.out (by decide)
        · (rename Lo + 1 ≠ Hi => hne)
          obtain ⟨m1, m2, m3, m4, m5, m6, m7⟩ := hmid _ rfl hne
          have b1 := bits_of (x := (Lo + Hi) / 2 ^ Int.toNat 1 - Lo) (m := 10) (by omega) (by omega)
          have b2 := bits_of (x := n) (m := 10) (by omega) (by omega)
          exact Stop.out (IntMulOk.of_le b1 b2 (by decide))
        · (rename Lo + 1 ≠ Hi => hne)
          exact Stop.out (hmid _ rfl hne).2.2.2.2.2.1
        · (rename Lo + 1 ≠ Hi => hne)
          obtain ⟨m1, m2, m3, m4, m5, m6, m7⟩ := hmid _ rfl hne
          have b1 := intBits_fdiv_le (y := 2 ^ (((Lo + Hi) / 2 ^ Int.toNat 1 - Lo) * n).toNat) hxb
          rw [Int.fdiv_eq_ediv_of_nonneg _ (Int.le_of_lt (kbt_pos _))] at b1
          exact Stop.out ⟨m6, by omega⟩
        · (rename Lo + 1 ≠ Hi => hne)
          refine Stop.out ?_
          obtain ⟨m1, m2, m3, m4, m5, m6, m7⟩ := hmid _ rfl hne
          obtain ⟨M, rfl⟩ : ∃ M, NN = M + 1 := by
            rcases NN with _ | M
            · exfalso; simp at q4; omega
            · exact ⟨M, rfl⟩
          have hPN : ((2 ^ (M + 1) : Nat) : Int) = 2 * ((2 ^ M : Nat) : Int) := by rw [Nat.pow_succ]; omega
          have c1 := kbt_cast M
          have c2 := kbt_cast (M + 1)
          generalize hzz : (Lo + Hi) / 2 ^ Int.toNat 1 = z at *
          have hpz := kbt_pos ((z - Lo) * n).toNat
          have hlow := xor_low q5 ((z - Lo) * n).toNat
          have hl0 := Int.emod_nonneg x (Int.ne_of_gt hpz)
          have hl1 := Int.emod_lt_of_pos x hpz
          rw [← hlow] at hl0 hl1
          (k_dflt (refine' Tell.use (IH M (Nat.lt_succ_self _) _ Lo z _ _ _ vs ns ep hi q1 m1 (by omega) q3' (by omega) hl0 (by rw [← m5]; exact hl1)) ?kBc15 ?kFc15 ?kXc15 ?kNc15 ?kTc15 ?kKc15 ?kdc15 ?kuc15 ?kRc15; (case kBc15 => k_asm); (case kFc15 => k_asm); (case kXc15 => k_asm); (case kNc15 => k_asm); (case kTc15 => k_asm); (case kKc15 => first | exact rfl | assumption); (case kdc15 => ktr_room); (case kuc15 => ktr_units)))
          rintro r9 news9 h9 tk9 F9 N9 ⟨rfl, vs9, ep9, hi9, rfl⟩
          rw [hlow, m5] at hi9
          have hlen9 : (setD ns (x % 2 ^ (n.toNat * (z - Lo).toNat)) n.toNat Lo.toNat (z - Lo).toNat).length = ns.length := setD_length (by omega)
          (try dsimp only)
          (try k_fold)
          k_steps
          refine Stop.out ?_
          have hu0 : 0 ≤ x / 2 ^ ((z - Lo) * n).toNat := Int.ediv_nonneg q5 (Int.le_of_lt hpz)
          have hu1 : x / 2 ^ ((z - Lo) * n).toNat < 2 ^ (n.toNat * (Hi - z).toNat) := by
            refine Int.ediv_lt_of_lt_mul hpz ?_
            rw [m5, ← Int.pow_add, ← Nat.mul_add]
            have : (Hi - z).toNat + (z - Lo).toNat = (Hi - Lo).toNat := by omega
            rw [this]; exact q6
          (k_dflt (refine' Tell.use (IH M (Nat.lt_succ_self _) _ z Hi _ _ _ vs9 _ ep9 hi9 (by omega) m2 (by rw [hlen9]; omega) (by rw [hlen9]; omega) (by omega) hu0 hu1) ?kBc16 ?kFc16 ?kXc16 ?kNc16 ?kTc16 ?kKc16 ?kdc16 ?kuc16 ?kRc16; (case kBc16 => k_asm); (case kFc16 => k_asm); (case kXc16 => k_asm); (case kNc16 => k_asm); (case kTc16 => k_asm); (case kKc16 => first | exact rfl | assumption); (case kdc16 => ktr_room); (case kuc16 => ktr_units)))
          rintro r8 news8 h8 tk8 F8 N8 ⟨rfl, vs8, ep8, hi8, rfl⟩
          have hz1 : z.toNat = Lo.toNat + (z - Lo).toNat := by omega
          have hz2 : (z - Lo).toNat + (Hi - z).toNat = (Hi - Lo).toNat := by omega
          rw [m5, hz1, setD_split (by omega), hz2] at hi8
          (try dsimp only)
          (try k_fold)
          k_steps
          exact hret _ _ _ _ (by assumption) (by assumption) ⟨rfl, _, _, hi8, rfl⟩
    have hk1 : 1 ≤ ((Builtin.Int.intBits a : Int) + n - 1) / n := by
      have : 1 ≤ Builtin.Int.intBits a := by
        refine Nat.pos_of_ne_zero fun hz => ?_
        have := (intBits_le_iff (x := a) (m := 0)).mp (by omega)
        simp at this; omega
      exact Int.le_ediv_of_mul_le (by omega) (by omega)
    have hak : a < 2 ^ (n.toNat * ((((Builtin.Int.intBits a : Int) + n - 1) / n).toNat)) := by
      have h1 : Builtin.Int.intBits a ≤ n.toNat * ((((Builtin.Int.intBits a : Int) + n - 1) / n).toNat) := by
        have h2 := Int.mul_ediv_add_emod ((Builtin.Int.intBits a : Int) + n - 1) n
        have h3 := Int.emod_lt_of_pos ((Builtin.Int.intBits a : Int) + n - 1) (show 0 < n by omega)
        have h4 : ((n.toNat * ((((Builtin.Int.intBits a : Int) + n - 1) / n).toNat) : Nat) : Int) = n * (((Builtin.Int.intBits a : Int) + n - 1) / n) := by
          rw [Int.natCast_mul, Int.toNat_of_nonneg (by omega), Int.toNat_of_nonneg (by omega)]
        omega
      have h2 := intBits_le_iff.mp h1
      have h3 : (a.natAbs : Int) < ((2 ^ (n.toNat * ((((Builtin.Int.intBits a : Int) + n - 1) / n).toNat)) : Nat) : Int) := by exact_mod_cast h2
      rw [kbt_cast] at h3
      omega
    have hrl : ((List.replicate (((Builtin.Int.intBits a : Int) + n - 1) / n).toNat (Value.int 0 tk00)).length : Int) = ((Builtin.Int.intBits a : Int) + n - 1) / n := by rw [List.length_replicate]; omega
    have h1024 : (2 : Int) ^ 10 = 1024 := by decide
    (k_dflt (refine' Tell.use (key 10 a 0 ((List.replicate (((Builtin.Int.intBits a : Int) + n - 1) / n).toNat (Value.int 0 tk00)).length : Int) _ _ _ _ _ 0 (rep_ints (((Builtin.Int.intBits a : Int) + n - 1) / n).toNat tk00) (by decide) (by rw [hrl]; omega) (by simp) (by simp; omega) (by rw [hrl, h1024]; omega) (by omega) (by rw [hrl, Int.sub_zero]; exact hak)) ?kBc17 ?kFc17 ?kXc17 ?kNc17 ?kTc17 ?kKc17 ?kdc17 ?kuc17 ?kRc17; (case kBc17 => k_asm); (case kFc17 => k_asm); (case kXc17 => k_asm); (case kNc17 => k_asm); (case kTc17 => k_asm); (case kKc17 => first | exact rfl | assumption); (case kdc17 => ktr_room); (case kuc17 => ktr_units)))
    rintro r9 news9 h9 tk9 F9 N9 ⟨rfl, vs9, ep9, hi9, rfl⟩
    rw [hrl, Int.sub_zero, Int.toNat_zero, setD_all] at hi9
    (try dsimp only)
    (try k_fold)
    k_steps
    exact hret _ ((D0, listOf vs9.toArray ep9) :: (47, tabHit c0) :: (c0, oc0) :: own) _ _ (by assumption)
      (cb_drop (by assumption) (List.forall_mem_cons.mpr ⟨.tail _ (.tail _ (.head _)), List.forall_mem_cons.mpr ⟨.tail _ (.tail _ (.tail _ (.tail _ (.tail _ (.tail _ (.tail _ (.head _))))))), List.forall_mem_cons.mpr ⟨.tail _ (.head _), fun p hp => .tail _ (.tail _ (.tail _ (.tail _ (.tail _ (.tail _ (.tail _ (.tail _ hp)))))))⟩⟩⟩))
      ⟨D0, c0, oc0, vs9, ep9, rfl, ⟨_, _, e1, e2⟩, hi9, rfl, kst_ltOf l11.2.2.2.2.2, l11.2.2.2.2.1, Nat.ne_of_gt l12.1, Nat.ne_of_gt l12.2.2.2.2.2.1, fun p hp => Nat.ne_of_lt (kst_ltOf l12.2.2.2.2.2.2 p hp)⟩
  · exact Stop.out (by rw [List.length_replicate]; omega)
  · exfalso
    (rename a = 0 => hz)
    omega
  · refine Stop.out ⟨Int.ediv_nonneg (by omega) (by omega), by omega⟩
set_option maxRecDepth 100000 in
set_option maxHeartbeats 8000000 in
theorem i2d2 (w : World) (own : Led) (c1 : Addr) (oc1 : Obj) (hoc : OkC oc1) (hc47 : c1 ≠ 47) (hcown : ∀ p ∈ own, p.1 ≠ c1) (a n : Int) (ta tn : Tok) (ha : 0 < a) (hn1 : 1 ≤ n) (hn2 : n ≤ 1000) (hkk : ((Builtin.Int.intBits a : Int) + n - 1) / n ≤ 1000) (hoff : OwnOff own [47]) :
  Tell w 52 ((47, tabHit c1) :: (c1, oc1) :: own) [.int a ta, .int n tn] 13 (OutD own (digs a n.toNat (((Builtin.Int.intBits a : Int) + n - 1) / n).toNat)) := by
  obtain ⟨vs0, t0, e1, e2⟩ := hoc
  (((have hz : PySem.Challenge.rw_xg0042_01 = PySem.Challenge.rw_xg0042_01 ∧ Mine.hd.heap_39 = Mine.hd.heap_39 := by (k_fill; exact ⟨rfl, rfl⟩)); clear hz))
  unfold Tell
  intro p loose mean mg mb dp un gd cn cs aa ccd cl outer A₀ base h₀ L m s Q E B F X N T hk hd hu hret
  refine wpAny_call ?_
  walk_at "m_enterC"
  (with_unfolding_all rename_i g0 L0 hh0 tk00 kFG kF0 kB kX kT hL o1 o2 o3 d1 d2 d3 kN)
  replace d1 : o1.data = .cell none := d1
  replace d2 : o2.data = .cell none := d2
  replace d3 : o3.data = .cell (some (.int n tn)) := d3
  have hC := codeHd_of_K (c := 51) (P := 47) kX (by kernel_rfl)
  have hMk := kstMark
  have hL1 := allLt_mono (Nat.le_succ _) hL.2.2
  have hL2 := allLt_mono (Nat.le_succ _) hL1
  have hL3 := allLt_mono (Nat.le_succ _) hL2
  k_steps
  · exact Stop.out ⟨by omega, by omega⟩
  · rename_i l0 hx0 l10 D0 hx1 l11 hx2 oA dA f0 ct0 dc0 hx3 tkx1 l12 hx4 oI kF1 kN1 dI hane tkx2
    refine Stop.out ?_
    obtain ⟨fo, hfo, kN2⟩ := grab kN1
    have key : ∀ (NN : Nat) (x Lo Hi : Int) (tx tl th : Tok) (vs : List Value) (ns : List Int) (ep : Nat), IntsAre vs ns → 0 ≤ Lo → Lo < Hi → Hi ≤ ns.length → ns.length ≤ 1000 → Hi - Lo ≤ 2 ^ NN → 0 ≤ x → x < 2 ^ (n.toNat * (Hi - Lo).toNat) →
        Tell w f0 ((f0, fo) :: (D0, listOf vs.toArray ep) :: (l0, listOf #[.int 0 tk00] 0) :: (L0 + 1 + 1 + 1, oI) :: (L0 + 1 + 1, oA) :: (L0 + 1, o3) :: (47, tabHit c1) :: (c1, oc1) :: own) [.int x tx, .int Lo tl, .int Hi th] (NN + 1)
          (fun r news' => r = .none ∧ ∃ vs' ep', IntsAre vs' (setD ns x n.toNat Lo.toNat (Hi - Lo).toNat) ∧ news' = (f0, fo) :: (D0, listOf vs'.toArray ep') :: (l0, listOf #[.int 0 tk00] 0) :: (L0 + 1 + 1 + 1, oI) :: (L0 + 1 + 1, oA) :: (L0 + 1, o3) :: (47, tabHit c1) :: (c1, oc1) :: own) := by
      clear hret kN1 kN2 kF1 kX kT kB kFG hd hu
      intro NN
      induction NN using Nat.strongRecOn with
      | _ NN IH =>
        intro x Lo Hi tx tl th vs ns ep hi q1 q2 q3 q3' q4 q5 q6
        unfold Tell
        intro p loose mean mg mb dp un gd cn cs aa ccd cl outer A₀ base h₀ L m s Q E B F X N T hk hd hu hret
        subst hfo
        refine wpAny_call ?_
        walk_at "m_enterN"
        (with_unfolding_all (rename Fr _ _ _ _ => kF)); replace kF : Fr _ _ _ (fun y => List.lookup y [(Str.ofString "R", .int Hi th), (Str.ofString "L", .int Lo tl), (Str.ofString "x", .int x tx)]) := kF
        have hmid : ∀ z, z = (Lo + Hi) / 2 ^ Int.toNat 1 → Lo + 1 ≠ Hi → Lo < z ∧ z < Hi ∧ z - Lo ≤ Hi - z + 1 ∧ Hi - z ≤ z - Lo + 1 ∧ ((z - Lo) * n).toNat = n.toNat * (z - Lo).toNat ∧ 0 ≤ (z - Lo) * n ∧ (z - Lo) * n ≤ 1000000 := by
          intro z hz hne
          rw [p1] at hz
          have h0 : 0 ≤ (z - Lo) * n := Int.mul_nonneg (by omega) (by omega)
          have h1 : (z - Lo) * n ≤ 1000 * 1000 := Int.mul_le_mul (by omega) hn2 (by omega) (by omega)
          have h2 : (((z - Lo) * n).toNat : Int) = ((n.toNat * (z - Lo).toNat : Nat) : Int) := by
            rw [Int.toNat_of_nonneg h0, Int.natCast_mul, Int.toNat_of_nonneg (by omega), Int.toNat_of_nonneg (by omega), Int.mul_comm]
          exact ⟨by omega, by omega, by omega, by omega, by exact_mod_cast h2, h0, h1⟩
        have hxb : Builtin.Int.intBits x ≤ 1000000 := Nat.le_trans (bits_of q5 q6) (Nat.le_trans (Nat.mul_le_mul (show n.toNat ≤ 1000 by omega) (show (Hi - Lo).toNat ≤ 1000 by omega)) (by decide))
        k_steps
        · (rename Lo + 1 = Hi => hone)
          (rename IntsAre (List.set _ _ _) _ => hset)
          subst hone
          have e1 : (Lo + 1 - Lo).toNat = 1 := by omega
          rw [e1] at q6
          rw [Nat.mul_one] at q6
          have e2 := setD_one (ns := ns) (x := x) (n := n.toNat) (Lo := Lo.toNat) (by omega) q5 q6
          exact hret _ _ _ _ (by assumption) (by assumption) ⟨rfl, _, _, by rw [e1, e2]; exact hset, rfl⟩
        · exact Stop.out (by decide)
        · (rename Lo + 1 ≠ Hi => hne)
          obtain ⟨m1, m2, m3, m4, m5, m6, m7⟩ := hmid _ rfl hne
          have b1 := bits_of (x := (Lo + Hi) / 2 ^ Int.toNat 1 - Lo) (m := 10) (by omega) (by omega)
          have b2 := bits_of (x := n) (m := 10) (by omega) (by omega)
          exact Stop.out (IntMulOk.of_le b1 b2 (by decide))
        · (rename Lo + 1 ≠ Hi => hne)
          exact Stop.out (hmid _ rfl hne).2.2.2.2.2.1
        · (rename Lo + 1 ≠ Hi => hne)
          obtain ⟨m1, m2, m3, m4, m5, m6, m7⟩ := hmid _ rfl hne
          have b1 := intBits_fdiv_le (y := 2 ^ (((Lo + Hi) / 2 ^ Int.toNat 1 - Lo) * n).toNat) hxb
          rw [Int.fdiv_eq_ediv_of_nonneg _ (Int.le_of_lt (kbt_pos _))] at b1
          exact Stop.out ⟨m6, by omega⟩
        · (rename Lo + 1 ≠ Hi => hne)
          refine Stop.out ?_
          obtain ⟨m1, m2, m3, m4, m5, m6, m7⟩ := hmid _ rfl hne
          obtain ⟨M, rfl⟩ : ∃ M, NN = M + 1 := by
            rcases NN with _ | M
            · exfalso; simp at q4; omega
            · exact ⟨M, rfl⟩
          have hPN : ((2 ^ (M + 1) : Nat) : Int) = 2 * ((2 ^ M : Nat) : Int) := by rw [Nat.pow_succ]; omega
          have c1 := kbt_cast M
          have c2 := kbt_cast (M + 1)
          generalize hzz : (Lo + Hi) / 2 ^ Int.toNat 1 = z at *
          have hpz := kbt_pos ((z - Lo) * n).toNat
          have hlow := xor_low q5 ((z - Lo) * n).toNat
          have hl0 := Int.emod_nonneg x (Int.ne_of_gt hpz)
          have hl1 := Int.emod_lt_of_pos x hpz
          rw [← hlow] at hl0 hl1
          (k_dflt (refine' Tell.use (IH M (Nat.lt_succ_self _) _ Lo z _ _ _ vs ns ep hi q1 m1 (by omega) q3' (by omega) hl0 (by rw [← m5]; exact hl1)) ?kBc19 ?kFc19 ?kXc19 ?kNc19 ?kTc19 ?kKc19 ?kdc19 ?kuc19 ?kRc19; (case kBc19 => k_asm); (case kFc19 => k_asm); (case kXc19 => k_asm); (case kNc19 => k_asm); (case kTc19 => k_asm); (case kKc19 => first | exact rfl | assumption); (case kdc19 => ktr_room); (case kuc19 => ktr_units)))
          rintro r9 news9 h9 tk9 F9 N9 ⟨rfl, vs9, ep9, hi9, rfl⟩
          rw [hlow, m5] at hi9
          have hlen9 : (setD ns (x % 2 ^ (n.toNat * (z - Lo).toNat)) n.toNat Lo.toNat (z - Lo).toNat).length = ns.length := setD_length (by omega)
          (try dsimp only)
          (try k_fold)
          k_steps
          refine Stop.out ?_
          have hu0 : 0 ≤ x / 2 ^ ((z - Lo) * n).toNat := Int.ediv_nonneg q5 (Int.le_of_lt hpz)
          have hu1 : x / 2 ^ ((z - Lo) * n).toNat < 2 ^ (n.toNat * (Hi - z).toNat) := by
            refine Int.ediv_lt_of_lt_mul hpz ?_
            rw [m5, ← Int.pow_add, ← Nat.mul_add]
            have : (Hi - z).toNat + (z - Lo).toNat = (Hi - Lo).toNat := by omega
            rw [this]; exact q6
          (k_dflt (refine' Tell.use (IH M (Nat.lt_succ_self _) _ z Hi _ _ _ vs9 _ ep9 hi9 (by omega) m2 (by rw [hlen9]; omega) (by rw [hlen9]; omega) (by omega) hu0 hu1) ?kBc20 ?kFc20 ?kXc20 ?kNc20 ?kTc20 ?kKc20 ?kdc20 ?kuc20 ?kRc20; (case kBc20 => k_asm); (case kFc20 => k_asm); (case kXc20 => k_asm); (case kNc20 => k_asm); (case kTc20 => k_asm); (case kKc20 => first | exact rfl | assumption); (case kdc20 => ktr_room); (case kuc20 => ktr_units)))
          rintro r8 news8 h8 tk8 F8 N8 ⟨rfl, vs8, ep8, hi8, rfl⟩
          have hz1 : z.toNat = Lo.toNat + (z - Lo).toNat := by omega
          have hz2 : (z - Lo).toNat + (Hi - z).toNat = (Hi - Lo).toNat := by omega
          rw [m5, hz1, setD_split (by omega), hz2] at hi8
          (try dsimp only)
          (try k_fold)
          k_steps
          exact hret _ _ _ _ (by assumption) (by assumption) ⟨rfl, _, _, hi8, rfl⟩
    have hk1 : 1 ≤ ((Builtin.Int.intBits a : Int) + n - 1) / n := by
      have : 1 ≤ Builtin.Int.intBits a := by
        refine Nat.pos_of_ne_zero fun hz => ?_
        have := (intBits_le_iff (x := a) (m := 0)).mp (by omega)
        simp at this; omega
      exact Int.le_ediv_of_mul_le (by omega) (by omega)
    have hak : a < 2 ^ (n.toNat * ((((Builtin.Int.intBits a : Int) + n - 1) / n).toNat)) := by
      have h1 : Builtin.Int.intBits a ≤ n.toNat * ((((Builtin.Int.intBits a : Int) + n - 1) / n).toNat) := by
        have h2 := Int.mul_ediv_add_emod ((Builtin.Int.intBits a : Int) + n - 1) n
        have h3 := Int.emod_lt_of_pos ((Builtin.Int.intBits a : Int) + n - 1) (show 0 < n by omega)
        have h4 : ((n.toNat * ((((Builtin.Int.intBits a : Int) + n - 1) / n).toNat) : Nat) : Int) = n * (((Builtin.Int.intBits a : Int) + n - 1) / n) := by
          rw [Int.natCast_mul, Int.toNat_of_nonneg (by omega), Int.toNat_of_nonneg (by omega)]
        omega
      have h2 := intBits_le_iff.mp h1
      have h3 : (a.natAbs : Int) < ((2 ^ (n.toNat * ((((Builtin.Int.intBits a : Int) + n - 1) / n).toNat)) : Nat) : Int) := by exact_mod_cast h2
      rw [kbt_cast] at h3
      omega
    have hrl : ((List.replicate (((Builtin.Int.intBits a : Int) + n - 1) / n).toNat (Value.int 0 tk00)).length : Int) = ((Builtin.Int.intBits a : Int) + n - 1) / n := by rw [List.length_replicate]; omega
    have h1024 : (2 : Int) ^ 10 = 1024 := by decide
    (k_dflt (refine' Tell.use (key 10 a 0 ((List.replicate (((Builtin.Int.intBits a : Int) + n - 1) / n).toNat (Value.int 0 tk00)).length : Int) _ _ _ _ _ 0 (rep_ints (((Builtin.Int.intBits a : Int) + n - 1) / n).toNat tk00) (by decide) (by rw [hrl]; omega) (by simp) (by simp; omega) (by rw [hrl, h1024]; omega) (by omega) (by rw [hrl, Int.sub_zero]; exact hak)) ?kBc21 ?kFc21 ?kXc21 ?kNc21 ?kTc21 ?kKc21 ?kdc21 ?kuc21 ?kRc21; (case kBc21 => k_asm); (case kFc21 => k_asm); (case kXc21 => k_asm); (case kNc21 => k_asm); (case kTc21 => k_asm); (case kKc21 => first | exact rfl | assumption); (case kdc21 => ktr_room); (case kuc21 => ktr_units)))
    rintro r9 news9 h9 tk9 F9 N9 ⟨rfl, vs9, ep9, hi9, rfl⟩
    rw [hrl, Int.sub_zero, Int.toNat_zero, setD_all] at hi9
    (try dsimp only)
    (try k_fold)
    k_steps
    exact hret _ ((D0, listOf vs9.toArray ep9) :: (47, tabHit c1) :: (c1, oc1) :: own) _ _ (by assumption)
      (cb_drop (by assumption) (List.forall_mem_cons.mpr ⟨.tail _ (.head _), List.forall_mem_cons.mpr ⟨.tail _ (.tail _ (.tail _ (.tail _ (.tail _ (.tail _ (.head _)))))), List.forall_mem_cons.mpr ⟨.tail _ (.tail _ (.tail _ (.tail _ (.tail _ (.tail _ (.tail _ (.head _))))))), fun p hp => .tail _ (.tail _ (.tail _ (.tail _ (.tail _ (.tail _ (.tail _ (.tail _ hp)))))))⟩⟩⟩))
      ⟨D0, c1, oc1, vs9, ep9, rfl, ⟨_, _, e1, e2⟩, hi9, rfl, kst_ltOf l11.2.2.2.2.2.2, l11.2.2.2.2.1, Nat.ne_of_lt l11.2.2.2.2.2.1, hc47, hcown⟩
  · exact Stop.out (by rw [List.length_replicate]; omega)
  · exfalso
    (rename a = 0 => hz)
    omega
  · refine Stop.out ⟨Int.ediv_nonneg (by omega) (by omega), by omega⟩
end Mine
local macro_rules | `(tactic| walk_at "call builtin:divmod") => `(tactic| (k_here; k_dflt (refine' Mine.divmod_S ?k1 ?k2 ?_ ?_; (case k1 => k_asm); (case k2 => k_asm)); intro D' h' tk' t1' t2' c' F' N' l1'; (try k_sweep)))
namespace Mine
theorem dg : ∀ m : Nat, m < 64 → (Nat.toDigits 10 m).map Char.toNat = if m < 10 then [48 + m] else [48 + m / 10, 48 + m % 10] := by decide +kernel
theorem ix2 : Builtin.Str.strSliceIndices (some (-2)) none 1 2 = [0, 1] := by decide +kernel
theorem ix3 : Builtin.Str.strSliceIndices (some (-2)) none 1 3 = [1, 2] := by decide +kernel
theorem slice2 (a b : Nat) : Txt.slice ⟨#[a, b]⟩ (some (-2)) none = ⟨#[a, b]⟩ := by
  unfold Txt.slice
  rw [show (⟨#[a, b]⟩ : Str).length = 2 from rfl, ix2]; rfl
theorem slice3 (a b c : Nat) : Txt.slice ⟨#[a, b, c]⟩ (some (-2)) none = ⟨#[b, c]⟩ := by
  unfold Txt.slice
  rw [show (⟨#[a, b, c]⟩ : Str).length = 3 from rfl, ix3]; rfl
theorem zr : Str.ofString "0" = ⟨#[48]⟩ := by decide +kernel
theorem str_one (h : Nat) (hh : h < 64) : Str.ofString (toString (h : Int)) = ⟨(if h < 10 then [48 + h] else [48 + h / 10, 48 + h % 10]).toArray⟩ := by
  rw [← dg h hh]; exact text_ofNat h
theorem str_app (a b : List Nat) : (⟨a.toArray⟩ : Str) ++ (⟨b.toArray⟩ : Str) = ⟨(a ++ b).toArray⟩ := by
  apply Str.ext'
  rw [Str.cps_append]
  simp
theorem str_two (h : Nat) (hh : h < 64) : Txt.slice (Str.ofString "0" ++ Str.ofString (toString (h : Int))) (some (-2)) none = ⟨[48 + h / 10, 48 + h % 10].toArray⟩ := by
  rw [str_one h hh, zr]
  show Txt.slice ((⟨[48].toArray⟩ : Str) ++ _) _ _ = _
  rw [str_app]
  split
  · have e1 : h / 10 = 0 := by omega
    have e2 : h % 10 = h := by omega
    rw [e1, e2]; exact slice2 48 (48 + h)
  · exact slice3 48 (48 + h / 10) (48 + h % 10)
/-- the zone's text -/
def zoneL (sq : Bool) (rest h m : Int) : List Nat :=
  (if sq then 45 else 43) :: ((if rest % 3 = 2 ∧ h < 10 then [48 + h.toNat] else [48 + h.toNat / 10, 48 + h.toNat % 10]) ++ ((if rest % 3 = 1 then [] else [58]) ++ [48 + m.toNat / 10, 48 + m.toNat % 10]))
theorem mn1 : Str.ofString "-" = ⟨[45].toArray⟩ := by decide +kernel
theorem pl1 : Str.ofString "+" = ⟨[43].toArray⟩ := by decide +kernel
theorem cl1 : Str.ofString ":" = ⟨[58].toArray⟩ := by decide +kernel
theorem em1 : Str.ofString "" = ⟨([] : List Nat).toArray⟩ := by decide +kernel
theorem zone_str (sq : Bool) (rest : Int) (hn mn : Nat) (hh : hn < 64) (hm : mn < 64) : (⟨(zoneL sq rest hn mn).toArray⟩ : Str) =
    (if sq = true then Str.ofString "-" else Str.ofString "+") ++ (if rest % 3 = 2 then Str.ofString (toString (hn : Int)) else Txt.slice (Str.ofString "0" ++ Str.ofString (toString (hn : Int))) (some (-2)) none) ++ (if rest % 3 = 1 then Str.ofString "" else Str.ofString ":") ++ Txt.slice (Str.ofString "0" ++ Str.ofString (toString (mn : Int))) (some (-2)) none := by
  rw [str_two mn hm, str_two hn hh, str_one hn hh, mn1, pl1, em1, cl1]
  have e : ∀ (c : Prop) [Decidable c] (a b : List Nat), (if c then (⟨a.toArray⟩ : Str) else ⟨b.toArray⟩) = ⟨(if c then a else b).toArray⟩ := fun c _ a b => by split <;> rfl
  rw [e, e, e, str_app, str_app, str_app]
  congr 2
  unfold zoneL
  simp only [Int.toNat_natCast]
  by_cases h1 : rest % 3 = 2 <;> by_cases h2 : (hn : Int) < 10
  · have h3 : hn < 10 := by omega
    simp only [h1, h2, h3, and_self, if_true]; cases sq <;> simp
  · have h3 : ¬ hn < 10 := by omega
    simp only [h1, h2, h3, and_false, if_true, if_false]; cases sq <;> simp
  · simp only [h1, false_and, if_false]; cases sq <;> simp
  · simp only [h1, false_and, if_false]; cases sq <;> simp
local macro_rules | `(tactic| walk_at "subscriptTail BinOp") => `(tactic| (k_here; k_dflt (refine kba_turn (value' := PySem.Expr.Name (PySem.Str.ofString "_") ⟨0, 0, 0, 0⟩) (fun _ => rfl) ?_)))
set_option maxRecDepth 100000 in
set_option maxHeartbeats 8000000 in
theorem zone_tell (w : World) (sq : Bool) (rest h m1 : Int) (t1 t2 t3 : Tok) (own : Led) (h0 : 0 ≤ h) (h1 : h < 64) (m0 : 0 ≤ m1) (m2 : m1 < 64) :
  Tell w 97 own [.bool sq, .int rest t1, .int h t2, .int m1 t3] 1 (fun r news' => ∃ t, r = .str ⟨(zoneL sq rest h m1).toArray⟩ t ∧ news' = own) := by
  (((have hz : PySem.Challenge.rw_xg0042_01 = PySem.Challenge.rw_xg0042_01 ∧ Mine.hd.heap_39 = Mine.hd.heap_39 := by (k_fill; exact ⟨rfl, rfl⟩)); clear hz))
  unfold Tell
  intro p loose mean mg mb dp un gd cn cs aa ccd cl outer A₀ base h₀ L m s Q E B F X N T hk hd hu hret
  obtain ⟨hn, rfl⟩ := Int.eq_ofNat_of_zero_le h0
  obtain ⟨mn, rfl⟩ := Int.eq_ofNat_of_zero_le m0
  have zs := zone_str sq rest hn mn (by omega) (by omega)
  have em : rest % 3 = rest.fmod 3 := (Int.fmod_eq_emod_of_nonneg _ (by decide)).symm
  rw [em] at zs
  rw [zs] at hret
  clear zs
  refine wpAny_call ?_
  cases sq
  all_goals
    ((k_dflt (refine' code_def ?k1e25 ?k2e25 ?k3e25 ?k4e25 ?k5e25 ?kAe25 ?kFe25 ?kKe25 ?k6e25 ?k7e25 ?k8e25 ?k9e25 ?kBe25 ?_ ?c2e25 ?c3e25 ?c4e25 ?c5e25; (case kAe25 => exact rfl); (case kFe25 => exact rfl); (case kKe25 => first | exact rfl | assumption); (case k1e25 => k_asm); (case k2e25 => k_asm); (case k3e25 => k_asm); (case k4e25 => k_asm); (case k5e25 => k_asm); (case k6e25 => k_is); (case k7e25 => k_is); (case k8e25 => ktr_room); (case k9e25 => first | exact BindsTo.of_eq rfl | exact binds_K (by k_in) rfl (by k_is) rfl rfl rfl | (refine' kp_binds ?kXe25 ?kPe25; (case kXe25 => k_in); (case kPe25 => intro S; with_unfolding_all rfl))); (case c5e25 => decide); (case kBe25 => exact locs rfl); (case c2e25 => exact rfl); (case c3e25 => exact rfl); (case c4e25 => exact rfl); k_whole; intro g' L' h' FG' F' N' B' X' T'; (try dsimp only); (try k_lift B'); (try k_fold))))
    (with_unfolding_all (rename Fr _ _ _ _ => kF))
    first
    | replace kF : Fr _ _ _ (fun y => List.lookup y [(Str.ofString "minutes", .int mn t3), (Str.ofString "hours", .int hn t2), (Str.ofString "rest", .int rest t1), (Str.ofString "square", .bool false)]) := kF
    | replace kF : Fr _ _ _ (fun y => List.lookup y [(Str.ofString "minutes", .int mn t3), (Str.ofString "hours", .int hn t2), (Str.ofString "rest", .int rest t1), (Str.ofString "square", .bool true)]) := kF
    (repeat' (first | (k_unfold; (try dsimp only)) | walk1 | (dsimp only; walk1) | (leave1; walk_say "STEP leave1"; try dsimp only) | fail "no step"))
  all_goals
    first | (rename Int.fmod rest 3 = 2 => r2; rw [if_pos r2] at hret) | (rename Int.fmod rest 3 ≠ 2 => r2; rw [if_neg r2] at hret)
    first | (rename Int.fmod rest 3 = 1 => r1; rw [if_pos r1] at hret) | (rename Int.fmod rest 3 ≠ 1 => r1; rw [if_neg r1] at hret)
    exact hret _ _ _ _ (by assumption) (by assumption) ⟨_, rfl, rfl⟩
end Mine
open PySem PySem.Sre
namespace Mine
def tzCode : Array Nat := #[14, 4, 0, 1, 6, 6, 0, 23, 14, 0, 1, 17, 0, 13, 6, 16, 45, 16, 43, 0, 17, 1, 18, 17, 2, 13, 4, 8, 0, 0, 24, 9, 0, 1, 13, 4, 8, 0, 0, 1, 17, 3, 24, 6, 0, 1, 16, 58, 1, 23, 17, 0, 1, 17, 4, 13, 4, 8, 0, 0, 13, 4, 8, 0, 0, 17, 5, 18, 6, 5, 1]
theorem runFor_add (a b : Nat) (m : M) : m.runFor (a + b) = (m.runFor a).runFor b := by
  induction a generalizing m with
  | zero => simp [M.runFor]
  | succ a ih =>
    rw [Nat.succ_add, M.runFor, M.runFor]
    split
    · rename_i h
      cases b with
      | zero => rfl
      | succ b => rw [M.runFor, if_pos h]
    · exact ih _
theorem cat_digit {c : Nat} (h : isDigit c = true) : category 0 c = .ok true := by
  unfold category; rw [show (0 : Nat) / 2 = 0 from rfl]; simp only [h]; rfl
theorem accD (i : Nat) (hi : i = 25 ∨ i = 34 ∨ i = 55 ∨ i = 60) {c : Nat} (h : isDigit c = true) (seen : Sre.Seen) : accepts tzCode i c seen = .ok (true, (seen.add 8).add 55) := by
  have hc := cat_digit h
  rcases hi with rfl | rfl | rfl | rfl
  all_goals
    show (do if ← category 0 c then pure (true, (seen.add 8).add 55) else inSet tzCode c 70 _ true ((seen.add 8).add 55)) = _
    rw [hc]; rfl
theorem accC {c : Nat} (h : isDigit c = true) (seen : Sre.Seen) : accepts tzCode 46 c seen = .ok (false, seen) := by
  show Except.ok (c == 58, seen) = _
  have : (c == 58) = false := by
    unfold isDigit at h
    simp at h ⊢; omega
  rw [this]
theorem run1 {i b p : Nat} {text : Array Nat} {seen seen' : Sre.Seen} {y : Bool} (hb : text.getD p 0 = b) (h : accepts tzCode i b seen = .ok (y, seen')) : Sre.run tzCode text i 1 p 0 seen = .ok (if y then 1 else 0, seen') := by
  unfold Sre.run
  rw [hb, h]
  cases y <;> rfl
def mA0 (text : Array Nat) (seen : Sre.Seen) : M := { code := tzCode, text, lim := 6, start := 0, lastStart := 6, wholeText := false, mustAdvance := false, pc := 5, pos := 0, handed := 0, outermost := true, marks := #[none, none, none, none, none, none], lastmark := (-1), lastindex := (-1), loops := #[], inner := none, frames := [{ wait := .nextStart, pc := 5, pos := 0, outermost := true, count := 0, kept := { lastmark := (-1), lastindex := (-1), whole := false, marks := #[] }, loop := 0, began := none }], weight := 1, answer := none, seen, outcome := none }
def mA1 (text : Array Nat) (seen : Sre.Seen) : M := { code := tzCode, text, lim := 6, start := 0, lastStart := 6, wholeText := false, mustAdvance := false, pc := 7, pos := 0, handed := 0, outermost := true, marks := #[none, none, none, none, none, none], lastmark := (-1), lastindex := (-1), loops := #[], inner := none, frames := [{ wait := .nextStart, pc := 5, pos := 0, outermost := true, count := 0, kept := { lastmark := (-1), lastindex := (-1), whole := false, marks := #[] }, loop := 0, began := none }], weight := 1, answer := none, seen, outcome := none }
def mA2 (text : Array Nat) (seen : Sre.Seen) : M := { code := tzCode, text, lim := 6, start := 0, lastStart := 6, wholeText := false, mustAdvance := false, pc := 22, pos := 0, handed := 0, outermost := true, marks := #[none, none, none, none, none, none], lastmark := (-1), lastindex := (-1), loops := #[{ pc := 7, count := (-1), began := none, outer := none }], inner := some 0, frames := [{ wait := .closeLoop, pc := 7, pos := 0, outermost := true, count := 0, kept := { lastmark := (-1), lastindex := (-1), whole := false, marks := #[] }, loop := 0, began := none }, { wait := .nextStart, pc := 5, pos := 0, outermost := true, count := 0, kept := { lastmark := (-1), lastindex := (-1), whole := false, marks := #[] }, loop := 0, began := none }], weight := 2, answer := none, seen, outcome := none }
def mA3 (text : Array Nat) (seen : Sre.Seen) : M := { code := tzCode, text, lim := 6, start := 0, lastStart := 6, wholeText := false, mustAdvance := false, pc := 11, pos := 0, handed := 0, outermost := true, marks := #[none, none, none, none, none, none], lastmark := (-1), lastindex := (-1), loops := #[{ pc := 7, count := 0, began := some 0, outer := none }], inner := some 0, frames := [{ wait := .maxMore, pc := 23, pos := 0, outermost := true, count := 0, kept := { lastmark := (-1), lastindex := (-1), whole := true, marks := #[] }, loop := 0, began := none }, { wait := .closeLoop, pc := 7, pos := 0, outermost := true, count := 0, kept := { lastmark := (-1), lastindex := (-1), whole := false, marks := #[] }, loop := 0, began := none }, { wait := .nextStart, pc := 5, pos := 0, outermost := true, count := 0, kept := { lastmark := (-1), lastindex := (-1), whole := false, marks := #[] }, loop := 0, began := none }], weight := 3, answer := none, seen, outcome := none }
def mA4 (text : Array Nat) (seen : Sre.Seen) : M := { code := tzCode, text, lim := 6, start := 0, lastStart := 6, wholeText := false, mustAdvance := false, pc := 13, pos := 0, handed := 0, outermost := true, marks := #[some 0, none, none, none, none, none], lastmark := 0, lastindex := (-1), loops := #[{ pc := 7, count := 0, began := some 0, outer := none }], inner := some 0, frames := [{ wait := .maxMore, pc := 23, pos := 0, outermost := true, count := 0, kept := { lastmark := (-1), lastindex := (-1), whole := true, marks := #[] }, loop := 0, began := none }, { wait := .closeLoop, pc := 7, pos := 0, outermost := true, count := 0, kept := { lastmark := (-1), lastindex := (-1), whole := false, marks := #[] }, loop := 0, began := none }, { wait := .nextStart, pc := 5, pos := 0, outermost := true, count := 0, kept := { lastmark := (-1), lastindex := (-1), whole := false, marks := #[] }, loop := 0, began := none }], weight := 3, answer := none, seen, outcome := none }
def mA5 (text : Array Nat) (seen : Sre.Seen) : M := { code := tzCode, text, lim := 6, start := 0, lastStart := 6, wholeText := false, mustAdvance := false, pc := 20, pos := 1, handed := 0, outermost := true, marks := #[some 0, none, none, none, none, none], lastmark := 0, lastindex := (-1), loops := #[{ pc := 7, count := 0, began := some 0, outer := none }], inner := some 0, frames := [{ wait := .maxMore, pc := 23, pos := 0, outermost := true, count := 0, kept := { lastmark := (-1), lastindex := (-1), whole := true, marks := #[] }, loop := 0, began := none }, { wait := .closeLoop, pc := 7, pos := 0, outermost := true, count := 0, kept := { lastmark := (-1), lastindex := (-1), whole := false, marks := #[] }, loop := 0, began := none }, { wait := .nextStart, pc := 5, pos := 0, outermost := true, count := 0, kept := { lastmark := (-1), lastindex := (-1), whole := false, marks := #[] }, loop := 0, began := none }], weight := 3, answer := none, seen, outcome := none }
def mA6 (text : Array Nat) (seen : Sre.Seen) : M := { code := tzCode, text, lim := 6, start := 0, lastStart := 6, wholeText := false, mustAdvance := false, pc := 22, pos := 1, handed := 0, outermost := true, marks := #[some 0, some 1, none, none, none, none], lastmark := 1, lastindex := 1, loops := #[{ pc := 7, count := 0, began := some 0, outer := none }], inner := some 0, frames := [{ wait := .maxMore, pc := 23, pos := 0, outermost := true, count := 0, kept := { lastmark := (-1), lastindex := (-1), whole := true, marks := #[] }, loop := 0, began := none }, { wait := .closeLoop, pc := 7, pos := 0, outermost := true, count := 0, kept := { lastmark := (-1), lastindex := (-1), whole := false, marks := #[] }, loop := 0, began := none }, { wait := .nextStart, pc := 5, pos := 0, outermost := true, count := 0, kept := { lastmark := (-1), lastindex := (-1), whole := false, marks := #[] }, loop := 0, began := none }], weight := 3, answer := none, seen, outcome := none }
def mA7 (text : Array Nat) (seen : Sre.Seen) : M := { code := tzCode, text, lim := 6, start := 0, lastStart := 6, wholeText := false, mustAdvance := false, pc := 23, pos := 1, handed := 1, outermost := true, marks := #[some 0, some 1, none, none, none, none], lastmark := 1, lastindex := 1, loops := #[{ pc := 7, count := 0, began := some 0, outer := none }], inner := none, frames := [{ wait := .maxTail, pc := 23, pos := 1, outermost := true, count := 1, kept := { lastmark := 1, lastindex := 1, whole := false, marks := #[] }, loop := 0, began := none }, { wait := .maxMore, pc := 23, pos := 0, outermost := true, count := 0, kept := { lastmark := (-1), lastindex := (-1), whole := true, marks := #[] }, loop := 0, began := none }, { wait := .closeLoop, pc := 7, pos := 0, outermost := true, count := 0, kept := { lastmark := (-1), lastindex := (-1), whole := false, marks := #[] }, loop := 0, began := none }, { wait := .nextStart, pc := 5, pos := 0, outermost := true, count := 0, kept := { lastmark := (-1), lastindex := (-1), whole := false, marks := #[] }, loop := 0, began := none }], weight := 4, answer := none, seen, outcome := none }
def mA8 (text : Array Nat) (seen : Sre.Seen) : M := { code := tzCode, text, lim := 6, start := 0, lastStart := 6, wholeText := false, mustAdvance := false, pc := 25, pos := 1, handed := 1, outermost := true, marks := #[some 0, some 1, some 1, none, none, none], lastmark := 2, lastindex := 1, loops := #[{ pc := 7, count := 0, began := some 0, outer := none }], inner := none, frames := [{ wait := .maxTail, pc := 23, pos := 1, outermost := true, count := 1, kept := { lastmark := 1, lastindex := 1, whole := false, marks := #[] }, loop := 0, began := none }, { wait := .maxMore, pc := 23, pos := 0, outermost := true, count := 0, kept := { lastmark := (-1), lastindex := (-1), whole := true, marks := #[] }, loop := 0, began := none }, { wait := .closeLoop, pc := 7, pos := 0, outermost := true, count := 0, kept := { lastmark := (-1), lastindex := (-1), whole := false, marks := #[] }, loop := 0, began := none }, { wait := .nextStart, pc := 5, pos := 0, outermost := true, count := 0, kept := { lastmark := (-1), lastindex := (-1), whole := false, marks := #[] }, loop := 0, began := none }], weight := 4, answer := none, seen, outcome := none }
def mA9 (text : Array Nat) (seen : Sre.Seen) : M := { code := tzCode, text, lim := 6, start := 0, lastStart := 6, wholeText := false, mustAdvance := false, pc := 30, pos := 2, handed := 1, outermost := true, marks := #[some 0, some 1, some 1, none, none, none], lastmark := 2, lastindex := 1, loops := #[{ pc := 7, count := 0, began := some 0, outer := none }], inner := none, frames := [{ wait := .maxTail, pc := 23, pos := 1, outermost := true, count := 1, kept := { lastmark := 1, lastindex := 1, whole := false, marks := #[] }, loop := 0, began := none }, { wait := .maxMore, pc := 23, pos := 0, outermost := true, count := 0, kept := { lastmark := (-1), lastindex := (-1), whole := true, marks := #[] }, loop := 0, began := none }, { wait := .closeLoop, pc := 7, pos := 0, outermost := true, count := 0, kept := { lastmark := (-1), lastindex := (-1), whole := false, marks := #[] }, loop := 0, began := none }, { wait := .nextStart, pc := 5, pos := 0, outermost := true, count := 0, kept := { lastmark := (-1), lastindex := (-1), whole := false, marks := #[] }, loop := 0, began := none }], weight := 4, answer := none, seen, outcome := none }
def mA10 (text : Array Nat) (seen : Sre.Seen) : M := { code := tzCode, text, lim := 6, start := 0, lastStart := 6, wholeText := false, mustAdvance := false, pc := 40, pos := 3, handed := 3, outermost := true, marks := #[some 0, some 1, some 1, none, none, none], lastmark := 2, lastindex := 1, loops := #[{ pc := 7, count := 0, began := some 0, outer := none }], inner := none, frames := [{ wait := .giveBack, pc := 30, pos := 3, outermost := true, count := 1, kept := { lastmark := 2, lastindex := 1, whole := false, marks := #[] }, loop := 0, began := none }, { wait := .maxTail, pc := 23, pos := 1, outermost := true, count := 1, kept := { lastmark := 1, lastindex := 1, whole := false, marks := #[] }, loop := 0, began := none }, { wait := .maxMore, pc := 23, pos := 0, outermost := true, count := 0, kept := { lastmark := (-1), lastindex := (-1), whole := true, marks := #[] }, loop := 0, began := none }, { wait := .closeLoop, pc := 7, pos := 0, outermost := true, count := 0, kept := { lastmark := (-1), lastindex := (-1), whole := false, marks := #[] }, loop := 0, began := none }, { wait := .nextStart, pc := 5, pos := 0, outermost := true, count := 0, kept := { lastmark := (-1), lastindex := (-1), whole := false, marks := #[] }, loop := 0, began := none }], weight := 5, answer := none, seen, outcome := none }
def mA11 (text : Array Nat) (seen : Sre.Seen) : M := { code := tzCode, text, lim := 6, start := 0, lastStart := 6, wholeText := false, mustAdvance := false, pc := 42, pos := 3, handed := 3, outermost := true, marks := #[some 0, some 1, some 1, some 3, none, none], lastmark := 3, lastindex := 2, loops := #[{ pc := 7, count := 0, began := some 0, outer := none }], inner := none, frames := [{ wait := .giveBack, pc := 30, pos := 3, outermost := true, count := 1, kept := { lastmark := 2, lastindex := 1, whole := false, marks := #[] }, loop := 0, began := none }, { wait := .maxTail, pc := 23, pos := 1, outermost := true, count := 1, kept := { lastmark := 1, lastindex := 1, whole := false, marks := #[] }, loop := 0, began := none }, { wait := .maxMore, pc := 23, pos := 0, outermost := true, count := 0, kept := { lastmark := (-1), lastindex := (-1), whole := true, marks := #[] }, loop := 0, began := none }, { wait := .closeLoop, pc := 7, pos := 0, outermost := true, count := 0, kept := { lastmark := (-1), lastindex := (-1), whole := false, marks := #[] }, loop := 0, began := none }, { wait := .nextStart, pc := 5, pos := 0, outermost := true, count := 0, kept := { lastmark := (-1), lastindex := (-1), whole := false, marks := #[] }, loop := 0, began := none }], weight := 5, answer := none, seen, outcome := none }
def mA12 (text : Array Nat) (seen : Sre.Seen) : M := { code := tzCode, text, lim := 6, start := 0, lastStart := 6, wholeText := false, mustAdvance := false, pc := 49, pos := 4, handed := 4, outermost := true, marks := #[some 0, some 1, some 1, some 3, none, none], lastmark := 3, lastindex := 2, loops := #[{ pc := 7, count := 0, began := some 0, outer := none }], inner := none, frames := [{ wait := .giveBack, pc := 42, pos := 4, outermost := true, count := 1, kept := { lastmark := 3, lastindex := 2, whole := false, marks := #[] }, loop := 0, began := none }, { wait := .giveBack, pc := 30, pos := 3, outermost := true, count := 1, kept := { lastmark := 2, lastindex := 1, whole := false, marks := #[] }, loop := 0, began := none }, { wait := .maxTail, pc := 23, pos := 1, outermost := true, count := 1, kept := { lastmark := 1, lastindex := 1, whole := false, marks := #[] }, loop := 0, began := none }, { wait := .maxMore, pc := 23, pos := 0, outermost := true, count := 0, kept := { lastmark := (-1), lastindex := (-1), whole := true, marks := #[] }, loop := 0, began := none }, { wait := .closeLoop, pc := 7, pos := 0, outermost := true, count := 0, kept := { lastmark := (-1), lastindex := (-1), whole := false, marks := #[] }, loop := 0, began := none }, { wait := .nextStart, pc := 5, pos := 0, outermost := true, count := 0, kept := { lastmark := (-1), lastindex := (-1), whole := false, marks := #[] }, loop := 0, began := none }], weight := 6, answer := none, seen, outcome := none }
def mA13 (text : Array Nat) (seen : Sre.Seen) : M := { code := tzCode, text, lim := 6, start := 0, lastStart := 6, wholeText := false, mustAdvance := false, pc := 67, pos := 4, handed := 4, outermost := true, marks := #[some 0, some 1, some 1, some 3, none, none], lastmark := 3, lastindex := 2, loops := #[{ pc := 7, count := 0, began := some 0, outer := none }, { pc := 49, count := (-1), began := none, outer := none }], inner := some 1, frames := [{ wait := .closeLoop, pc := 49, pos := 4, outermost := true, count := 0, kept := { lastmark := (-1), lastindex := (-1), whole := false, marks := #[] }, loop := 1, began := none }, { wait := .giveBack, pc := 42, pos := 4, outermost := true, count := 1, kept := { lastmark := 3, lastindex := 2, whole := false, marks := #[] }, loop := 0, began := none }, { wait := .giveBack, pc := 30, pos := 3, outermost := true, count := 1, kept := { lastmark := 2, lastindex := 1, whole := false, marks := #[] }, loop := 0, began := none }, { wait := .maxTail, pc := 23, pos := 1, outermost := true, count := 1, kept := { lastmark := 1, lastindex := 1, whole := false, marks := #[] }, loop := 0, began := none }, { wait := .maxMore, pc := 23, pos := 0, outermost := true, count := 0, kept := { lastmark := (-1), lastindex := (-1), whole := true, marks := #[] }, loop := 0, began := none }, { wait := .closeLoop, pc := 7, pos := 0, outermost := true, count := 0, kept := { lastmark := (-1), lastindex := (-1), whole := false, marks := #[] }, loop := 0, began := none }, { wait := .nextStart, pc := 5, pos := 0, outermost := true, count := 0, kept := { lastmark := (-1), lastindex := (-1), whole := false, marks := #[] }, loop := 0, began := none }], weight := 7, answer := none, seen, outcome := none }
def mA14 (text : Array Nat) (seen : Sre.Seen) : M := { code := tzCode, text, lim := 6, start := 0, lastStart := 6, wholeText := false, mustAdvance := false, pc := 53, pos := 4, handed := 4, outermost := true, marks := #[some 0, some 1, some 1, some 3, none, none], lastmark := 3, lastindex := 2, loops := #[{ pc := 7, count := 0, began := some 0, outer := none }, { pc := 49, count := 0, began := some 4, outer := none }], inner := some 1, frames := [{ wait := .maxMore, pc := 68, pos := 4, outermost := true, count := 0, kept := { lastmark := 3, lastindex := 2, whole := true, marks := #[some 0, some 1, some 1, some 3] }, loop := 1, began := none }, { wait := .closeLoop, pc := 49, pos := 4, outermost := true, count := 0, kept := { lastmark := (-1), lastindex := (-1), whole := false, marks := #[] }, loop := 1, began := none }, { wait := .giveBack, pc := 42, pos := 4, outermost := true, count := 1, kept := { lastmark := 3, lastindex := 2, whole := false, marks := #[] }, loop := 0, began := none }, { wait := .giveBack, pc := 30, pos := 3, outermost := true, count := 1, kept := { lastmark := 2, lastindex := 1, whole := false, marks := #[] }, loop := 0, began := none }, { wait := .maxTail, pc := 23, pos := 1, outermost := true, count := 1, kept := { lastmark := 1, lastindex := 1, whole := false, marks := #[] }, loop := 0, began := none }, { wait := .maxMore, pc := 23, pos := 0, outermost := true, count := 0, kept := { lastmark := (-1), lastindex := (-1), whole := true, marks := #[] }, loop := 0, began := none }, { wait := .closeLoop, pc := 7, pos := 0, outermost := true, count := 0, kept := { lastmark := (-1), lastindex := (-1), whole := false, marks := #[] }, loop := 0, began := none }, { wait := .nextStart, pc := 5, pos := 0, outermost := true, count := 0, kept := { lastmark := (-1), lastindex := (-1), whole := false, marks := #[] }, loop := 0, began := none }], weight := 12, answer := none, seen, outcome := none }
def mA15 (text : Array Nat) (seen : Sre.Seen) : M := { code := tzCode, text, lim := 6, start := 0, lastStart := 6, wholeText := false, mustAdvance := false, pc := 55, pos := 4, handed := 4, outermost := true, marks := #[some 0, some 1, some 1, some 3, some 4, none], lastmark := 4, lastindex := 2, loops := #[{ pc := 7, count := 0, began := some 0, outer := none }, { pc := 49, count := 0, began := some 4, outer := none }], inner := some 1, frames := [{ wait := .maxMore, pc := 68, pos := 4, outermost := true, count := 0, kept := { lastmark := 3, lastindex := 2, whole := true, marks := #[some 0, some 1, some 1, some 3] }, loop := 1, began := none }, { wait := .closeLoop, pc := 49, pos := 4, outermost := true, count := 0, kept := { lastmark := (-1), lastindex := (-1), whole := false, marks := #[] }, loop := 1, began := none }, { wait := .giveBack, pc := 42, pos := 4, outermost := true, count := 1, kept := { lastmark := 3, lastindex := 2, whole := false, marks := #[] }, loop := 0, began := none }, { wait := .giveBack, pc := 30, pos := 3, outermost := true, count := 1, kept := { lastmark := 2, lastindex := 1, whole := false, marks := #[] }, loop := 0, began := none }, { wait := .maxTail, pc := 23, pos := 1, outermost := true, count := 1, kept := { lastmark := 1, lastindex := 1, whole := false, marks := #[] }, loop := 0, began := none }, { wait := .maxMore, pc := 23, pos := 0, outermost := true, count := 0, kept := { lastmark := (-1), lastindex := (-1), whole := true, marks := #[] }, loop := 0, began := none }, { wait := .closeLoop, pc := 7, pos := 0, outermost := true, count := 0, kept := { lastmark := (-1), lastindex := (-1), whole := false, marks := #[] }, loop := 0, began := none }, { wait := .nextStart, pc := 5, pos := 0, outermost := true, count := 0, kept := { lastmark := (-1), lastindex := (-1), whole := false, marks := #[] }, loop := 0, began := none }], weight := 12, answer := none, seen, outcome := none }
def mA16 (text : Array Nat) (seen : Sre.Seen) : M := { code := tzCode, text, lim := 6, start := 0, lastStart := 6, wholeText := false, mustAdvance := false, pc := 60, pos := 5, handed := 4, outermost := true, marks := #[some 0, some 1, some 1, some 3, some 4, none], lastmark := 4, lastindex := 2, loops := #[{ pc := 7, count := 0, began := some 0, outer := none }, { pc := 49, count := 0, began := some 4, outer := none }], inner := some 1, frames := [{ wait := .maxMore, pc := 68, pos := 4, outermost := true, count := 0, kept := { lastmark := 3, lastindex := 2, whole := true, marks := #[some 0, some 1, some 1, some 3] }, loop := 1, began := none }, { wait := .closeLoop, pc := 49, pos := 4, outermost := true, count := 0, kept := { lastmark := (-1), lastindex := (-1), whole := false, marks := #[] }, loop := 1, began := none }, { wait := .giveBack, pc := 42, pos := 4, outermost := true, count := 1, kept := { lastmark := 3, lastindex := 2, whole := false, marks := #[] }, loop := 0, began := none }, { wait := .giveBack, pc := 30, pos := 3, outermost := true, count := 1, kept := { lastmark := 2, lastindex := 1, whole := false, marks := #[] }, loop := 0, began := none }, { wait := .maxTail, pc := 23, pos := 1, outermost := true, count := 1, kept := { lastmark := 1, lastindex := 1, whole := false, marks := #[] }, loop := 0, began := none }, { wait := .maxMore, pc := 23, pos := 0, outermost := true, count := 0, kept := { lastmark := (-1), lastindex := (-1), whole := true, marks := #[] }, loop := 0, began := none }, { wait := .closeLoop, pc := 7, pos := 0, outermost := true, count := 0, kept := { lastmark := (-1), lastindex := (-1), whole := false, marks := #[] }, loop := 0, began := none }, { wait := .nextStart, pc := 5, pos := 0, outermost := true, count := 0, kept := { lastmark := (-1), lastindex := (-1), whole := false, marks := #[] }, loop := 0, began := none }], weight := 12, answer := none, seen, outcome := none }
def mA17 (text : Array Nat) (seen : Sre.Seen) : M := { code := tzCode, text, lim := 6, start := 0, lastStart := 6, wholeText := false, mustAdvance := false, pc := 65, pos := 6, handed := 4, outermost := true, marks := #[some 0, some 1, some 1, some 3, some 4, none], lastmark := 4, lastindex := 2, loops := #[{ pc := 7, count := 0, began := some 0, outer := none }, { pc := 49, count := 0, began := some 4, outer := none }], inner := some 1, frames := [{ wait := .maxMore, pc := 68, pos := 4, outermost := true, count := 0, kept := { lastmark := 3, lastindex := 2, whole := true, marks := #[some 0, some 1, some 1, some 3] }, loop := 1, began := none }, { wait := .closeLoop, pc := 49, pos := 4, outermost := true, count := 0, kept := { lastmark := (-1), lastindex := (-1), whole := false, marks := #[] }, loop := 1, began := none }, { wait := .giveBack, pc := 42, pos := 4, outermost := true, count := 1, kept := { lastmark := 3, lastindex := 2, whole := false, marks := #[] }, loop := 0, began := none }, { wait := .giveBack, pc := 30, pos := 3, outermost := true, count := 1, kept := { lastmark := 2, lastindex := 1, whole := false, marks := #[] }, loop := 0, began := none }, { wait := .maxTail, pc := 23, pos := 1, outermost := true, count := 1, kept := { lastmark := 1, lastindex := 1, whole := false, marks := #[] }, loop := 0, began := none }, { wait := .maxMore, pc := 23, pos := 0, outermost := true, count := 0, kept := { lastmark := (-1), lastindex := (-1), whole := true, marks := #[] }, loop := 0, began := none }, { wait := .closeLoop, pc := 7, pos := 0, outermost := true, count := 0, kept := { lastmark := (-1), lastindex := (-1), whole := false, marks := #[] }, loop := 0, began := none }, { wait := .nextStart, pc := 5, pos := 0, outermost := true, count := 0, kept := { lastmark := (-1), lastindex := (-1), whole := false, marks := #[] }, loop := 0, began := none }], weight := 12, answer := none, seen, outcome := none }
def mA18 (text : Array Nat) (seen : Sre.Seen) : M := { code := tzCode, text, lim := 6, start := 0, lastStart := 6, wholeText := false, mustAdvance := false, pc := 67, pos := 6, handed := 4, outermost := true, marks := #[some 0, some 1, some 1, some 3, some 4, some 6], lastmark := 5, lastindex := 3, loops := #[{ pc := 7, count := 0, began := some 0, outer := none }, { pc := 49, count := 0, began := some 4, outer := none }], inner := some 1, frames := [{ wait := .maxMore, pc := 68, pos := 4, outermost := true, count := 0, kept := { lastmark := 3, lastindex := 2, whole := true, marks := #[some 0, some 1, some 1, some 3] }, loop := 1, began := none }, { wait := .closeLoop, pc := 49, pos := 4, outermost := true, count := 0, kept := { lastmark := (-1), lastindex := (-1), whole := false, marks := #[] }, loop := 1, began := none }, { wait := .giveBack, pc := 42, pos := 4, outermost := true, count := 1, kept := { lastmark := 3, lastindex := 2, whole := false, marks := #[] }, loop := 0, began := none }, { wait := .giveBack, pc := 30, pos := 3, outermost := true, count := 1, kept := { lastmark := 2, lastindex := 1, whole := false, marks := #[] }, loop := 0, began := none }, { wait := .maxTail, pc := 23, pos := 1, outermost := true, count := 1, kept := { lastmark := 1, lastindex := 1, whole := false, marks := #[] }, loop := 0, began := none }, { wait := .maxMore, pc := 23, pos := 0, outermost := true, count := 0, kept := { lastmark := (-1), lastindex := (-1), whole := true, marks := #[] }, loop := 0, began := none }, { wait := .closeLoop, pc := 7, pos := 0, outermost := true, count := 0, kept := { lastmark := (-1), lastindex := (-1), whole := false, marks := #[] }, loop := 0, began := none }, { wait := .nextStart, pc := 5, pos := 0, outermost := true, count := 0, kept := { lastmark := (-1), lastindex := (-1), whole := false, marks := #[] }, loop := 0, began := none }], weight := 12, answer := none, seen, outcome := none }
def mA19 (text : Array Nat) (seen : Sre.Seen) : M := { code := tzCode, text, lim := 6, start := 0, lastStart := 6, wholeText := false, mustAdvance := false, pc := 68, pos := 6, handed := 6, outermost := true, marks := #[some 0, some 1, some 1, some 3, some 4, some 6], lastmark := 5, lastindex := 3, loops := #[{ pc := 7, count := 0, began := some 0, outer := none }, { pc := 49, count := 0, began := some 4, outer := none }], inner := none, frames := [{ wait := .maxTail, pc := 68, pos := 6, outermost := true, count := 1, kept := { lastmark := 5, lastindex := 3, whole := false, marks := #[] }, loop := 1, began := none }, { wait := .maxMore, pc := 68, pos := 4, outermost := true, count := 0, kept := { lastmark := 3, lastindex := 2, whole := true, marks := #[some 0, some 1, some 1, some 3] }, loop := 1, began := none }, { wait := .closeLoop, pc := 49, pos := 4, outermost := true, count := 0, kept := { lastmark := (-1), lastindex := (-1), whole := false, marks := #[] }, loop := 1, began := none }, { wait := .giveBack, pc := 42, pos := 4, outermost := true, count := 1, kept := { lastmark := 3, lastindex := 2, whole := false, marks := #[] }, loop := 0, began := none }, { wait := .giveBack, pc := 30, pos := 3, outermost := true, count := 1, kept := { lastmark := 2, lastindex := 1, whole := false, marks := #[] }, loop := 0, began := none }, { wait := .maxTail, pc := 23, pos := 1, outermost := true, count := 1, kept := { lastmark := 1, lastindex := 1, whole := false, marks := #[] }, loop := 0, began := none }, { wait := .maxMore, pc := 23, pos := 0, outermost := true, count := 0, kept := { lastmark := (-1), lastindex := (-1), whole := true, marks := #[] }, loop := 0, began := none }, { wait := .closeLoop, pc := 7, pos := 0, outermost := true, count := 0, kept := { lastmark := (-1), lastindex := (-1), whole := false, marks := #[] }, loop := 0, began := none }, { wait := .nextStart, pc := 5, pos := 0, outermost := true, count := 0, kept := { lastmark := (-1), lastindex := (-1), whole := false, marks := #[] }, loop := 0, began := none }], weight := 13, answer := none, seen, outcome := none }
def mA20 (text : Array Nat) (seen : Sre.Seen) : M := { code := tzCode, text, lim := 6, start := 0, lastStart := 6, wholeText := false, mustAdvance := false, pc := 70, pos := 6, handed := 6, outermost := true, marks := #[some 0, some 1, some 1, some 3, some 4, some 6], lastmark := 5, lastindex := 3, loops := #[{ pc := 7, count := 0, began := some 0, outer := none }, { pc := 49, count := 0, began := some 4, outer := none }], inner := none, frames := [{ wait := .maxTail, pc := 68, pos := 6, outermost := true, count := 1, kept := { lastmark := 5, lastindex := 3, whole := false, marks := #[] }, loop := 1, began := none }, { wait := .maxMore, pc := 68, pos := 4, outermost := true, count := 0, kept := { lastmark := 3, lastindex := 2, whole := true, marks := #[some 0, some 1, some 1, some 3] }, loop := 1, began := none }, { wait := .closeLoop, pc := 49, pos := 4, outermost := true, count := 0, kept := { lastmark := (-1), lastindex := (-1), whole := false, marks := #[] }, loop := 1, began := none }, { wait := .giveBack, pc := 42, pos := 4, outermost := true, count := 1, kept := { lastmark := 3, lastindex := 2, whole := false, marks := #[] }, loop := 0, began := none }, { wait := .giveBack, pc := 30, pos := 3, outermost := true, count := 1, kept := { lastmark := 2, lastindex := 1, whole := false, marks := #[] }, loop := 0, began := none }, { wait := .maxTail, pc := 23, pos := 1, outermost := true, count := 1, kept := { lastmark := 1, lastindex := 1, whole := false, marks := #[] }, loop := 0, began := none }, { wait := .maxMore, pc := 23, pos := 0, outermost := true, count := 0, kept := { lastmark := (-1), lastindex := (-1), whole := true, marks := #[] }, loop := 0, began := none }, { wait := .closeLoop, pc := 7, pos := 0, outermost := true, count := 0, kept := { lastmark := (-1), lastindex := (-1), whole := false, marks := #[] }, loop := 0, began := none }, { wait := .nextStart, pc := 5, pos := 0, outermost := true, count := 0, kept := { lastmark := (-1), lastindex := (-1), whole := false, marks := #[] }, loop := 0, began := none }], weight := 13, answer := none, seen, outcome := none }
def mA21 (text : Array Nat) (seen : Sre.Seen) : M := { code := tzCode, text, lim := 6, start := 0, lastStart := 6, wholeText := false, mustAdvance := false, pc := 70, pos := 6, handed := 6, outermost := true, marks := #[some 0, some 1, some 1, some 3, some 4, some 6], lastmark := 5, lastindex := 3, loops := #[{ pc := 7, count := 0, began := some 0, outer := none }, { pc := 49, count := 0, began := some 4, outer := none }], inner := none, frames := [{ wait := .maxTail, pc := 68, pos := 6, outermost := true, count := 1, kept := { lastmark := 5, lastindex := 3, whole := false, marks := #[] }, loop := 1, began := none }, { wait := .maxMore, pc := 68, pos := 4, outermost := true, count := 0, kept := { lastmark := 3, lastindex := 2, whole := true, marks := #[some 0, some 1, some 1, some 3] }, loop := 1, began := none }, { wait := .closeLoop, pc := 49, pos := 4, outermost := true, count := 0, kept := { lastmark := (-1), lastindex := (-1), whole := false, marks := #[] }, loop := 1, began := none }, { wait := .giveBack, pc := 42, pos := 4, outermost := true, count := 1, kept := { lastmark := 3, lastindex := 2, whole := false, marks := #[] }, loop := 0, began := none }, { wait := .giveBack, pc := 30, pos := 3, outermost := true, count := 1, kept := { lastmark := 2, lastindex := 1, whole := false, marks := #[] }, loop := 0, began := none }, { wait := .maxTail, pc := 23, pos := 1, outermost := true, count := 1, kept := { lastmark := 1, lastindex := 1, whole := false, marks := #[] }, loop := 0, began := none }, { wait := .maxMore, pc := 23, pos := 0, outermost := true, count := 0, kept := { lastmark := (-1), lastindex := (-1), whole := true, marks := #[] }, loop := 0, began := none }, { wait := .closeLoop, pc := 7, pos := 0, outermost := true, count := 0, kept := { lastmark := (-1), lastindex := (-1), whole := false, marks := #[] }, loop := 0, began := none }, { wait := .nextStart, pc := 5, pos := 0, outermost := true, count := 0, kept := { lastmark := (-1), lastindex := (-1), whole := false, marks := #[] }, loop := 0, began := none }], weight := 13, answer := some true, seen, outcome := none }
def mA22 (text : Array Nat) (seen : Sre.Seen) : M := { code := tzCode, text, lim := 6, start := 0, lastStart := 6, wholeText := false, mustAdvance := false, pc := 68, pos := 6, handed := 6, outermost := true, marks := #[some 0, some 1, some 1, some 3, some 4, some 6], lastmark := 5, lastindex := 3, loops := #[{ pc := 7, count := 0, began := some 0, outer := none }, { pc := 49, count := 0, began := some 4, outer := none }], inner := some 1, frames := [{ wait := .maxMore, pc := 68, pos := 4, outermost := true, count := 0, kept := { lastmark := 3, lastindex := 2, whole := true, marks := #[some 0, some 1, some 1, some 3] }, loop := 1, began := none }, { wait := .closeLoop, pc := 49, pos := 4, outermost := true, count := 0, kept := { lastmark := (-1), lastindex := (-1), whole := false, marks := #[] }, loop := 1, began := none }, { wait := .giveBack, pc := 42, pos := 4, outermost := true, count := 1, kept := { lastmark := 3, lastindex := 2, whole := false, marks := #[] }, loop := 0, began := none }, { wait := .giveBack, pc := 30, pos := 3, outermost := true, count := 1, kept := { lastmark := 2, lastindex := 1, whole := false, marks := #[] }, loop := 0, began := none }, { wait := .maxTail, pc := 23, pos := 1, outermost := true, count := 1, kept := { lastmark := 1, lastindex := 1, whole := false, marks := #[] }, loop := 0, began := none }, { wait := .maxMore, pc := 23, pos := 0, outermost := true, count := 0, kept := { lastmark := (-1), lastindex := (-1), whole := true, marks := #[] }, loop := 0, began := none }, { wait := .closeLoop, pc := 7, pos := 0, outermost := true, count := 0, kept := { lastmark := (-1), lastindex := (-1), whole := false, marks := #[] }, loop := 0, began := none }, { wait := .nextStart, pc := 5, pos := 0, outermost := true, count := 0, kept := { lastmark := (-1), lastindex := (-1), whole := false, marks := #[] }, loop := 0, began := none }], weight := 12, answer := some true, seen, outcome := none }
def mA23 (text : Array Nat) (seen : Sre.Seen) : M := { code := tzCode, text, lim := 6, start := 0, lastStart := 6, wholeText := false, mustAdvance := false, pc := 68, pos := 4, handed := 6, outermost := true, marks := #[some 0, some 1, some 1, some 3, some 4, some 6], lastmark := 5, lastindex := 3, loops := #[{ pc := 7, count := 0, began := some 0, outer := none }, { pc := 49, count := 0, began := none, outer := none }], inner := some 1, frames := [{ wait := .closeLoop, pc := 49, pos := 4, outermost := true, count := 0, kept := { lastmark := (-1), lastindex := (-1), whole := false, marks := #[] }, loop := 1, began := none }, { wait := .giveBack, pc := 42, pos := 4, outermost := true, count := 1, kept := { lastmark := 3, lastindex := 2, whole := false, marks := #[] }, loop := 0, began := none }, { wait := .giveBack, pc := 30, pos := 3, outermost := true, count := 1, kept := { lastmark := 2, lastindex := 1, whole := false, marks := #[] }, loop := 0, began := none }, { wait := .maxTail, pc := 23, pos := 1, outermost := true, count := 1, kept := { lastmark := 1, lastindex := 1, whole := false, marks := #[] }, loop := 0, began := none }, { wait := .maxMore, pc := 23, pos := 0, outermost := true, count := 0, kept := { lastmark := (-1), lastindex := (-1), whole := true, marks := #[] }, loop := 0, began := none }, { wait := .closeLoop, pc := 7, pos := 0, outermost := true, count := 0, kept := { lastmark := (-1), lastindex := (-1), whole := false, marks := #[] }, loop := 0, began := none }, { wait := .nextStart, pc := 5, pos := 0, outermost := true, count := 0, kept := { lastmark := (-1), lastindex := (-1), whole := false, marks := #[] }, loop := 0, began := none }], weight := 7, answer := some true, seen, outcome := none }
def mA24 (text : Array Nat) (seen : Sre.Seen) : M := { code := tzCode, text, lim := 6, start := 0, lastStart := 6, wholeText := false, mustAdvance := false, pc := 49, pos := 4, handed := 6, outermost := true, marks := #[some 0, some 1, some 1, some 3, some 4, some 6], lastmark := 5, lastindex := 3, loops := #[{ pc := 7, count := 0, began := some 0, outer := none }], inner := none, frames := [{ wait := .giveBack, pc := 42, pos := 4, outermost := true, count := 1, kept := { lastmark := 3, lastindex := 2, whole := false, marks := #[] }, loop := 0, began := none }, { wait := .giveBack, pc := 30, pos := 3, outermost := true, count := 1, kept := { lastmark := 2, lastindex := 1, whole := false, marks := #[] }, loop := 0, began := none }, { wait := .maxTail, pc := 23, pos := 1, outermost := true, count := 1, kept := { lastmark := 1, lastindex := 1, whole := false, marks := #[] }, loop := 0, began := none }, { wait := .maxMore, pc := 23, pos := 0, outermost := true, count := 0, kept := { lastmark := (-1), lastindex := (-1), whole := true, marks := #[] }, loop := 0, began := none }, { wait := .closeLoop, pc := 7, pos := 0, outermost := true, count := 0, kept := { lastmark := (-1), lastindex := (-1), whole := false, marks := #[] }, loop := 0, began := none }, { wait := .nextStart, pc := 5, pos := 0, outermost := true, count := 0, kept := { lastmark := (-1), lastindex := (-1), whole := false, marks := #[] }, loop := 0, began := none }], weight := 6, answer := some true, seen, outcome := none }
def mA25 (text : Array Nat) (seen : Sre.Seen) : M := { code := tzCode, text, lim := 6, start := 0, lastStart := 6, wholeText := false, mustAdvance := false, pc := 42, pos := 4, handed := 6, outermost := true, marks := #[some 0, some 1, some 1, some 3, some 4, some 6], lastmark := 5, lastindex := 3, loops := #[{ pc := 7, count := 0, began := some 0, outer := none }], inner := none, frames := [{ wait := .giveBack, pc := 30, pos := 3, outermost := true, count := 1, kept := { lastmark := 2, lastindex := 1, whole := false, marks := #[] }, loop := 0, began := none }, { wait := .maxTail, pc := 23, pos := 1, outermost := true, count := 1, kept := { lastmark := 1, lastindex := 1, whole := false, marks := #[] }, loop := 0, began := none }, { wait := .maxMore, pc := 23, pos := 0, outermost := true, count := 0, kept := { lastmark := (-1), lastindex := (-1), whole := true, marks := #[] }, loop := 0, began := none }, { wait := .closeLoop, pc := 7, pos := 0, outermost := true, count := 0, kept := { lastmark := (-1), lastindex := (-1), whole := false, marks := #[] }, loop := 0, began := none }, { wait := .nextStart, pc := 5, pos := 0, outermost := true, count := 0, kept := { lastmark := (-1), lastindex := (-1), whole := false, marks := #[] }, loop := 0, began := none }], weight := 5, answer := some true, seen, outcome := none }
def mA26 (text : Array Nat) (seen : Sre.Seen) : M := { code := tzCode, text, lim := 6, start := 0, lastStart := 6, wholeText := false, mustAdvance := false, pc := 30, pos := 3, handed := 6, outermost := true, marks := #[some 0, some 1, some 1, some 3, some 4, some 6], lastmark := 5, lastindex := 3, loops := #[{ pc := 7, count := 0, began := some 0, outer := none }], inner := none, frames := [{ wait := .maxTail, pc := 23, pos := 1, outermost := true, count := 1, kept := { lastmark := 1, lastindex := 1, whole := false, marks := #[] }, loop := 0, began := none }, { wait := .maxMore, pc := 23, pos := 0, outermost := true, count := 0, kept := { lastmark := (-1), lastindex := (-1), whole := true, marks := #[] }, loop := 0, began := none }, { wait := .closeLoop, pc := 7, pos := 0, outermost := true, count := 0, kept := { lastmark := (-1), lastindex := (-1), whole := false, marks := #[] }, loop := 0, began := none }, { wait := .nextStart, pc := 5, pos := 0, outermost := true, count := 0, kept := { lastmark := (-1), lastindex := (-1), whole := false, marks := #[] }, loop := 0, began := none }], weight := 4, answer := some true, seen, outcome := none }
def mA27 (text : Array Nat) (seen : Sre.Seen) : M := { code := tzCode, text, lim := 6, start := 0, lastStart := 6, wholeText := false, mustAdvance := false, pc := 23, pos := 1, handed := 6, outermost := true, marks := #[some 0, some 1, some 1, some 3, some 4, some 6], lastmark := 5, lastindex := 3, loops := #[{ pc := 7, count := 0, began := some 0, outer := none }], inner := some 0, frames := [{ wait := .maxMore, pc := 23, pos := 0, outermost := true, count := 0, kept := { lastmark := (-1), lastindex := (-1), whole := true, marks := #[] }, loop := 0, began := none }, { wait := .closeLoop, pc := 7, pos := 0, outermost := true, count := 0, kept := { lastmark := (-1), lastindex := (-1), whole := false, marks := #[] }, loop := 0, began := none }, { wait := .nextStart, pc := 5, pos := 0, outermost := true, count := 0, kept := { lastmark := (-1), lastindex := (-1), whole := false, marks := #[] }, loop := 0, began := none }], weight := 3, answer := some true, seen, outcome := none }
def mA28 (text : Array Nat) (seen : Sre.Seen) : M := { code := tzCode, text, lim := 6, start := 0, lastStart := 6, wholeText := false, mustAdvance := false, pc := 23, pos := 0, handed := 6, outermost := true, marks := #[some 0, some 1, some 1, some 3, some 4, some 6], lastmark := 5, lastindex := 3, loops := #[{ pc := 7, count := 0, began := none, outer := none }], inner := some 0, frames := [{ wait := .closeLoop, pc := 7, pos := 0, outermost := true, count := 0, kept := { lastmark := (-1), lastindex := (-1), whole := false, marks := #[] }, loop := 0, began := none }, { wait := .nextStart, pc := 5, pos := 0, outermost := true, count := 0, kept := { lastmark := (-1), lastindex := (-1), whole := false, marks := #[] }, loop := 0, began := none }], weight := 2, answer := some true, seen, outcome := none }
def mA29 (text : Array Nat) (seen : Sre.Seen) : M := { code := tzCode, text, lim := 6, start := 0, lastStart := 6, wholeText := false, mustAdvance := false, pc := 7, pos := 0, handed := 6, outermost := true, marks := #[some 0, some 1, some 1, some 3, some 4, some 6], lastmark := 5, lastindex := 3, loops := #[], inner := none, frames := [{ wait := .nextStart, pc := 5, pos := 0, outermost := true, count := 0, kept := { lastmark := (-1), lastindex := (-1), whole := false, marks := #[] }, loop := 0, began := none }], weight := 1, answer := some true, seen, outcome := none }
def mA30 (text : Array Nat) (seen : Sre.Seen) : M := { code := tzCode, text, lim := 6, start := 0, lastStart := 6, wholeText := false, mustAdvance := false, pc := 5, pos := 0, handed := 6, outermost := true, marks := #[some 0, some 1, some 1, some 3, some 4, some 6], lastmark := 5, lastindex := 3, loops := #[], inner := none, frames := [], weight := 0, answer := some true, seen, outcome := none }
def mA31 (text : Array Nat) (seen : Sre.Seen) : M := { code := tzCode, text, lim := 6, start := 0, lastStart := 6, wholeText := false, mustAdvance := false, pc := 5, pos := 0, handed := 6, outermost := true, marks := #[some 0, some 1, some 1, some 3, some 4, some 6], lastmark := 5, lastindex := 3, loops := #[], inner := none, frames := [], weight := 0, answer := some true, seen, outcome := some .matched }
def mB0 (text : Array Nat) (seen : Sre.Seen) : M := { code := tzCode, text, lim := 5, start := 0, lastStart := 5, wholeText := false, mustAdvance := false, pc := 5, pos := 0, handed := 0, outermost := true, marks := #[none, none, none, none, none, none], lastmark := (-1), lastindex := (-1), loops := #[], inner := none, frames := [{ wait := .nextStart, pc := 5, pos := 0, outermost := true, count := 0, kept := { lastmark := (-1), lastindex := (-1), whole := false, marks := #[] }, loop := 0, began := none }], weight := 1, answer := none, seen, outcome := none }
def mB1 (text : Array Nat) (seen : Sre.Seen) : M := { code := tzCode, text, lim := 5, start := 0, lastStart := 5, wholeText := false, mustAdvance := false, pc := 7, pos := 0, handed := 0, outermost := true, marks := #[none, none, none, none, none, none], lastmark := (-1), lastindex := (-1), loops := #[], inner := none, frames := [{ wait := .nextStart, pc := 5, pos := 0, outermost := true, count := 0, kept := { lastmark := (-1), lastindex := (-1), whole := false, marks := #[] }, loop := 0, began := none }], weight := 1, answer := none, seen, outcome := none }
def mB2 (text : Array Nat) (seen : Sre.Seen) : M := { code := tzCode, text, lim := 5, start := 0, lastStart := 5, wholeText := false, mustAdvance := false, pc := 22, pos := 0, handed := 0, outermost := true, marks := #[none, none, none, none, none, none], lastmark := (-1), lastindex := (-1), loops := #[{ pc := 7, count := (-1), began := none, outer := none }], inner := some 0, frames := [{ wait := .closeLoop, pc := 7, pos := 0, outermost := true, count := 0, kept := { lastmark := (-1), lastindex := (-1), whole := false, marks := #[] }, loop := 0, began := none }, { wait := .nextStart, pc := 5, pos := 0, outermost := true, count := 0, kept := { lastmark := (-1), lastindex := (-1), whole := false, marks := #[] }, loop := 0, began := none }], weight := 2, answer := none, seen, outcome := none }
def mB3 (text : Array Nat) (seen : Sre.Seen) : M := { code := tzCode, text, lim := 5, start := 0, lastStart := 5, wholeText := false, mustAdvance := false, pc := 11, pos := 0, handed := 0, outermost := true, marks := #[none, none, none, none, none, none], lastmark := (-1), lastindex := (-1), loops := #[{ pc := 7, count := 0, began := some 0, outer := none }], inner := some 0, frames := [{ wait := .maxMore, pc := 23, pos := 0, outermost := true, count := 0, kept := { lastmark := (-1), lastindex := (-1), whole := true, marks := #[] }, loop := 0, began := none }, { wait := .closeLoop, pc := 7, pos := 0, outermost := true, count := 0, kept := { lastmark := (-1), lastindex := (-1), whole := false, marks := #[] }, loop := 0, began := none }, { wait := .nextStart, pc := 5, pos := 0, outermost := true, count := 0, kept := { lastmark := (-1), lastindex := (-1), whole := false, marks := #[] }, loop := 0, began := none }], weight := 3, answer := none, seen, outcome := none }
def mB4 (text : Array Nat) (seen : Sre.Seen) : M := { code := tzCode, text, lim := 5, start := 0, lastStart := 5, wholeText := false, mustAdvance := false, pc := 13, pos := 0, handed := 0, outermost := true, marks := #[some 0, none, none, none, none, none], lastmark := 0, lastindex := (-1), loops := #[{ pc := 7, count := 0, began := some 0, outer := none }], inner := some 0, frames := [{ wait := .maxMore, pc := 23, pos := 0, outermost := true, count := 0, kept := { lastmark := (-1), lastindex := (-1), whole := true, marks := #[] }, loop := 0, began := none }, { wait := .closeLoop, pc := 7, pos := 0, outermost := true, count := 0, kept := { lastmark := (-1), lastindex := (-1), whole := false, marks := #[] }, loop := 0, began := none }, { wait := .nextStart, pc := 5, pos := 0, outermost := true, count := 0, kept := { lastmark := (-1), lastindex := (-1), whole := false, marks := #[] }, loop := 0, began := none }], weight := 3, answer := none, seen, outcome := none }
def mB5 (text : Array Nat) (seen : Sre.Seen) : M := { code := tzCode, text, lim := 5, start := 0, lastStart := 5, wholeText := false, mustAdvance := false, pc := 20, pos := 1, handed := 0, outermost := true, marks := #[some 0, none, none, none, none, none], lastmark := 0, lastindex := (-1), loops := #[{ pc := 7, count := 0, began := some 0, outer := none }], inner := some 0, frames := [{ wait := .maxMore, pc := 23, pos := 0, outermost := true, count := 0, kept := { lastmark := (-1), lastindex := (-1), whole := true, marks := #[] }, loop := 0, began := none }, { wait := .closeLoop, pc := 7, pos := 0, outermost := true, count := 0, kept := { lastmark := (-1), lastindex := (-1), whole := false, marks := #[] }, loop := 0, began := none }, { wait := .nextStart, pc := 5, pos := 0, outermost := true, count := 0, kept := { lastmark := (-1), lastindex := (-1), whole := false, marks := #[] }, loop := 0, began := none }], weight := 3, answer := none, seen, outcome := none }
def mB6 (text : Array Nat) (seen : Sre.Seen) : M := { code := tzCode, text, lim := 5, start := 0, lastStart := 5, wholeText := false, mustAdvance := false, pc := 22, pos := 1, handed := 0, outermost := true, marks := #[some 0, some 1, none, none, none, none], lastmark := 1, lastindex := 1, loops := #[{ pc := 7, count := 0, began := some 0, outer := none }], inner := some 0, frames := [{ wait := .maxMore, pc := 23, pos := 0, outermost := true, count := 0, kept := { lastmark := (-1), lastindex := (-1), whole := true, marks := #[] }, loop := 0, began := none }, { wait := .closeLoop, pc := 7, pos := 0, outermost := true, count := 0, kept := { lastmark := (-1), lastindex := (-1), whole := false, marks := #[] }, loop := 0, began := none }, { wait := .nextStart, pc := 5, pos := 0, outermost := true, count := 0, kept := { lastmark := (-1), lastindex := (-1), whole := false, marks := #[] }, loop := 0, began := none }], weight := 3, answer := none, seen, outcome := none }
def mB7 (text : Array Nat) (seen : Sre.Seen) : M := { code := tzCode, text, lim := 5, start := 0, lastStart := 5, wholeText := false, mustAdvance := false, pc := 23, pos := 1, handed := 1, outermost := true, marks := #[some 0, some 1, none, none, none, none], lastmark := 1, lastindex := 1, loops := #[{ pc := 7, count := 0, began := some 0, outer := none }], inner := none, frames := [{ wait := .maxTail, pc := 23, pos := 1, outermost := true, count := 1, kept := { lastmark := 1, lastindex := 1, whole := false, marks := #[] }, loop := 0, began := none }, { wait := .maxMore, pc := 23, pos := 0, outermost := true, count := 0, kept := { lastmark := (-1), lastindex := (-1), whole := true, marks := #[] }, loop := 0, began := none }, { wait := .closeLoop, pc := 7, pos := 0, outermost := true, count := 0, kept := { lastmark := (-1), lastindex := (-1), whole := false, marks := #[] }, loop := 0, began := none }, { wait := .nextStart, pc := 5, pos := 0, outermost := true, count := 0, kept := { lastmark := (-1), lastindex := (-1), whole := false, marks := #[] }, loop := 0, began := none }], weight := 4, answer := none, seen, outcome := none }
def mB8 (text : Array Nat) (seen : Sre.Seen) : M := { code := tzCode, text, lim := 5, start := 0, lastStart := 5, wholeText := false, mustAdvance := false, pc := 25, pos := 1, handed := 1, outermost := true, marks := #[some 0, some 1, some 1, none, none, none], lastmark := 2, lastindex := 1, loops := #[{ pc := 7, count := 0, began := some 0, outer := none }], inner := none, frames := [{ wait := .maxTail, pc := 23, pos := 1, outermost := true, count := 1, kept := { lastmark := 1, lastindex := 1, whole := false, marks := #[] }, loop := 0, began := none }, { wait := .maxMore, pc := 23, pos := 0, outermost := true, count := 0, kept := { lastmark := (-1), lastindex := (-1), whole := true, marks := #[] }, loop := 0, began := none }, { wait := .closeLoop, pc := 7, pos := 0, outermost := true, count := 0, kept := { lastmark := (-1), lastindex := (-1), whole := false, marks := #[] }, loop := 0, began := none }, { wait := .nextStart, pc := 5, pos := 0, outermost := true, count := 0, kept := { lastmark := (-1), lastindex := (-1), whole := false, marks := #[] }, loop := 0, began := none }], weight := 4, answer := none, seen, outcome := none }
def mB9 (text : Array Nat) (seen : Sre.Seen) : M := { code := tzCode, text, lim := 5, start := 0, lastStart := 5, wholeText := false, mustAdvance := false, pc := 30, pos := 2, handed := 1, outermost := true, marks := #[some 0, some 1, some 1, none, none, none], lastmark := 2, lastindex := 1, loops := #[{ pc := 7, count := 0, began := some 0, outer := none }], inner := none, frames := [{ wait := .maxTail, pc := 23, pos := 1, outermost := true, count := 1, kept := { lastmark := 1, lastindex := 1, whole := false, marks := #[] }, loop := 0, began := none }, { wait := .maxMore, pc := 23, pos := 0, outermost := true, count := 0, kept := { lastmark := (-1), lastindex := (-1), whole := true, marks := #[] }, loop := 0, began := none }, { wait := .closeLoop, pc := 7, pos := 0, outermost := true, count := 0, kept := { lastmark := (-1), lastindex := (-1), whole := false, marks := #[] }, loop := 0, began := none }, { wait := .nextStart, pc := 5, pos := 0, outermost := true, count := 0, kept := { lastmark := (-1), lastindex := (-1), whole := false, marks := #[] }, loop := 0, began := none }], weight := 4, answer := none, seen, outcome := none }
def mB10 (text : Array Nat) (seen : Sre.Seen) : M := { code := tzCode, text, lim := 5, start := 0, lastStart := 5, wholeText := false, mustAdvance := false, pc := 40, pos := 2, handed := 2, outermost := true, marks := #[some 0, some 1, some 1, none, none, none], lastmark := 2, lastindex := 1, loops := #[{ pc := 7, count := 0, began := some 0, outer := none }], inner := none, frames := [{ wait := .giveBack, pc := 30, pos := 2, outermost := true, count := 0, kept := { lastmark := 2, lastindex := 1, whole := false, marks := #[] }, loop := 0, began := none }, { wait := .maxTail, pc := 23, pos := 1, outermost := true, count := 1, kept := { lastmark := 1, lastindex := 1, whole := false, marks := #[] }, loop := 0, began := none }, { wait := .maxMore, pc := 23, pos := 0, outermost := true, count := 0, kept := { lastmark := (-1), lastindex := (-1), whole := true, marks := #[] }, loop := 0, began := none }, { wait := .closeLoop, pc := 7, pos := 0, outermost := true, count := 0, kept := { lastmark := (-1), lastindex := (-1), whole := false, marks := #[] }, loop := 0, began := none }, { wait := .nextStart, pc := 5, pos := 0, outermost := true, count := 0, kept := { lastmark := (-1), lastindex := (-1), whole := false, marks := #[] }, loop := 0, began := none }], weight := 5, answer := none, seen, outcome := none }
def mB11 (text : Array Nat) (seen : Sre.Seen) : M := { code := tzCode, text, lim := 5, start := 0, lastStart := 5, wholeText := false, mustAdvance := false, pc := 42, pos := 2, handed := 2, outermost := true, marks := #[some 0, some 1, some 1, some 2, none, none], lastmark := 3, lastindex := 2, loops := #[{ pc := 7, count := 0, began := some 0, outer := none }], inner := none, frames := [{ wait := .giveBack, pc := 30, pos := 2, outermost := true, count := 0, kept := { lastmark := 2, lastindex := 1, whole := false, marks := #[] }, loop := 0, began := none }, { wait := .maxTail, pc := 23, pos := 1, outermost := true, count := 1, kept := { lastmark := 1, lastindex := 1, whole := false, marks := #[] }, loop := 0, began := none }, { wait := .maxMore, pc := 23, pos := 0, outermost := true, count := 0, kept := { lastmark := (-1), lastindex := (-1), whole := true, marks := #[] }, loop := 0, began := none }, { wait := .closeLoop, pc := 7, pos := 0, outermost := true, count := 0, kept := { lastmark := (-1), lastindex := (-1), whole := false, marks := #[] }, loop := 0, began := none }, { wait := .nextStart, pc := 5, pos := 0, outermost := true, count := 0, kept := { lastmark := (-1), lastindex := (-1), whole := false, marks := #[] }, loop := 0, began := none }], weight := 5, answer := none, seen, outcome := none }
def mB12 (text : Array Nat) (seen : Sre.Seen) : M := { code := tzCode, text, lim := 5, start := 0, lastStart := 5, wholeText := false, mustAdvance := false, pc := 49, pos := 3, handed := 3, outermost := true, marks := #[some 0, some 1, some 1, some 2, none, none], lastmark := 3, lastindex := 2, loops := #[{ pc := 7, count := 0, began := some 0, outer := none }], inner := none, frames := [{ wait := .giveBack, pc := 42, pos := 3, outermost := true, count := 1, kept := { lastmark := 3, lastindex := 2, whole := false, marks := #[] }, loop := 0, began := none }, { wait := .giveBack, pc := 30, pos := 2, outermost := true, count := 0, kept := { lastmark := 2, lastindex := 1, whole := false, marks := #[] }, loop := 0, began := none }, { wait := .maxTail, pc := 23, pos := 1, outermost := true, count := 1, kept := { lastmark := 1, lastindex := 1, whole := false, marks := #[] }, loop := 0, began := none }, { wait := .maxMore, pc := 23, pos := 0, outermost := true, count := 0, kept := { lastmark := (-1), lastindex := (-1), whole := true, marks := #[] }, loop := 0, began := none }, { wait := .closeLoop, pc := 7, pos := 0, outermost := true, count := 0, kept := { lastmark := (-1), lastindex := (-1), whole := false, marks := #[] }, loop := 0, began := none }, { wait := .nextStart, pc := 5, pos := 0, outermost := true, count := 0, kept := { lastmark := (-1), lastindex := (-1), whole := false, marks := #[] }, loop := 0, began := none }], weight := 6, answer := none, seen, outcome := none }
def mB13 (text : Array Nat) (seen : Sre.Seen) : M := { code := tzCode, text, lim := 5, start := 0, lastStart := 5, wholeText := false, mustAdvance := false, pc := 67, pos := 3, handed := 3, outermost := true, marks := #[some 0, some 1, some 1, some 2, none, none], lastmark := 3, lastindex := 2, loops := #[{ pc := 7, count := 0, began := some 0, outer := none }, { pc := 49, count := (-1), began := none, outer := none }], inner := some 1, frames := [{ wait := .closeLoop, pc := 49, pos := 3, outermost := true, count := 0, kept := { lastmark := (-1), lastindex := (-1), whole := false, marks := #[] }, loop := 1, began := none }, { wait := .giveBack, pc := 42, pos := 3, outermost := true, count := 1, kept := { lastmark := 3, lastindex := 2, whole := false, marks := #[] }, loop := 0, began := none }, { wait := .giveBack, pc := 30, pos := 2, outermost := true, count := 0, kept := { lastmark := 2, lastindex := 1, whole := false, marks := #[] }, loop := 0, began := none }, { wait := .maxTail, pc := 23, pos := 1, outermost := true, count := 1, kept := { lastmark := 1, lastindex := 1, whole := false, marks := #[] }, loop := 0, began := none }, { wait := .maxMore, pc := 23, pos := 0, outermost := true, count := 0, kept := { lastmark := (-1), lastindex := (-1), whole := true, marks := #[] }, loop := 0, began := none }, { wait := .closeLoop, pc := 7, pos := 0, outermost := true, count := 0, kept := { lastmark := (-1), lastindex := (-1), whole := false, marks := #[] }, loop := 0, began := none }, { wait := .nextStart, pc := 5, pos := 0, outermost := true, count := 0, kept := { lastmark := (-1), lastindex := (-1), whole := false, marks := #[] }, loop := 0, began := none }], weight := 7, answer := none, seen, outcome := none }
def mB14 (text : Array Nat) (seen : Sre.Seen) : M := { code := tzCode, text, lim := 5, start := 0, lastStart := 5, wholeText := false, mustAdvance := false, pc := 53, pos := 3, handed := 3, outermost := true, marks := #[some 0, some 1, some 1, some 2, none, none], lastmark := 3, lastindex := 2, loops := #[{ pc := 7, count := 0, began := some 0, outer := none }, { pc := 49, count := 0, began := some 3, outer := none }], inner := some 1, frames := [{ wait := .maxMore, pc := 68, pos := 3, outermost := true, count := 0, kept := { lastmark := 3, lastindex := 2, whole := true, marks := #[some 0, some 1, some 1, some 2] }, loop := 1, began := none }, { wait := .closeLoop, pc := 49, pos := 3, outermost := true, count := 0, kept := { lastmark := (-1), lastindex := (-1), whole := false, marks := #[] }, loop := 1, began := none }, { wait := .giveBack, pc := 42, pos := 3, outermost := true, count := 1, kept := { lastmark := 3, lastindex := 2, whole := false, marks := #[] }, loop := 0, began := none }, { wait := .giveBack, pc := 30, pos := 2, outermost := true, count := 0, kept := { lastmark := 2, lastindex := 1, whole := false, marks := #[] }, loop := 0, began := none }, { wait := .maxTail, pc := 23, pos := 1, outermost := true, count := 1, kept := { lastmark := 1, lastindex := 1, whole := false, marks := #[] }, loop := 0, began := none }, { wait := .maxMore, pc := 23, pos := 0, outermost := true, count := 0, kept := { lastmark := (-1), lastindex := (-1), whole := true, marks := #[] }, loop := 0, began := none }, { wait := .closeLoop, pc := 7, pos := 0, outermost := true, count := 0, kept := { lastmark := (-1), lastindex := (-1), whole := false, marks := #[] }, loop := 0, began := none }, { wait := .nextStart, pc := 5, pos := 0, outermost := true, count := 0, kept := { lastmark := (-1), lastindex := (-1), whole := false, marks := #[] }, loop := 0, began := none }], weight := 12, answer := none, seen, outcome := none }
def mB15 (text : Array Nat) (seen : Sre.Seen) : M := { code := tzCode, text, lim := 5, start := 0, lastStart := 5, wholeText := false, mustAdvance := false, pc := 55, pos := 3, handed := 3, outermost := true, marks := #[some 0, some 1, some 1, some 2, some 3, none], lastmark := 4, lastindex := 2, loops := #[{ pc := 7, count := 0, began := some 0, outer := none }, { pc := 49, count := 0, began := some 3, outer := none }], inner := some 1, frames := [{ wait := .maxMore, pc := 68, pos := 3, outermost := true, count := 0, kept := { lastmark := 3, lastindex := 2, whole := true, marks := #[some 0, some 1, some 1, some 2] }, loop := 1, began := none }, { wait := .closeLoop, pc := 49, pos := 3, outermost := true, count := 0, kept := { lastmark := (-1), lastindex := (-1), whole := false, marks := #[] }, loop := 1, began := none }, { wait := .giveBack, pc := 42, pos := 3, outermost := true, count := 1, kept := { lastmark := 3, lastindex := 2, whole := false, marks := #[] }, loop := 0, began := none }, { wait := .giveBack, pc := 30, pos := 2, outermost := true, count := 0, kept := { lastmark := 2, lastindex := 1, whole := false, marks := #[] }, loop := 0, began := none }, { wait := .maxTail, pc := 23, pos := 1, outermost := true, count := 1, kept := { lastmark := 1, lastindex := 1, whole := false, marks := #[] }, loop := 0, began := none }, { wait := .maxMore, pc := 23, pos := 0, outermost := true, count := 0, kept := { lastmark := (-1), lastindex := (-1), whole := true, marks := #[] }, loop := 0, began := none }, { wait := .closeLoop, pc := 7, pos := 0, outermost := true, count := 0, kept := { lastmark := (-1), lastindex := (-1), whole := false, marks := #[] }, loop := 0, began := none }, { wait := .nextStart, pc := 5, pos := 0, outermost := true, count := 0, kept := { lastmark := (-1), lastindex := (-1), whole := false, marks := #[] }, loop := 0, began := none }], weight := 12, answer := none, seen, outcome := none }
def mB16 (text : Array Nat) (seen : Sre.Seen) : M := { code := tzCode, text, lim := 5, start := 0, lastStart := 5, wholeText := false, mustAdvance := false, pc := 60, pos := 4, handed := 3, outermost := true, marks := #[some 0, some 1, some 1, some 2, some 3, none], lastmark := 4, lastindex := 2, loops := #[{ pc := 7, count := 0, began := some 0, outer := none }, { pc := 49, count := 0, began := some 3, outer := none }], inner := some 1, frames := [{ wait := .maxMore, pc := 68, pos := 3, outermost := true, count := 0, kept := { lastmark := 3, lastindex := 2, whole := true, marks := #[some 0, some 1, some 1, some 2] }, loop := 1, began := none }, { wait := .closeLoop, pc := 49, pos := 3, outermost := true, count := 0, kept := { lastmark := (-1), lastindex := (-1), whole := false, marks := #[] }, loop := 1, began := none }, { wait := .giveBack, pc := 42, pos := 3, outermost := true, count := 1, kept := { lastmark := 3, lastindex := 2, whole := false, marks := #[] }, loop := 0, began := none }, { wait := .giveBack, pc := 30, pos := 2, outermost := true, count := 0, kept := { lastmark := 2, lastindex := 1, whole := false, marks := #[] }, loop := 0, began := none }, { wait := .maxTail, pc := 23, pos := 1, outermost := true, count := 1, kept := { lastmark := 1, lastindex := 1, whole := false, marks := #[] }, loop := 0, began := none }, { wait := .maxMore, pc := 23, pos := 0, outermost := true, count := 0, kept := { lastmark := (-1), lastindex := (-1), whole := true, marks := #[] }, loop := 0, began := none }, { wait := .closeLoop, pc := 7, pos := 0, outermost := true, count := 0, kept := { lastmark := (-1), lastindex := (-1), whole := false, marks := #[] }, loop := 0, began := none }, { wait := .nextStart, pc := 5, pos := 0, outermost := true, count := 0, kept := { lastmark := (-1), lastindex := (-1), whole := false, marks := #[] }, loop := 0, began := none }], weight := 12, answer := none, seen, outcome := none }
def mB17 (text : Array Nat) (seen : Sre.Seen) : M := { code := tzCode, text, lim := 5, start := 0, lastStart := 5, wholeText := false, mustAdvance := false, pc := 65, pos := 5, handed := 3, outermost := true, marks := #[some 0, some 1, some 1, some 2, some 3, none], lastmark := 4, lastindex := 2, loops := #[{ pc := 7, count := 0, began := some 0, outer := none }, { pc := 49, count := 0, began := some 3, outer := none }], inner := some 1, frames := [{ wait := .maxMore, pc := 68, pos := 3, outermost := true, count := 0, kept := { lastmark := 3, lastindex := 2, whole := true, marks := #[some 0, some 1, some 1, some 2] }, loop := 1, began := none }, { wait := .closeLoop, pc := 49, pos := 3, outermost := true, count := 0, kept := { lastmark := (-1), lastindex := (-1), whole := false, marks := #[] }, loop := 1, began := none }, { wait := .giveBack, pc := 42, pos := 3, outermost := true, count := 1, kept := { lastmark := 3, lastindex := 2, whole := false, marks := #[] }, loop := 0, began := none }, { wait := .giveBack, pc := 30, pos := 2, outermost := true, count := 0, kept := { lastmark := 2, lastindex := 1, whole := false, marks := #[] }, loop := 0, began := none }, { wait := .maxTail, pc := 23, pos := 1, outermost := true, count := 1, kept := { lastmark := 1, lastindex := 1, whole := false, marks := #[] }, loop := 0, began := none }, { wait := .maxMore, pc := 23, pos := 0, outermost := true, count := 0, kept := { lastmark := (-1), lastindex := (-1), whole := true, marks := #[] }, loop := 0, began := none }, { wait := .closeLoop, pc := 7, pos := 0, outermost := true, count := 0, kept := { lastmark := (-1), lastindex := (-1), whole := false, marks := #[] }, loop := 0, began := none }, { wait := .nextStart, pc := 5, pos := 0, outermost := true, count := 0, kept := { lastmark := (-1), lastindex := (-1), whole := false, marks := #[] }, loop := 0, began := none }], weight := 12, answer := none, seen, outcome := none }
def mB18 (text : Array Nat) (seen : Sre.Seen) : M := { code := tzCode, text, lim := 5, start := 0, lastStart := 5, wholeText := false, mustAdvance := false, pc := 67, pos := 5, handed := 3, outermost := true, marks := #[some 0, some 1, some 1, some 2, some 3, some 5], lastmark := 5, lastindex := 3, loops := #[{ pc := 7, count := 0, began := some 0, outer := none }, { pc := 49, count := 0, began := some 3, outer := none }], inner := some 1, frames := [{ wait := .maxMore, pc := 68, pos := 3, outermost := true, count := 0, kept := { lastmark := 3, lastindex := 2, whole := true, marks := #[some 0, some 1, some 1, some 2] }, loop := 1, began := none }, { wait := .closeLoop, pc := 49, pos := 3, outermost := true, count := 0, kept := { lastmark := (-1), lastindex := (-1), whole := false, marks := #[] }, loop := 1, began := none }, { wait := .giveBack, pc := 42, pos := 3, outermost := true, count := 1, kept := { lastmark := 3, lastindex := 2, whole := false, marks := #[] }, loop := 0, began := none }, { wait := .giveBack, pc := 30, pos := 2, outermost := true, count := 0, kept := { lastmark := 2, lastindex := 1, whole := false, marks := #[] }, loop := 0, began := none }, { wait := .maxTail, pc := 23, pos := 1, outermost := true, count := 1, kept := { lastmark := 1, lastindex := 1, whole := false, marks := #[] }, loop := 0, began := none }, { wait := .maxMore, pc := 23, pos := 0, outermost := true, count := 0, kept := { lastmark := (-1), lastindex := (-1), whole := true, marks := #[] }, loop := 0, began := none }, { wait := .closeLoop, pc := 7, pos := 0, outermost := true, count := 0, kept := { lastmark := (-1), lastindex := (-1), whole := false, marks := #[] }, loop := 0, began := none }, { wait := .nextStart, pc := 5, pos := 0, outermost := true, count := 0, kept := { lastmark := (-1), lastindex := (-1), whole := false, marks := #[] }, loop := 0, began := none }], weight := 12, answer := none, seen, outcome := none }
def mB19 (text : Array Nat) (seen : Sre.Seen) : M := { code := tzCode, text, lim := 5, start := 0, lastStart := 5, wholeText := false, mustAdvance := false, pc := 68, pos := 5, handed := 5, outermost := true, marks := #[some 0, some 1, some 1, some 2, some 3, some 5], lastmark := 5, lastindex := 3, loops := #[{ pc := 7, count := 0, began := some 0, outer := none }, { pc := 49, count := 0, began := some 3, outer := none }], inner := none, frames := [{ wait := .maxTail, pc := 68, pos := 5, outermost := true, count := 1, kept := { lastmark := 5, lastindex := 3, whole := false, marks := #[] }, loop := 1, began := none }, { wait := .maxMore, pc := 68, pos := 3, outermost := true, count := 0, kept := { lastmark := 3, lastindex := 2, whole := true, marks := #[some 0, some 1, some 1, some 2] }, loop := 1, began := none }, { wait := .closeLoop, pc := 49, pos := 3, outermost := true, count := 0, kept := { lastmark := (-1), lastindex := (-1), whole := false, marks := #[] }, loop := 1, began := none }, { wait := .giveBack, pc := 42, pos := 3, outermost := true, count := 1, kept := { lastmark := 3, lastindex := 2, whole := false, marks := #[] }, loop := 0, began := none }, { wait := .giveBack, pc := 30, pos := 2, outermost := true, count := 0, kept := { lastmark := 2, lastindex := 1, whole := false, marks := #[] }, loop := 0, began := none }, { wait := .maxTail, pc := 23, pos := 1, outermost := true, count := 1, kept := { lastmark := 1, lastindex := 1, whole := false, marks := #[] }, loop := 0, began := none }, { wait := .maxMore, pc := 23, pos := 0, outermost := true, count := 0, kept := { lastmark := (-1), lastindex := (-1), whole := true, marks := #[] }, loop := 0, began := none }, { wait := .closeLoop, pc := 7, pos := 0, outermost := true, count := 0, kept := { lastmark := (-1), lastindex := (-1), whole := false, marks := #[] }, loop := 0, began := none }, { wait := .nextStart, pc := 5, pos := 0, outermost := true, count := 0, kept := { lastmark := (-1), lastindex := (-1), whole := false, marks := #[] }, loop := 0, began := none }], weight := 13, answer := none, seen, outcome := none }
def mB20 (text : Array Nat) (seen : Sre.Seen) : M := { code := tzCode, text, lim := 5, start := 0, lastStart := 5, wholeText := false, mustAdvance := false, pc := 70, pos := 5, handed := 5, outermost := true, marks := #[some 0, some 1, some 1, some 2, some 3, some 5], lastmark := 5, lastindex := 3, loops := #[{ pc := 7, count := 0, began := some 0, outer := none }, { pc := 49, count := 0, began := some 3, outer := none }], inner := none, frames := [{ wait := .maxTail, pc := 68, pos := 5, outermost := true, count := 1, kept := { lastmark := 5, lastindex := 3, whole := false, marks := #[] }, loop := 1, began := none }, { wait := .maxMore, pc := 68, pos := 3, outermost := true, count := 0, kept := { lastmark := 3, lastindex := 2, whole := true, marks := #[some 0, some 1, some 1, some 2] }, loop := 1, began := none }, { wait := .closeLoop, pc := 49, pos := 3, outermost := true, count := 0, kept := { lastmark := (-1), lastindex := (-1), whole := false, marks := #[] }, loop := 1, began := none }, { wait := .giveBack, pc := 42, pos := 3, outermost := true, count := 1, kept := { lastmark := 3, lastindex := 2, whole := false, marks := #[] }, loop := 0, began := none }, { wait := .giveBack, pc := 30, pos := 2, outermost := true, count := 0, kept := { lastmark := 2, lastindex := 1, whole := false, marks := #[] }, loop := 0, began := none }, { wait := .maxTail, pc := 23, pos := 1, outermost := true, count := 1, kept := { lastmark := 1, lastindex := 1, whole := false, marks := #[] }, loop := 0, began := none }, { wait := .maxMore, pc := 23, pos := 0, outermost := true, count := 0, kept := { lastmark := (-1), lastindex := (-1), whole := true, marks := #[] }, loop := 0, began := none }, { wait := .closeLoop, pc := 7, pos := 0, outermost := true, count := 0, kept := { lastmark := (-1), lastindex := (-1), whole := false, marks := #[] }, loop := 0, began := none }, { wait := .nextStart, pc := 5, pos := 0, outermost := true, count := 0, kept := { lastmark := (-1), lastindex := (-1), whole := false, marks := #[] }, loop := 0, began := none }], weight := 13, answer := none, seen, outcome := none }
def mB21 (text : Array Nat) (seen : Sre.Seen) : M := { code := tzCode, text, lim := 5, start := 0, lastStart := 5, wholeText := false, mustAdvance := false, pc := 70, pos := 5, handed := 5, outermost := true, marks := #[some 0, some 1, some 1, some 2, some 3, some 5], lastmark := 5, lastindex := 3, loops := #[{ pc := 7, count := 0, began := some 0, outer := none }, { pc := 49, count := 0, began := some 3, outer := none }], inner := none, frames := [{ wait := .maxTail, pc := 68, pos := 5, outermost := true, count := 1, kept := { lastmark := 5, lastindex := 3, whole := false, marks := #[] }, loop := 1, began := none }, { wait := .maxMore, pc := 68, pos := 3, outermost := true, count := 0, kept := { lastmark := 3, lastindex := 2, whole := true, marks := #[some 0, some 1, some 1, some 2] }, loop := 1, began := none }, { wait := .closeLoop, pc := 49, pos := 3, outermost := true, count := 0, kept := { lastmark := (-1), lastindex := (-1), whole := false, marks := #[] }, loop := 1, began := none }, { wait := .giveBack, pc := 42, pos := 3, outermost := true, count := 1, kept := { lastmark := 3, lastindex := 2, whole := false, marks := #[] }, loop := 0, began := none }, { wait := .giveBack, pc := 30, pos := 2, outermost := true, count := 0, kept := { lastmark := 2, lastindex := 1, whole := false, marks := #[] }, loop := 0, began := none }, { wait := .maxTail, pc := 23, pos := 1, outermost := true, count := 1, kept := { lastmark := 1, lastindex := 1, whole := false, marks := #[] }, loop := 0, began := none }, { wait := .maxMore, pc := 23, pos := 0, outermost := true, count := 0, kept := { lastmark := (-1), lastindex := (-1), whole := true, marks := #[] }, loop := 0, began := none }, { wait := .closeLoop, pc := 7, pos := 0, outermost := true, count := 0, kept := { lastmark := (-1), lastindex := (-1), whole := false, marks := #[] }, loop := 0, began := none }, { wait := .nextStart, pc := 5, pos := 0, outermost := true, count := 0, kept := { lastmark := (-1), lastindex := (-1), whole := false, marks := #[] }, loop := 0, began := none }], weight := 13, answer := some true, seen, outcome := none }
def mB22 (text : Array Nat) (seen : Sre.Seen) : M := { code := tzCode, text, lim := 5, start := 0, lastStart := 5, wholeText := false, mustAdvance := false, pc := 68, pos := 5, handed := 5, outermost := true, marks := #[some 0, some 1, some 1, some 2, some 3, some 5], lastmark := 5, lastindex := 3, loops := #[{ pc := 7, count := 0, began := some 0, outer := none }, { pc := 49, count := 0, began := some 3, outer := none }], inner := some 1, frames := [{ wait := .maxMore, pc := 68, pos := 3, outermost := true, count := 0, kept := { lastmark := 3, lastindex := 2, whole := true, marks := #[some 0, some 1, some 1, some 2] }, loop := 1, began := none }, { wait := .closeLoop, pc := 49, pos := 3, outermost := true, count := 0, kept := { lastmark := (-1), lastindex := (-1), whole := false, marks := #[] }, loop := 1, began := none }, { wait := .giveBack, pc := 42, pos := 3, outermost := true, count := 1, kept := { lastmark := 3, lastindex := 2, whole := false, marks := #[] }, loop := 0, began := none }, { wait := .giveBack, pc := 30, pos := 2, outermost := true, count := 0, kept := { lastmark := 2, lastindex := 1, whole := false, marks := #[] }, loop := 0, began := none }, { wait := .maxTail, pc := 23, pos := 1, outermost := true, count := 1, kept := { lastmark := 1, lastindex := 1, whole := false, marks := #[] }, loop := 0, began := none }, { wait := .maxMore, pc := 23, pos := 0, outermost := true, count := 0, kept := { lastmark := (-1), lastindex := (-1), whole := true, marks := #[] }, loop := 0, began := none }, { wait := .closeLoop, pc := 7, pos := 0, outermost := true, count := 0, kept := { lastmark := (-1), lastindex := (-1), whole := false, marks := #[] }, loop := 0, began := none }, { wait := .nextStart, pc := 5, pos := 0, outermost := true, count := 0, kept := { lastmark := (-1), lastindex := (-1), whole := false, marks := #[] }, loop := 0, began := none }], weight := 12, answer := some true, seen, outcome := none }
def mB23 (text : Array Nat) (seen : Sre.Seen) : M := { code := tzCode, text, lim := 5, start := 0, lastStart := 5, wholeText := false, mustAdvance := false, pc := 68, pos := 3, handed := 5, outermost := true, marks := #[some 0, some 1, some 1, some 2, some 3, some 5], lastmark := 5, lastindex := 3, loops := #[{ pc := 7, count := 0, began := some 0, outer := none }, { pc := 49, count := 0, began := none, outer := none }], inner := some 1, frames := [{ wait := .closeLoop, pc := 49, pos := 3, outermost := true, count := 0, kept := { lastmark := (-1), lastindex := (-1), whole := false, marks := #[] }, loop := 1, began := none }, { wait := .giveBack, pc := 42, pos := 3, outermost := true, count := 1, kept := { lastmark := 3, lastindex := 2, whole := false, marks := #[] }, loop := 0, began := none }, { wait := .giveBack, pc := 30, pos := 2, outermost := true, count := 0, kept := { lastmark := 2, lastindex := 1, whole := false, marks := #[] }, loop := 0, began := none }, { wait := .maxTail, pc := 23, pos := 1, outermost := true, count := 1, kept := { lastmark := 1, lastindex := 1, whole := false, marks := #[] }, loop := 0, began := none }, { wait := .maxMore, pc := 23, pos := 0, outermost := true, count := 0, kept := { lastmark := (-1), lastindex := (-1), whole := true, marks := #[] }, loop := 0, began := none }, { wait := .closeLoop, pc := 7, pos := 0, outermost := true, count := 0, kept := { lastmark := (-1), lastindex := (-1), whole := false, marks := #[] }, loop := 0, began := none }, { wait := .nextStart, pc := 5, pos := 0, outermost := true, count := 0, kept := { lastmark := (-1), lastindex := (-1), whole := false, marks := #[] }, loop := 0, began := none }], weight := 7, answer := some true, seen, outcome := none }
def mB24 (text : Array Nat) (seen : Sre.Seen) : M := { code := tzCode, text, lim := 5, start := 0, lastStart := 5, wholeText := false, mustAdvance := false, pc := 49, pos := 3, handed := 5, outermost := true, marks := #[some 0, some 1, some 1, some 2, some 3, some 5], lastmark := 5, lastindex := 3, loops := #[{ pc := 7, count := 0, began := some 0, outer := none }], inner := none, frames := [{ wait := .giveBack, pc := 42, pos := 3, outermost := true, count := 1, kept := { lastmark := 3, lastindex := 2, whole := false, marks := #[] }, loop := 0, began := none }, { wait := .giveBack, pc := 30, pos := 2, outermost := true, count := 0, kept := { lastmark := 2, lastindex := 1, whole := false, marks := #[] }, loop := 0, began := none }, { wait := .maxTail, pc := 23, pos := 1, outermost := true, count := 1, kept := { lastmark := 1, lastindex := 1, whole := false, marks := #[] }, loop := 0, began := none }, { wait := .maxMore, pc := 23, pos := 0, outermost := true, count := 0, kept := { lastmark := (-1), lastindex := (-1), whole := true, marks := #[] }, loop := 0, began := none }, { wait := .closeLoop, pc := 7, pos := 0, outermost := true, count := 0, kept := { lastmark := (-1), lastindex := (-1), whole := false, marks := #[] }, loop := 0, began := none }, { wait := .nextStart, pc := 5, pos := 0, outermost := true, count := 0, kept := { lastmark := (-1), lastindex := (-1), whole := false, marks := #[] }, loop := 0, began := none }], weight := 6, answer := some true, seen, outcome := none }
def mB25 (text : Array Nat) (seen : Sre.Seen) : M := { code := tzCode, text, lim := 5, start := 0, lastStart := 5, wholeText := false, mustAdvance := false, pc := 42, pos := 3, handed := 5, outermost := true, marks := #[some 0, some 1, some 1, some 2, some 3, some 5], lastmark := 5, lastindex := 3, loops := #[{ pc := 7, count := 0, began := some 0, outer := none }], inner := none, frames := [{ wait := .giveBack, pc := 30, pos := 2, outermost := true, count := 0, kept := { lastmark := 2, lastindex := 1, whole := false, marks := #[] }, loop := 0, began := none }, { wait := .maxTail, pc := 23, pos := 1, outermost := true, count := 1, kept := { lastmark := 1, lastindex := 1, whole := false, marks := #[] }, loop := 0, began := none }, { wait := .maxMore, pc := 23, pos := 0, outermost := true, count := 0, kept := { lastmark := (-1), lastindex := (-1), whole := true, marks := #[] }, loop := 0, began := none }, { wait := .closeLoop, pc := 7, pos := 0, outermost := true, count := 0, kept := { lastmark := (-1), lastindex := (-1), whole := false, marks := #[] }, loop := 0, began := none }, { wait := .nextStart, pc := 5, pos := 0, outermost := true, count := 0, kept := { lastmark := (-1), lastindex := (-1), whole := false, marks := #[] }, loop := 0, began := none }], weight := 5, answer := some true, seen, outcome := none }
def mB26 (text : Array Nat) (seen : Sre.Seen) : M := { code := tzCode, text, lim := 5, start := 0, lastStart := 5, wholeText := false, mustAdvance := false, pc := 30, pos := 2, handed := 5, outermost := true, marks := #[some 0, some 1, some 1, some 2, some 3, some 5], lastmark := 5, lastindex := 3, loops := #[{ pc := 7, count := 0, began := some 0, outer := none }], inner := none, frames := [{ wait := .maxTail, pc := 23, pos := 1, outermost := true, count := 1, kept := { lastmark := 1, lastindex := 1, whole := false, marks := #[] }, loop := 0, began := none }, { wait := .maxMore, pc := 23, pos := 0, outermost := true, count := 0, kept := { lastmark := (-1), lastindex := (-1), whole := true, marks := #[] }, loop := 0, began := none }, { wait := .closeLoop, pc := 7, pos := 0, outermost := true, count := 0, kept := { lastmark := (-1), lastindex := (-1), whole := false, marks := #[] }, loop := 0, began := none }, { wait := .nextStart, pc := 5, pos := 0, outermost := true, count := 0, kept := { lastmark := (-1), lastindex := (-1), whole := false, marks := #[] }, loop := 0, began := none }], weight := 4, answer := some true, seen, outcome := none }
def mB27 (text : Array Nat) (seen : Sre.Seen) : M := { code := tzCode, text, lim := 5, start := 0, lastStart := 5, wholeText := false, mustAdvance := false, pc := 23, pos := 1, handed := 5, outermost := true, marks := #[some 0, some 1, some 1, some 2, some 3, some 5], lastmark := 5, lastindex := 3, loops := #[{ pc := 7, count := 0, began := some 0, outer := none }], inner := some 0, frames := [{ wait := .maxMore, pc := 23, pos := 0, outermost := true, count := 0, kept := { lastmark := (-1), lastindex := (-1), whole := true, marks := #[] }, loop := 0, began := none }, { wait := .closeLoop, pc := 7, pos := 0, outermost := true, count := 0, kept := { lastmark := (-1), lastindex := (-1), whole := false, marks := #[] }, loop := 0, began := none }, { wait := .nextStart, pc := 5, pos := 0, outermost := true, count := 0, kept := { lastmark := (-1), lastindex := (-1), whole := false, marks := #[] }, loop := 0, began := none }], weight := 3, answer := some true, seen, outcome := none }
def mB28 (text : Array Nat) (seen : Sre.Seen) : M := { code := tzCode, text, lim := 5, start := 0, lastStart := 5, wholeText := false, mustAdvance := false, pc := 23, pos := 0, handed := 5, outermost := true, marks := #[some 0, some 1, some 1, some 2, some 3, some 5], lastmark := 5, lastindex := 3, loops := #[{ pc := 7, count := 0, began := none, outer := none }], inner := some 0, frames := [{ wait := .closeLoop, pc := 7, pos := 0, outermost := true, count := 0, kept := { lastmark := (-1), lastindex := (-1), whole := false, marks := #[] }, loop := 0, began := none }, { wait := .nextStart, pc := 5, pos := 0, outermost := true, count := 0, kept := { lastmark := (-1), lastindex := (-1), whole := false, marks := #[] }, loop := 0, began := none }], weight := 2, answer := some true, seen, outcome := none }
def mB29 (text : Array Nat) (seen : Sre.Seen) : M := { code := tzCode, text, lim := 5, start := 0, lastStart := 5, wholeText := false, mustAdvance := false, pc := 7, pos := 0, handed := 5, outermost := true, marks := #[some 0, some 1, some 1, some 2, some 3, some 5], lastmark := 5, lastindex := 3, loops := #[], inner := none, frames := [{ wait := .nextStart, pc := 5, pos := 0, outermost := true, count := 0, kept := { lastmark := (-1), lastindex := (-1), whole := false, marks := #[] }, loop := 0, began := none }], weight := 1, answer := some true, seen, outcome := none }
def mB30 (text : Array Nat) (seen : Sre.Seen) : M := { code := tzCode, text, lim := 5, start := 0, lastStart := 5, wholeText := false, mustAdvance := false, pc := 5, pos := 0, handed := 5, outermost := true, marks := #[some 0, some 1, some 1, some 2, some 3, some 5], lastmark := 5, lastindex := 3, loops := #[], inner := none, frames := [], weight := 0, answer := some true, seen, outcome := none }
def mB31 (text : Array Nat) (seen : Sre.Seen) : M := { code := tzCode, text, lim := 5, start := 0, lastStart := 5, wholeText := false, mustAdvance := false, pc := 5, pos := 0, handed := 5, outermost := true, marks := #[some 0, some 1, some 1, some 2, some 3, some 5], lastmark := 5, lastindex := 3, loops := #[], inner := none, frames := [], weight := 0, answer := some true, seen, outcome := some .matched }
def mC0 (text : Array Nat) (seen : Sre.Seen) : M := { code := tzCode, text, lim := 5, start := 0, lastStart := 5, wholeText := false, mustAdvance := false, pc := 5, pos := 0, handed := 0, outermost := true, marks := #[none, none, none, none, none, none], lastmark := (-1), lastindex := (-1), loops := #[], inner := none, frames := [{ wait := .nextStart, pc := 5, pos := 0, outermost := true, count := 0, kept := { lastmark := (-1), lastindex := (-1), whole := false, marks := #[] }, loop := 0, began := none }], weight := 1, answer := none, seen, outcome := none }
def mC1 (text : Array Nat) (seen : Sre.Seen) : M := { code := tzCode, text, lim := 5, start := 0, lastStart := 5, wholeText := false, mustAdvance := false, pc := 7, pos := 0, handed := 0, outermost := true, marks := #[none, none, none, none, none, none], lastmark := (-1), lastindex := (-1), loops := #[], inner := none, frames := [{ wait := .nextStart, pc := 5, pos := 0, outermost := true, count := 0, kept := { lastmark := (-1), lastindex := (-1), whole := false, marks := #[] }, loop := 0, began := none }], weight := 1, answer := none, seen, outcome := none }
def mC2 (text : Array Nat) (seen : Sre.Seen) : M := { code := tzCode, text, lim := 5, start := 0, lastStart := 5, wholeText := false, mustAdvance := false, pc := 22, pos := 0, handed := 0, outermost := true, marks := #[none, none, none, none, none, none], lastmark := (-1), lastindex := (-1), loops := #[{ pc := 7, count := (-1), began := none, outer := none }], inner := some 0, frames := [{ wait := .closeLoop, pc := 7, pos := 0, outermost := true, count := 0, kept := { lastmark := (-1), lastindex := (-1), whole := false, marks := #[] }, loop := 0, began := none }, { wait := .nextStart, pc := 5, pos := 0, outermost := true, count := 0, kept := { lastmark := (-1), lastindex := (-1), whole := false, marks := #[] }, loop := 0, began := none }], weight := 2, answer := none, seen, outcome := none }
def mC3 (text : Array Nat) (seen : Sre.Seen) : M := { code := tzCode, text, lim := 5, start := 0, lastStart := 5, wholeText := false, mustAdvance := false, pc := 11, pos := 0, handed := 0, outermost := true, marks := #[none, none, none, none, none, none], lastmark := (-1), lastindex := (-1), loops := #[{ pc := 7, count := 0, began := some 0, outer := none }], inner := some 0, frames := [{ wait := .maxMore, pc := 23, pos := 0, outermost := true, count := 0, kept := { lastmark := (-1), lastindex := (-1), whole := true, marks := #[] }, loop := 0, began := none }, { wait := .closeLoop, pc := 7, pos := 0, outermost := true, count := 0, kept := { lastmark := (-1), lastindex := (-1), whole := false, marks := #[] }, loop := 0, began := none }, { wait := .nextStart, pc := 5, pos := 0, outermost := true, count := 0, kept := { lastmark := (-1), lastindex := (-1), whole := false, marks := #[] }, loop := 0, began := none }], weight := 3, answer := none, seen, outcome := none }
def mC4 (text : Array Nat) (seen : Sre.Seen) : M := { code := tzCode, text, lim := 5, start := 0, lastStart := 5, wholeText := false, mustAdvance := false, pc := 13, pos := 0, handed := 0, outermost := true, marks := #[some 0, none, none, none, none, none], lastmark := 0, lastindex := (-1), loops := #[{ pc := 7, count := 0, began := some 0, outer := none }], inner := some 0, frames := [{ wait := .maxMore, pc := 23, pos := 0, outermost := true, count := 0, kept := { lastmark := (-1), lastindex := (-1), whole := true, marks := #[] }, loop := 0, began := none }, { wait := .closeLoop, pc := 7, pos := 0, outermost := true, count := 0, kept := { lastmark := (-1), lastindex := (-1), whole := false, marks := #[] }, loop := 0, began := none }, { wait := .nextStart, pc := 5, pos := 0, outermost := true, count := 0, kept := { lastmark := (-1), lastindex := (-1), whole := false, marks := #[] }, loop := 0, began := none }], weight := 3, answer := none, seen, outcome := none }
def mC5 (text : Array Nat) (seen : Sre.Seen) : M := { code := tzCode, text, lim := 5, start := 0, lastStart := 5, wholeText := false, mustAdvance := false, pc := 20, pos := 1, handed := 0, outermost := true, marks := #[some 0, none, none, none, none, none], lastmark := 0, lastindex := (-1), loops := #[{ pc := 7, count := 0, began := some 0, outer := none }], inner := some 0, frames := [{ wait := .maxMore, pc := 23, pos := 0, outermost := true, count := 0, kept := { lastmark := (-1), lastindex := (-1), whole := true, marks := #[] }, loop := 0, began := none }, { wait := .closeLoop, pc := 7, pos := 0, outermost := true, count := 0, kept := { lastmark := (-1), lastindex := (-1), whole := false, marks := #[] }, loop := 0, began := none }, { wait := .nextStart, pc := 5, pos := 0, outermost := true, count := 0, kept := { lastmark := (-1), lastindex := (-1), whole := false, marks := #[] }, loop := 0, began := none }], weight := 3, answer := none, seen, outcome := none }
def mC6 (text : Array Nat) (seen : Sre.Seen) : M := { code := tzCode, text, lim := 5, start := 0, lastStart := 5, wholeText := false, mustAdvance := false, pc := 22, pos := 1, handed := 0, outermost := true, marks := #[some 0, some 1, none, none, none, none], lastmark := 1, lastindex := 1, loops := #[{ pc := 7, count := 0, began := some 0, outer := none }], inner := some 0, frames := [{ wait := .maxMore, pc := 23, pos := 0, outermost := true, count := 0, kept := { lastmark := (-1), lastindex := (-1), whole := true, marks := #[] }, loop := 0, began := none }, { wait := .closeLoop, pc := 7, pos := 0, outermost := true, count := 0, kept := { lastmark := (-1), lastindex := (-1), whole := false, marks := #[] }, loop := 0, began := none }, { wait := .nextStart, pc := 5, pos := 0, outermost := true, count := 0, kept := { lastmark := (-1), lastindex := (-1), whole := false, marks := #[] }, loop := 0, began := none }], weight := 3, answer := none, seen, outcome := none }
def mC7 (text : Array Nat) (seen : Sre.Seen) : M := { code := tzCode, text, lim := 5, start := 0, lastStart := 5, wholeText := false, mustAdvance := false, pc := 23, pos := 1, handed := 1, outermost := true, marks := #[some 0, some 1, none, none, none, none], lastmark := 1, lastindex := 1, loops := #[{ pc := 7, count := 0, began := some 0, outer := none }], inner := none, frames := [{ wait := .maxTail, pc := 23, pos := 1, outermost := true, count := 1, kept := { lastmark := 1, lastindex := 1, whole := false, marks := #[] }, loop := 0, began := none }, { wait := .maxMore, pc := 23, pos := 0, outermost := true, count := 0, kept := { lastmark := (-1), lastindex := (-1), whole := true, marks := #[] }, loop := 0, began := none }, { wait := .closeLoop, pc := 7, pos := 0, outermost := true, count := 0, kept := { lastmark := (-1), lastindex := (-1), whole := false, marks := #[] }, loop := 0, began := none }, { wait := .nextStart, pc := 5, pos := 0, outermost := true, count := 0, kept := { lastmark := (-1), lastindex := (-1), whole := false, marks := #[] }, loop := 0, began := none }], weight := 4, answer := none, seen, outcome := none }
def mC8 (text : Array Nat) (seen : Sre.Seen) : M := { code := tzCode, text, lim := 5, start := 0, lastStart := 5, wholeText := false, mustAdvance := false, pc := 25, pos := 1, handed := 1, outermost := true, marks := #[some 0, some 1, some 1, none, none, none], lastmark := 2, lastindex := 1, loops := #[{ pc := 7, count := 0, began := some 0, outer := none }], inner := none, frames := [{ wait := .maxTail, pc := 23, pos := 1, outermost := true, count := 1, kept := { lastmark := 1, lastindex := 1, whole := false, marks := #[] }, loop := 0, began := none }, { wait := .maxMore, pc := 23, pos := 0, outermost := true, count := 0, kept := { lastmark := (-1), lastindex := (-1), whole := true, marks := #[] }, loop := 0, began := none }, { wait := .closeLoop, pc := 7, pos := 0, outermost := true, count := 0, kept := { lastmark := (-1), lastindex := (-1), whole := false, marks := #[] }, loop := 0, began := none }, { wait := .nextStart, pc := 5, pos := 0, outermost := true, count := 0, kept := { lastmark := (-1), lastindex := (-1), whole := false, marks := #[] }, loop := 0, began := none }], weight := 4, answer := none, seen, outcome := none }
def mC9 (text : Array Nat) (seen : Sre.Seen) : M := { code := tzCode, text, lim := 5, start := 0, lastStart := 5, wholeText := false, mustAdvance := false, pc := 30, pos := 2, handed := 1, outermost := true, marks := #[some 0, some 1, some 1, none, none, none], lastmark := 2, lastindex := 1, loops := #[{ pc := 7, count := 0, began := some 0, outer := none }], inner := none, frames := [{ wait := .maxTail, pc := 23, pos := 1, outermost := true, count := 1, kept := { lastmark := 1, lastindex := 1, whole := false, marks := #[] }, loop := 0, began := none }, { wait := .maxMore, pc := 23, pos := 0, outermost := true, count := 0, kept := { lastmark := (-1), lastindex := (-1), whole := true, marks := #[] }, loop := 0, began := none }, { wait := .closeLoop, pc := 7, pos := 0, outermost := true, count := 0, kept := { lastmark := (-1), lastindex := (-1), whole := false, marks := #[] }, loop := 0, began := none }, { wait := .nextStart, pc := 5, pos := 0, outermost := true, count := 0, kept := { lastmark := (-1), lastindex := (-1), whole := false, marks := #[] }, loop := 0, began := none }], weight := 4, answer := none, seen, outcome := none }
def mC10 (text : Array Nat) (seen : Sre.Seen) : M := { code := tzCode, text, lim := 5, start := 0, lastStart := 5, wholeText := false, mustAdvance := false, pc := 40, pos := 3, handed := 3, outermost := true, marks := #[some 0, some 1, some 1, none, none, none], lastmark := 2, lastindex := 1, loops := #[{ pc := 7, count := 0, began := some 0, outer := none }], inner := none, frames := [{ wait := .giveBack, pc := 30, pos := 3, outermost := true, count := 1, kept := { lastmark := 2, lastindex := 1, whole := false, marks := #[] }, loop := 0, began := none }, { wait := .maxTail, pc := 23, pos := 1, outermost := true, count := 1, kept := { lastmark := 1, lastindex := 1, whole := false, marks := #[] }, loop := 0, began := none }, { wait := .maxMore, pc := 23, pos := 0, outermost := true, count := 0, kept := { lastmark := (-1), lastindex := (-1), whole := true, marks := #[] }, loop := 0, began := none }, { wait := .closeLoop, pc := 7, pos := 0, outermost := true, count := 0, kept := { lastmark := (-1), lastindex := (-1), whole := false, marks := #[] }, loop := 0, began := none }, { wait := .nextStart, pc := 5, pos := 0, outermost := true, count := 0, kept := { lastmark := (-1), lastindex := (-1), whole := false, marks := #[] }, loop := 0, began := none }], weight := 5, answer := none, seen, outcome := none }
def mC11 (text : Array Nat) (seen : Sre.Seen) : M := { code := tzCode, text, lim := 5, start := 0, lastStart := 5, wholeText := false, mustAdvance := false, pc := 42, pos := 3, handed := 3, outermost := true, marks := #[some 0, some 1, some 1, some 3, none, none], lastmark := 3, lastindex := 2, loops := #[{ pc := 7, count := 0, began := some 0, outer := none }], inner := none, frames := [{ wait := .giveBack, pc := 30, pos := 3, outermost := true, count := 1, kept := { lastmark := 2, lastindex := 1, whole := false, marks := #[] }, loop := 0, began := none }, { wait := .maxTail, pc := 23, pos := 1, outermost := true, count := 1, kept := { lastmark := 1, lastindex := 1, whole := false, marks := #[] }, loop := 0, began := none }, { wait := .maxMore, pc := 23, pos := 0, outermost := true, count := 0, kept := { lastmark := (-1), lastindex := (-1), whole := true, marks := #[] }, loop := 0, began := none }, { wait := .closeLoop, pc := 7, pos := 0, outermost := true, count := 0, kept := { lastmark := (-1), lastindex := (-1), whole := false, marks := #[] }, loop := 0, began := none }, { wait := .nextStart, pc := 5, pos := 0, outermost := true, count := 0, kept := { lastmark := (-1), lastindex := (-1), whole := false, marks := #[] }, loop := 0, began := none }], weight := 5, answer := none, seen, outcome := none }
def mC12 (text : Array Nat) (seen : Sre.Seen) : M := { code := tzCode, text, lim := 5, start := 0, lastStart := 5, wholeText := false, mustAdvance := false, pc := 49, pos := 3, handed := 3, outermost := true, marks := #[some 0, some 1, some 1, some 3, none, none], lastmark := 3, lastindex := 2, loops := #[{ pc := 7, count := 0, began := some 0, outer := none }], inner := none, frames := [{ wait := .giveBack, pc := 42, pos := 3, outermost := true, count := 0, kept := { lastmark := 3, lastindex := 2, whole := false, marks := #[] }, loop := 0, began := none }, { wait := .giveBack, pc := 30, pos := 3, outermost := true, count := 1, kept := { lastmark := 2, lastindex := 1, whole := false, marks := #[] }, loop := 0, began := none }, { wait := .maxTail, pc := 23, pos := 1, outermost := true, count := 1, kept := { lastmark := 1, lastindex := 1, whole := false, marks := #[] }, loop := 0, began := none }, { wait := .maxMore, pc := 23, pos := 0, outermost := true, count := 0, kept := { lastmark := (-1), lastindex := (-1), whole := true, marks := #[] }, loop := 0, began := none }, { wait := .closeLoop, pc := 7, pos := 0, outermost := true, count := 0, kept := { lastmark := (-1), lastindex := (-1), whole := false, marks := #[] }, loop := 0, began := none }, { wait := .nextStart, pc := 5, pos := 0, outermost := true, count := 0, kept := { lastmark := (-1), lastindex := (-1), whole := false, marks := #[] }, loop := 0, began := none }], weight := 6, answer := none, seen, outcome := none }
def mC13 (text : Array Nat) (seen : Sre.Seen) : M := { code := tzCode, text, lim := 5, start := 0, lastStart := 5, wholeText := false, mustAdvance := false, pc := 67, pos := 3, handed := 3, outermost := true, marks := #[some 0, some 1, some 1, some 3, none, none], lastmark := 3, lastindex := 2, loops := #[{ pc := 7, count := 0, began := some 0, outer := none }, { pc := 49, count := (-1), began := none, outer := none }], inner := some 1, frames := [{ wait := .closeLoop, pc := 49, pos := 3, outermost := true, count := 0, kept := { lastmark := (-1), lastindex := (-1), whole := false, marks := #[] }, loop := 1, began := none }, { wait := .giveBack, pc := 42, pos := 3, outermost := true, count := 0, kept := { lastmark := 3, lastindex := 2, whole := false, marks := #[] }, loop := 0, began := none }, { wait := .giveBack, pc := 30, pos := 3, outermost := true, count := 1, kept := { lastmark := 2, lastindex := 1, whole := false, marks := #[] }, loop := 0, began := none }, { wait := .maxTail, pc := 23, pos := 1, outermost := true, count := 1, kept := { lastmark := 1, lastindex := 1, whole := false, marks := #[] }, loop := 0, began := none }, { wait := .maxMore, pc := 23, pos := 0, outermost := true, count := 0, kept := { lastmark := (-1), lastindex := (-1), whole := true, marks := #[] }, loop := 0, began := none }, { wait := .closeLoop, pc := 7, pos := 0, outermost := true, count := 0, kept := { lastmark := (-1), lastindex := (-1), whole := false, marks := #[] }, loop := 0, began := none }, { wait := .nextStart, pc := 5, pos := 0, outermost := true, count := 0, kept := { lastmark := (-1), lastindex := (-1), whole := false, marks := #[] }, loop := 0, began := none }], weight := 7, answer := none, seen, outcome := none }
def mC14 (text : Array Nat) (seen : Sre.Seen) : M := { code := tzCode, text, lim := 5, start := 0, lastStart := 5, wholeText := false, mustAdvance := false, pc := 53, pos := 3, handed := 3, outermost := true, marks := #[some 0, some 1, some 1, some 3, none, none], lastmark := 3, lastindex := 2, loops := #[{ pc := 7, count := 0, began := some 0, outer := none }, { pc := 49, count := 0, began := some 3, outer := none }], inner := some 1, frames := [{ wait := .maxMore, pc := 68, pos := 3, outermost := true, count := 0, kept := { lastmark := 3, lastindex := 2, whole := true, marks := #[some 0, some 1, some 1, some 3] }, loop := 1, began := none }, { wait := .closeLoop, pc := 49, pos := 3, outermost := true, count := 0, kept := { lastmark := (-1), lastindex := (-1), whole := false, marks := #[] }, loop := 1, began := none }, { wait := .giveBack, pc := 42, pos := 3, outermost := true, count := 0, kept := { lastmark := 3, lastindex := 2, whole := false, marks := #[] }, loop := 0, began := none }, { wait := .giveBack, pc := 30, pos := 3, outermost := true, count := 1, kept := { lastmark := 2, lastindex := 1, whole := false, marks := #[] }, loop := 0, began := none }, { wait := .maxTail, pc := 23, pos := 1, outermost := true, count := 1, kept := { lastmark := 1, lastindex := 1, whole := false, marks := #[] }, loop := 0, began := none }, { wait := .maxMore, pc := 23, pos := 0, outermost := true, count := 0, kept := { lastmark := (-1), lastindex := (-1), whole := true, marks := #[] }, loop := 0, began := none }, { wait := .closeLoop, pc := 7, pos := 0, outermost := true, count := 0, kept := { lastmark := (-1), lastindex := (-1), whole := false, marks := #[] }, loop := 0, began := none }, { wait := .nextStart, pc := 5, pos := 0, outermost := true, count := 0, kept := { lastmark := (-1), lastindex := (-1), whole := false, marks := #[] }, loop := 0, began := none }], weight := 12, answer := none, seen, outcome := none }
def mC15 (text : Array Nat) (seen : Sre.Seen) : M := { code := tzCode, text, lim := 5, start := 0, lastStart := 5, wholeText := false, mustAdvance := false, pc := 55, pos := 3, handed := 3, outermost := true, marks := #[some 0, some 1, some 1, some 3, some 3, none], lastmark := 4, lastindex := 2, loops := #[{ pc := 7, count := 0, began := some 0, outer := none }, { pc := 49, count := 0, began := some 3, outer := none }], inner := some 1, frames := [{ wait := .maxMore, pc := 68, pos := 3, outermost := true, count := 0, kept := { lastmark := 3, lastindex := 2, whole := true, marks := #[some 0, some 1, some 1, some 3] }, loop := 1, began := none }, { wait := .closeLoop, pc := 49, pos := 3, outermost := true, count := 0, kept := { lastmark := (-1), lastindex := (-1), whole := false, marks := #[] }, loop := 1, began := none }, { wait := .giveBack, pc := 42, pos := 3, outermost := true, count := 0, kept := { lastmark := 3, lastindex := 2, whole := false, marks := #[] }, loop := 0, began := none }, { wait := .giveBack, pc := 30, pos := 3, outermost := true, count := 1, kept := { lastmark := 2, lastindex := 1, whole := false, marks := #[] }, loop := 0, began := none }, { wait := .maxTail, pc := 23, pos := 1, outermost := true, count := 1, kept := { lastmark := 1, lastindex := 1, whole := false, marks := #[] }, loop := 0, began := none }, { wait := .maxMore, pc := 23, pos := 0, outermost := true, count := 0, kept := { lastmark := (-1), lastindex := (-1), whole := true, marks := #[] }, loop := 0, began := none }, { wait := .closeLoop, pc := 7, pos := 0, outermost := true, count := 0, kept := { lastmark := (-1), lastindex := (-1), whole := false, marks := #[] }, loop := 0, began := none }, { wait := .nextStart, pc := 5, pos := 0, outermost := true, count := 0, kept := { lastmark := (-1), lastindex := (-1), whole := false, marks := #[] }, loop := 0, began := none }], weight := 12, answer := none, seen, outcome := none }
def mC16 (text : Array Nat) (seen : Sre.Seen) : M := { code := tzCode, text, lim := 5, start := 0, lastStart := 5, wholeText := false, mustAdvance := false, pc := 60, pos := 4, handed := 3, outermost := true, marks := #[some 0, some 1, some 1, some 3, some 3, none], lastmark := 4, lastindex := 2, loops := #[{ pc := 7, count := 0, began := some 0, outer := none }, { pc := 49, count := 0, began := some 3, outer := none }], inner := some 1, frames := [{ wait := .maxMore, pc := 68, pos := 3, outermost := true, count := 0, kept := { lastmark := 3, lastindex := 2, whole := true, marks := #[some 0, some 1, some 1, some 3] }, loop := 1, began := none }, { wait := .closeLoop, pc := 49, pos := 3, outermost := true, count := 0, kept := { lastmark := (-1), lastindex := (-1), whole := false, marks := #[] }, loop := 1, began := none }, { wait := .giveBack, pc := 42, pos := 3, outermost := true, count := 0, kept := { lastmark := 3, lastindex := 2, whole := false, marks := #[] }, loop := 0, began := none }, { wait := .giveBack, pc := 30, pos := 3, outermost := true, count := 1, kept := { lastmark := 2, lastindex := 1, whole := false, marks := #[] }, loop := 0, began := none }, { wait := .maxTail, pc := 23, pos := 1, outermost := true, count := 1, kept := { lastmark := 1, lastindex := 1, whole := false, marks := #[] }, loop := 0, began := none }, { wait := .maxMore, pc := 23, pos := 0, outermost := true, count := 0, kept := { lastmark := (-1), lastindex := (-1), whole := true, marks := #[] }, loop := 0, began := none }, { wait := .closeLoop, pc := 7, pos := 0, outermost := true, count := 0, kept := { lastmark := (-1), lastindex := (-1), whole := false, marks := #[] }, loop := 0, began := none }, { wait := .nextStart, pc := 5, pos := 0, outermost := true, count := 0, kept := { lastmark := (-1), lastindex := (-1), whole := false, marks := #[] }, loop := 0, began := none }], weight := 12, answer := none, seen, outcome := none }
def mC17 (text : Array Nat) (seen : Sre.Seen) : M := { code := tzCode, text, lim := 5, start := 0, lastStart := 5, wholeText := false, mustAdvance := false, pc := 65, pos := 5, handed := 3, outermost := true, marks := #[some 0, some 1, some 1, some 3, some 3, none], lastmark := 4, lastindex := 2, loops := #[{ pc := 7, count := 0, began := some 0, outer := none }, { pc := 49, count := 0, began := some 3, outer := none }], inner := some 1, frames := [{ wait := .maxMore, pc := 68, pos := 3, outermost := true, count := 0, kept := { lastmark := 3, lastindex := 2, whole := true, marks := #[some 0, some 1, some 1, some 3] }, loop := 1, began := none }, { wait := .closeLoop, pc := 49, pos := 3, outermost := true, count := 0, kept := { lastmark := (-1), lastindex := (-1), whole := false, marks := #[] }, loop := 1, began := none }, { wait := .giveBack, pc := 42, pos := 3, outermost := true, count := 0, kept := { lastmark := 3, lastindex := 2, whole := false, marks := #[] }, loop := 0, began := none }, { wait := .giveBack, pc := 30, pos := 3, outermost := true, count := 1, kept := { lastmark := 2, lastindex := 1, whole := false, marks := #[] }, loop := 0, began := none }, { wait := .maxTail, pc := 23, pos := 1, outermost := true, count := 1, kept := { lastmark := 1, lastindex := 1, whole := false, marks := #[] }, loop := 0, began := none }, { wait := .maxMore, pc := 23, pos := 0, outermost := true, count := 0, kept := { lastmark := (-1), lastindex := (-1), whole := true, marks := #[] }, loop := 0, began := none }, { wait := .closeLoop, pc := 7, pos := 0, outermost := true, count := 0, kept := { lastmark := (-1), lastindex := (-1), whole := false, marks := #[] }, loop := 0, began := none }, { wait := .nextStart, pc := 5, pos := 0, outermost := true, count := 0, kept := { lastmark := (-1), lastindex := (-1), whole := false, marks := #[] }, loop := 0, began := none }], weight := 12, answer := none, seen, outcome := none }
def mC18 (text : Array Nat) (seen : Sre.Seen) : M := { code := tzCode, text, lim := 5, start := 0, lastStart := 5, wholeText := false, mustAdvance := false, pc := 67, pos := 5, handed := 3, outermost := true, marks := #[some 0, some 1, some 1, some 3, some 3, some 5], lastmark := 5, lastindex := 3, loops := #[{ pc := 7, count := 0, began := some 0, outer := none }, { pc := 49, count := 0, began := some 3, outer := none }], inner := some 1, frames := [{ wait := .maxMore, pc := 68, pos := 3, outermost := true, count := 0, kept := { lastmark := 3, lastindex := 2, whole := true, marks := #[some 0, some 1, some 1, some 3] }, loop := 1, began := none }, { wait := .closeLoop, pc := 49, pos := 3, outermost := true, count := 0, kept := { lastmark := (-1), lastindex := (-1), whole := false, marks := #[] }, loop := 1, began := none }, { wait := .giveBack, pc := 42, pos := 3, outermost := true, count := 0, kept := { lastmark := 3, lastindex := 2, whole := false, marks := #[] }, loop := 0, began := none }, { wait := .giveBack, pc := 30, pos := 3, outermost := true, count := 1, kept := { lastmark := 2, lastindex := 1, whole := false, marks := #[] }, loop := 0, began := none }, { wait := .maxTail, pc := 23, pos := 1, outermost := true, count := 1, kept := { lastmark := 1, lastindex := 1, whole := false, marks := #[] }, loop := 0, began := none }, { wait := .maxMore, pc := 23, pos := 0, outermost := true, count := 0, kept := { lastmark := (-1), lastindex := (-1), whole := true, marks := #[] }, loop := 0, began := none }, { wait := .closeLoop, pc := 7, pos := 0, outermost := true, count := 0, kept := { lastmark := (-1), lastindex := (-1), whole := false, marks := #[] }, loop := 0, began := none }, { wait := .nextStart, pc := 5, pos := 0, outermost := true, count := 0, kept := { lastmark := (-1), lastindex := (-1), whole := false, marks := #[] }, loop := 0, began := none }], weight := 12, answer := none, seen, outcome := none }
def mC19 (text : Array Nat) (seen : Sre.Seen) : M := { code := tzCode, text, lim := 5, start := 0, lastStart := 5, wholeText := false, mustAdvance := false, pc := 68, pos := 5, handed := 5, outermost := true, marks := #[some 0, some 1, some 1, some 3, some 3, some 5], lastmark := 5, lastindex := 3, loops := #[{ pc := 7, count := 0, began := some 0, outer := none }, { pc := 49, count := 0, began := some 3, outer := none }], inner := none, frames := [{ wait := .maxTail, pc := 68, pos := 5, outermost := true, count := 1, kept := { lastmark := 5, lastindex := 3, whole := false, marks := #[] }, loop := 1, began := none }, { wait := .maxMore, pc := 68, pos := 3, outermost := true, count := 0, kept := { lastmark := 3, lastindex := 2, whole := true, marks := #[some 0, some 1, some 1, some 3] }, loop := 1, began := none }, { wait := .closeLoop, pc := 49, pos := 3, outermost := true, count := 0, kept := { lastmark := (-1), lastindex := (-1), whole := false, marks := #[] }, loop := 1, began := none }, { wait := .giveBack, pc := 42, pos := 3, outermost := true, count := 0, kept := { lastmark := 3, lastindex := 2, whole := false, marks := #[] }, loop := 0, began := none }, { wait := .giveBack, pc := 30, pos := 3, outermost := true, count := 1, kept := { lastmark := 2, lastindex := 1, whole := false, marks := #[] }, loop := 0, began := none }, { wait := .maxTail, pc := 23, pos := 1, outermost := true, count := 1, kept := { lastmark := 1, lastindex := 1, whole := false, marks := #[] }, loop := 0, began := none }, { wait := .maxMore, pc := 23, pos := 0, outermost := true, count := 0, kept := { lastmark := (-1), lastindex := (-1), whole := true, marks := #[] }, loop := 0, began := none }, { wait := .closeLoop, pc := 7, pos := 0, outermost := true, count := 0, kept := { lastmark := (-1), lastindex := (-1), whole := false, marks := #[] }, loop := 0, began := none }, { wait := .nextStart, pc := 5, pos := 0, outermost := true, count := 0, kept := { lastmark := (-1), lastindex := (-1), whole := false, marks := #[] }, loop := 0, began := none }], weight := 13, answer := none, seen, outcome := none }
def mC20 (text : Array Nat) (seen : Sre.Seen) : M := { code := tzCode, text, lim := 5, start := 0, lastStart := 5, wholeText := false, mustAdvance := false, pc := 70, pos := 5, handed := 5, outermost := true, marks := #[some 0, some 1, some 1, some 3, some 3, some 5], lastmark := 5, lastindex := 3, loops := #[{ pc := 7, count := 0, began := some 0, outer := none }, { pc := 49, count := 0, began := some 3, outer := none }], inner := none, frames := [{ wait := .maxTail, pc := 68, pos := 5, outermost := true, count := 1, kept := { lastmark := 5, lastindex := 3, whole := false, marks := #[] }, loop := 1, began := none }, { wait := .maxMore, pc := 68, pos := 3, outermost := true, count := 0, kept := { lastmark := 3, lastindex := 2, whole := true, marks := #[some 0, some 1, some 1, some 3] }, loop := 1, began := none }, { wait := .closeLoop, pc := 49, pos := 3, outermost := true, count := 0, kept := { lastmark := (-1), lastindex := (-1), whole := false, marks := #[] }, loop := 1, began := none }, { wait := .giveBack, pc := 42, pos := 3, outermost := true, count := 0, kept := { lastmark := 3, lastindex := 2, whole := false, marks := #[] }, loop := 0, began := none }, { wait := .giveBack, pc := 30, pos := 3, outermost := true, count := 1, kept := { lastmark := 2, lastindex := 1, whole := false, marks := #[] }, loop := 0, began := none }, { wait := .maxTail, pc := 23, pos := 1, outermost := true, count := 1, kept := { lastmark := 1, lastindex := 1, whole := false, marks := #[] }, loop := 0, began := none }, { wait := .maxMore, pc := 23, pos := 0, outermost := true, count := 0, kept := { lastmark := (-1), lastindex := (-1), whole := true, marks := #[] }, loop := 0, began := none }, { wait := .closeLoop, pc := 7, pos := 0, outermost := true, count := 0, kept := { lastmark := (-1), lastindex := (-1), whole := false, marks := #[] }, loop := 0, began := none }, { wait := .nextStart, pc := 5, pos := 0, outermost := true, count := 0, kept := { lastmark := (-1), lastindex := (-1), whole := false, marks := #[] }, loop := 0, began := none }], weight := 13, answer := none, seen, outcome := none }
def mC21 (text : Array Nat) (seen : Sre.Seen) : M := { code := tzCode, text, lim := 5, start := 0, lastStart := 5, wholeText := false, mustAdvance := false, pc := 70, pos := 5, handed := 5, outermost := true, marks := #[some 0, some 1, some 1, some 3, some 3, some 5], lastmark := 5, lastindex := 3, loops := #[{ pc := 7, count := 0, began := some 0, outer := none }, { pc := 49, count := 0, began := some 3, outer := none }], inner := none, frames := [{ wait := .maxTail, pc := 68, pos := 5, outermost := true, count := 1, kept := { lastmark := 5, lastindex := 3, whole := false, marks := #[] }, loop := 1, began := none }, { wait := .maxMore, pc := 68, pos := 3, outermost := true, count := 0, kept := { lastmark := 3, lastindex := 2, whole := true, marks := #[some 0, some 1, some 1, some 3] }, loop := 1, began := none }, { wait := .closeLoop, pc := 49, pos := 3, outermost := true, count := 0, kept := { lastmark := (-1), lastindex := (-1), whole := false, marks := #[] }, loop := 1, began := none }, { wait := .giveBack, pc := 42, pos := 3, outermost := true, count := 0, kept := { lastmark := 3, lastindex := 2, whole := false, marks := #[] }, loop := 0, began := none }, { wait := .giveBack, pc := 30, pos := 3, outermost := true, count := 1, kept := { lastmark := 2, lastindex := 1, whole := false, marks := #[] }, loop := 0, began := none }, { wait := .maxTail, pc := 23, pos := 1, outermost := true, count := 1, kept := { lastmark := 1, lastindex := 1, whole := false, marks := #[] }, loop := 0, began := none }, { wait := .maxMore, pc := 23, pos := 0, outermost := true, count := 0, kept := { lastmark := (-1), lastindex := (-1), whole := true, marks := #[] }, loop := 0, began := none }, { wait := .closeLoop, pc := 7, pos := 0, outermost := true, count := 0, kept := { lastmark := (-1), lastindex := (-1), whole := false, marks := #[] }, loop := 0, began := none }, { wait := .nextStart, pc := 5, pos := 0, outermost := true, count := 0, kept := { lastmark := (-1), lastindex := (-1), whole := false, marks := #[] }, loop := 0, began := none }], weight := 13, answer := some true, seen, outcome := none }
def mC22 (text : Array Nat) (seen : Sre.Seen) : M := { code := tzCode, text, lim := 5, start := 0, lastStart := 5, wholeText := false, mustAdvance := false, pc := 68, pos := 5, handed := 5, outermost := true, marks := #[some 0, some 1, some 1, some 3, some 3, some 5], lastmark := 5, lastindex := 3, loops := #[{ pc := 7, count := 0, began := some 0, outer := none }, { pc := 49, count := 0, began := some 3, outer := none }], inner := some 1, frames := [{ wait := .maxMore, pc := 68, pos := 3, outermost := true, count := 0, kept := { lastmark := 3, lastindex := 2, whole := true, marks := #[some 0, some 1, some 1, some 3] }, loop := 1, began := none }, { wait := .closeLoop, pc := 49, pos := 3, outermost := true, count := 0, kept := { lastmark := (-1), lastindex := (-1), whole := false, marks := #[] }, loop := 1, began := none }, { wait := .giveBack, pc := 42, pos := 3, outermost := true, count := 0, kept := { lastmark := 3, lastindex := 2, whole := false, marks := #[] }, loop := 0, began := none }, { wait := .giveBack, pc := 30, pos := 3, outermost := true, count := 1, kept := { lastmark := 2, lastindex := 1, whole := false, marks := #[] }, loop := 0, began := none }, { wait := .maxTail, pc := 23, pos := 1, outermost := true, count := 1, kept := { lastmark := 1, lastindex := 1, whole := false, marks := #[] }, loop := 0, began := none }, { wait := .maxMore, pc := 23, pos := 0, outermost := true, count := 0, kept := { lastmark := (-1), lastindex := (-1), whole := true, marks := #[] }, loop := 0, began := none }, { wait := .closeLoop, pc := 7, pos := 0, outermost := true, count := 0, kept := { lastmark := (-1), lastindex := (-1), whole := false, marks := #[] }, loop := 0, began := none }, { wait := .nextStart, pc := 5, pos := 0, outermost := true, count := 0, kept := { lastmark := (-1), lastindex := (-1), whole := false, marks := #[] }, loop := 0, began := none }], weight := 12, answer := some true, seen, outcome := none }
def mC23 (text : Array Nat) (seen : Sre.Seen) : M := { code := tzCode, text, lim := 5, start := 0, lastStart := 5, wholeText := false, mustAdvance := false, pc := 68, pos := 3, handed := 5, outermost := true, marks := #[some 0, some 1, some 1, some 3, some 3, some 5], lastmark := 5, lastindex := 3, loops := #[{ pc := 7, count := 0, began := some 0, outer := none }, { pc := 49, count := 0, began := none, outer := none }], inner := some 1, frames := [{ wait := .closeLoop, pc := 49, pos := 3, outermost := true, count := 0, kept := { lastmark := (-1), lastindex := (-1), whole := false, marks := #[] }, loop := 1, began := none }, { wait := .giveBack, pc := 42, pos := 3, outermost := true, count := 0, kept := { lastmark := 3, lastindex := 2, whole := false, marks := #[] }, loop := 0, began := none }, { wait := .giveBack, pc := 30, pos := 3, outermost := true, count := 1, kept := { lastmark := 2, lastindex := 1, whole := false, marks := #[] }, loop := 0, began := none }, { wait := .maxTail, pc := 23, pos := 1, outermost := true, count := 1, kept := { lastmark := 1, lastindex := 1, whole := false, marks := #[] }, loop := 0, began := none }, { wait := .maxMore, pc := 23, pos := 0, outermost := true, count := 0, kept := { lastmark := (-1), lastindex := (-1), whole := true, marks := #[] }, loop := 0, began := none }, { wait := .closeLoop, pc := 7, pos := 0, outermost := true, count := 0, kept := { lastmark := (-1), lastindex := (-1), whole := false, marks := #[] }, loop := 0, began := none }, { wait := .nextStart, pc := 5, pos := 0, outermost := true, count := 0, kept := { lastmark := (-1), lastindex := (-1), whole := false, marks := #[] }, loop := 0, began := none }], weight := 7, answer := some true, seen, outcome := none }
def mC24 (text : Array Nat) (seen : Sre.Seen) : M := { code := tzCode, text, lim := 5, start := 0, lastStart := 5, wholeText := false, mustAdvance := false, pc := 49, pos := 3, handed := 5, outermost := true, marks := #[some 0, some 1, some 1, some 3, some 3, some 5], lastmark := 5, lastindex := 3, loops := #[{ pc := 7, count := 0, began := some 0, outer := none }], inner := none, frames := [{ wait := .giveBack, pc := 42, pos := 3, outermost := true, count := 0, kept := { lastmark := 3, lastindex := 2, whole := false, marks := #[] }, loop := 0, began := none }, { wait := .giveBack, pc := 30, pos := 3, outermost := true, count := 1, kept := { lastmark := 2, lastindex := 1, whole := false, marks := #[] }, loop := 0, began := none }, { wait := .maxTail, pc := 23, pos := 1, outermost := true, count := 1, kept := { lastmark := 1, lastindex := 1, whole := false, marks := #[] }, loop := 0, began := none }, { wait := .maxMore, pc := 23, pos := 0, outermost := true, count := 0, kept := { lastmark := (-1), lastindex := (-1), whole := true, marks := #[] }, loop := 0, began := none }, { wait := .closeLoop, pc := 7, pos := 0, outermost := true, count := 0, kept := { lastmark := (-1), lastindex := (-1), whole := false, marks := #[] }, loop := 0, began := none }, { wait := .nextStart, pc := 5, pos := 0, outermost := true, count := 0, kept := { lastmark := (-1), lastindex := (-1), whole := false, marks := #[] }, loop := 0, began := none }], weight := 6, answer := some true, seen, outcome := none }
def mC25 (text : Array Nat) (seen : Sre.Seen) : M := { code := tzCode, text, lim := 5, start := 0, lastStart := 5, wholeText := false, mustAdvance := false, pc := 42, pos := 3, handed := 5, outermost := true, marks := #[some 0, some 1, some 1, some 3, some 3, some 5], lastmark := 5, lastindex := 3, loops := #[{ pc := 7, count := 0, began := some 0, outer := none }], inner := none, frames := [{ wait := .giveBack, pc := 30, pos := 3, outermost := true, count := 1, kept := { lastmark := 2, lastindex := 1, whole := false, marks := #[] }, loop := 0, began := none }, { wait := .maxTail, pc := 23, pos := 1, outermost := true, count := 1, kept := { lastmark := 1, lastindex := 1, whole := false, marks := #[] }, loop := 0, began := none }, { wait := .maxMore, pc := 23, pos := 0, outermost := true, count := 0, kept := { lastmark := (-1), lastindex := (-1), whole := true, marks := #[] }, loop := 0, began := none }, { wait := .closeLoop, pc := 7, pos := 0, outermost := true, count := 0, kept := { lastmark := (-1), lastindex := (-1), whole := false, marks := #[] }, loop := 0, began := none }, { wait := .nextStart, pc := 5, pos := 0, outermost := true, count := 0, kept := { lastmark := (-1), lastindex := (-1), whole := false, marks := #[] }, loop := 0, began := none }], weight := 5, answer := some true, seen, outcome := none }
def mC26 (text : Array Nat) (seen : Sre.Seen) : M := { code := tzCode, text, lim := 5, start := 0, lastStart := 5, wholeText := false, mustAdvance := false, pc := 30, pos := 3, handed := 5, outermost := true, marks := #[some 0, some 1, some 1, some 3, some 3, some 5], lastmark := 5, lastindex := 3, loops := #[{ pc := 7, count := 0, began := some 0, outer := none }], inner := none, frames := [{ wait := .maxTail, pc := 23, pos := 1, outermost := true, count := 1, kept := { lastmark := 1, lastindex := 1, whole := false, marks := #[] }, loop := 0, began := none }, { wait := .maxMore, pc := 23, pos := 0, outermost := true, count := 0, kept := { lastmark := (-1), lastindex := (-1), whole := true, marks := #[] }, loop := 0, began := none }, { wait := .closeLoop, pc := 7, pos := 0, outermost := true, count := 0, kept := { lastmark := (-1), lastindex := (-1), whole := false, marks := #[] }, loop := 0, began := none }, { wait := .nextStart, pc := 5, pos := 0, outermost := true, count := 0, kept := { lastmark := (-1), lastindex := (-1), whole := false, marks := #[] }, loop := 0, began := none }], weight := 4, answer := some true, seen, outcome := none }
def mC27 (text : Array Nat) (seen : Sre.Seen) : M := { code := tzCode, text, lim := 5, start := 0, lastStart := 5, wholeText := false, mustAdvance := false, pc := 23, pos := 1, handed := 5, outermost := true, marks := #[some 0, some 1, some 1, some 3, some 3, some 5], lastmark := 5, lastindex := 3, loops := #[{ pc := 7, count := 0, began := some 0, outer := none }], inner := some 0, frames := [{ wait := .maxMore, pc := 23, pos := 0, outermost := true, count := 0, kept := { lastmark := (-1), lastindex := (-1), whole := true, marks := #[] }, loop := 0, began := none }, { wait := .closeLoop, pc := 7, pos := 0, outermost := true, count := 0, kept := { lastmark := (-1), lastindex := (-1), whole := false, marks := #[] }, loop := 0, began := none }, { wait := .nextStart, pc := 5, pos := 0, outermost := true, count := 0, kept := { lastmark := (-1), lastindex := (-1), whole := false, marks := #[] }, loop := 0, began := none }], weight := 3, answer := some true, seen, outcome := none }
def mC28 (text : Array Nat) (seen : Sre.Seen) : M := { code := tzCode, text, lim := 5, start := 0, lastStart := 5, wholeText := false, mustAdvance := false, pc := 23, pos := 0, handed := 5, outermost := true, marks := #[some 0, some 1, some 1, some 3, some 3, some 5], lastmark := 5, lastindex := 3, loops := #[{ pc := 7, count := 0, began := none, outer := none }], inner := some 0, frames := [{ wait := .closeLoop, pc := 7, pos := 0, outermost := true, count := 0, kept := { lastmark := (-1), lastindex := (-1), whole := false, marks := #[] }, loop := 0, began := none }, { wait := .nextStart, pc := 5, pos := 0, outermost := true, count := 0, kept := { lastmark := (-1), lastindex := (-1), whole := false, marks := #[] }, loop := 0, began := none }], weight := 2, answer := some true, seen, outcome := none }
def mC29 (text : Array Nat) (seen : Sre.Seen) : M := { code := tzCode, text, lim := 5, start := 0, lastStart := 5, wholeText := false, mustAdvance := false, pc := 7, pos := 0, handed := 5, outermost := true, marks := #[some 0, some 1, some 1, some 3, some 3, some 5], lastmark := 5, lastindex := 3, loops := #[], inner := none, frames := [{ wait := .nextStart, pc := 5, pos := 0, outermost := true, count := 0, kept := { lastmark := (-1), lastindex := (-1), whole := false, marks := #[] }, loop := 0, began := none }], weight := 1, answer := some true, seen, outcome := none }
def mC30 (text : Array Nat) (seen : Sre.Seen) : M := { code := tzCode, text, lim := 5, start := 0, lastStart := 5, wholeText := false, mustAdvance := false, pc := 5, pos := 0, handed := 5, outermost := true, marks := #[some 0, some 1, some 1, some 3, some 3, some 5], lastmark := 5, lastindex := 3, loops := #[], inner := none, frames := [], weight := 0, answer := some true, seen, outcome := none }
def mC31 (text : Array Nat) (seen : Sre.Seen) : M := { code := tzCode, text, lim := 5, start := 0, lastStart := 5, wholeText := false, mustAdvance := false, pc := 5, pos := 0, handed := 5, outermost := true, marks := #[some 0, some 1, some 1, some 3, some 3, some 5], lastmark := 5, lastindex := 3, loops := #[], inner := none, frames := [], weight := 0, answer := some true, seen, outcome := some .matched }
theorem one (m : M) (h : m.outcome.isSome = false) : m.runFor 1 = m.step := by
  rw [M.runFor, h]; rfl
theorem inStep {m m' : M} {c i : Nat} {y : Sre.Seen} {n1 n2 : Nat} (hs : m.step = match accepts tzCode i c y with
    | .error why => m'.stick why
    | .ok (false, seen) => { m' with seen }.say false
    | .ok (true, seen) => { m' with seen, pc := n1, pos := n2 }) (hi : i = 25 ∨ i = 34 ∨ i = 55 ∨ i = 60) (h : isDigit c = true) : m.step = { m' with seen := (y.add 8).add 55, pc := n1, pos := n2 } := by
  rw [hs, accD i hi h]
theorem stepTo {m m' : M} (h : m.outcome.isSome = false) (hs : m.step = m') : m.runFor 1 = m' := by rw [one m h, hs]
theorem chain {m : M} {f g : Sre.Seen → M} {a b : Nat} (h1 : ∃ s, m.runFor a = f s) (h2 : ∀ s, ∃ s', (f s).runFor b = g s') : ∃ s', m.runFor (a + b) = g s' := by
  obtain ⟨s, h1⟩ := h1
  obtain ⟨s', h2⟩ := h2 s
  exact ⟨s', by rw [runFor_add, h1, h2]⟩
theorem run_mono {m m' : M} {k : Nat} (h : m.runFor k = m') (ho : m'.outcome.isSome = true) (n : Nat) : m.runFor (k + n) = m' := by
  rw [runFor_add, h]
  cases n with
  | zero => rfl
  | succ n => rw [M.runFor, if_pos ho]
theorem gA0 {s0 a b c d : Nat} : ∀ s, ∃ s', (mA0 #[s0, a, b, 58, c, d] s).runFor 1 = mA1 #[s0, a, b, 58, c, d] s' := by
  intro s
  refine ⟨(mA0 #[s0, a, b, 58, c, d] s).step.seen, stepTo (by kernel_rfl) ?_⟩
  kernel_rfl
theorem gA1 {s0 a b c d : Nat} : ∀ s, ∃ s', (mA1 #[s0, a, b, 58, c, d] s).runFor 1 = mA2 #[s0, a, b, 58, c, d] s' := by
  intro s
  refine ⟨(mA1 #[s0, a, b, 58, c, d] s).step.seen, stepTo (by kernel_rfl) ?_⟩
  kernel_rfl
theorem gA2 {s0 a b c d : Nat} : ∀ s, ∃ s', (mA2 #[s0, a, b, 58, c, d] s).runFor 1 = mA3 #[s0, a, b, 58, c, d] s' := by
  intro s
  refine ⟨(mA2 #[s0, a, b, 58, c, d] s).step.seen, stepTo (by kernel_rfl) ?_⟩
  kernel_rfl
theorem gA3 {s0 a b c d : Nat} : ∀ s, ∃ s', (mA3 #[s0, a, b, 58, c, d] s).runFor 1 = mA4 #[s0, a, b, 58, c, d] s' := by
  intro s
  refine ⟨(mA3 #[s0, a, b, 58, c, d] s).step.seen, stepTo (by kernel_rfl) ?_⟩
  kernel_rfl
theorem gA4 {s0 a b c d : Nat} (hs : s0 = 45 ∨ s0 = 43) : ∀ s, ∃ s', (mA4 #[s0, a, b, 58, c, d] s).runFor 1 = mA5 #[s0, a, b, 58, c, d] s' := by
  intro s
  refine ⟨(mA4 #[s0, a, b, 58, c, d] s).step.seen, stepTo (by kernel_rfl) ?_⟩
  rcases hs with rfl | rfl <;> kernel_rfl
theorem gA5 {s0 a b c d : Nat} : ∀ s, ∃ s', (mA5 #[s0, a, b, 58, c, d] s).runFor 1 = mA6 #[s0, a, b, 58, c, d] s' := by
  intro s
  refine ⟨(mA5 #[s0, a, b, 58, c, d] s).step.seen, stepTo (by kernel_rfl) ?_⟩
  kernel_rfl
theorem gA6 {s0 a b c d : Nat} : ∀ s, ∃ s', (mA6 #[s0, a, b, 58, c, d] s).runFor 1 = mA7 #[s0, a, b, 58, c, d] s' := by
  intro s
  refine ⟨(mA6 #[s0, a, b, 58, c, d] s).step.seen, stepTo (by kernel_rfl) ?_⟩
  kernel_rfl
theorem gA7 {s0 a b c d : Nat} : ∀ s, ∃ s', (mA7 #[s0, a, b, 58, c, d] s).runFor 1 = mA8 #[s0, a, b, 58, c, d] s' := by
  intro s
  refine ⟨(mA7 #[s0, a, b, 58, c, d] s).step.seen, stepTo (by kernel_rfl) ?_⟩
  kernel_rfl
theorem gA8 {s0 a b c d : Nat} (h : isDigit a = true) : ∀ s, ∃ s', (mA8 #[s0, a, b, 58, c, d] s).runFor 1 = mA9 #[s0, a, b, 58, c, d] s' := by
  intro s
  refine ⟨((s.add 13).add 8).add 55, stepTo (by kernel_rfl) ?_⟩
  rw [inStep (m' := { (mA8 #[s0, a, b, 58, c, d] s) with seen := s.add 13 }) (c := a) (i := 25) (y := s.add 13) (n1 := 30) (n2 := 2) (by kernel_rfl) (by decide) h]
  kernel_rfl
theorem gA9 {s0 a b c d : Nat} (h : isDigit b = true) : ∀ s, ∃ s', (mA9 #[s0, a, b, 58, c, d] s).runFor 1 = mA10 #[s0, a, b, 58, c, d] s' := by
  intro s
  refine ⟨(((s.add 24).add 13).add 8).add 55, stepTo (by kernel_rfl) ?_⟩
  have q : (mA9 #[s0, a, b, 58, c, d] s).step = (match Sre.run tzCode #[s0, a, b, 58, c, d] 34 1 2 0 ((s.add 24).add 13) with
    | .error why => { (mA9 #[s0, a, b, 58, c, d] s) with seen := s.add 24 }.stick why
    | .ok (n, seen) =>
      let m := { (mA9 #[s0, a, b, 58, c, d] s) with seen }
      if n < 0 then m.say false else
      let m := { m with pos := m.pos + n }
      m.afterRun .giveBack n (m.keep m.inner.isSome)) := by kernel_rfl
  rw [q, run1 (b := b) rfl (accD 34 (by decide) h _)]
  kernel_rfl
theorem gA10 {s0 a b c d : Nat} : ∀ s, ∃ s', (mA10 #[s0, a, b, 58, c, d] s).runFor 1 = mA11 #[s0, a, b, 58, c, d] s' := by
  intro s
  refine ⟨(mA10 #[s0, a, b, 58, c, d] s).step.seen, stepTo (by kernel_rfl) ?_⟩
  kernel_rfl
theorem gA11 {s0 a b c d : Nat} : ∀ s, ∃ s', (mA11 #[s0, a, b, 58, c, d] s).runFor 1 = mA12 #[s0, a, b, 58, c, d] s' := by
  intro s
  refine ⟨(mA11 #[s0, a, b, 58, c, d] s).step.seen, stepTo (by kernel_rfl) ?_⟩
  kernel_rfl
theorem gA12 {s0 a b c d : Nat} : ∀ s, ∃ s', (mA12 #[s0, a, b, 58, c, d] s).runFor 1 = mA13 #[s0, a, b, 58, c, d] s' := by
  intro s
  refine ⟨(mA12 #[s0, a, b, 58, c, d] s).step.seen, stepTo (by kernel_rfl) ?_⟩
  kernel_rfl
theorem gA13 {s0 a b c d : Nat} : ∀ s, ∃ s', (mA13 #[s0, a, b, 58, c, d] s).runFor 1 = mA14 #[s0, a, b, 58, c, d] s' := by
  intro s
  refine ⟨(mA13 #[s0, a, b, 58, c, d] s).step.seen, stepTo (by kernel_rfl) ?_⟩
  kernel_rfl
theorem gA14 {s0 a b c d : Nat} : ∀ s, ∃ s', (mA14 #[s0, a, b, 58, c, d] s).runFor 1 = mA15 #[s0, a, b, 58, c, d] s' := by
  intro s
  refine ⟨(mA14 #[s0, a, b, 58, c, d] s).step.seen, stepTo (by kernel_rfl) ?_⟩
  kernel_rfl
theorem gA15 {s0 a b c d : Nat} (h : isDigit c = true) : ∀ s, ∃ s', (mA15 #[s0, a, b, 58, c, d] s).runFor 1 = mA16 #[s0, a, b, 58, c, d] s' := by
  intro s
  refine ⟨((s.add 13).add 8).add 55, stepTo (by kernel_rfl) ?_⟩
  rw [inStep (m' := { (mA15 #[s0, a, b, 58, c, d] s) with seen := s.add 13 }) (c := c) (i := 55) (y := s.add 13) (n1 := 60) (n2 := 5) (by kernel_rfl) (by decide) h]
  kernel_rfl
theorem gA16 {s0 a b c d : Nat} (h : isDigit d = true) : ∀ s, ∃ s', (mA16 #[s0, a, b, 58, c, d] s).runFor 1 = mA17 #[s0, a, b, 58, c, d] s' := by
  intro s
  refine ⟨((s.add 13).add 8).add 55, stepTo (by kernel_rfl) ?_⟩
  rw [inStep (m' := { (mA16 #[s0, a, b, 58, c, d] s) with seen := s.add 13 }) (c := d) (i := 60) (y := s.add 13) (n1 := 65) (n2 := 6) (by kernel_rfl) (by decide) h]
  kernel_rfl
theorem gA17 {s0 a b c d : Nat} : ∀ s, ∃ s', (mA17 #[s0, a, b, 58, c, d] s).runFor 1 = mA18 #[s0, a, b, 58, c, d] s' := by
  intro s
  refine ⟨(mA17 #[s0, a, b, 58, c, d] s).step.seen, stepTo (by kernel_rfl) ?_⟩
  kernel_rfl
theorem gA18 {s0 a b c d : Nat} : ∀ s, ∃ s', (mA18 #[s0, a, b, 58, c, d] s).runFor 1 = mA19 #[s0, a, b, 58, c, d] s' := by
  intro s
  refine ⟨(mA18 #[s0, a, b, 58, c, d] s).step.seen, stepTo (by kernel_rfl) ?_⟩
  kernel_rfl
theorem gA19 {s0 a b c d : Nat} : ∀ s, ∃ s', (mA19 #[s0, a, b, 58, c, d] s).runFor 1 = mA20 #[s0, a, b, 58, c, d] s' := by
  intro s
  refine ⟨(mA19 #[s0, a, b, 58, c, d] s).step.seen, stepTo (by kernel_rfl) ?_⟩
  kernel_rfl
theorem gA20 {s0 a b c d : Nat} : ∀ s, ∃ s', (mA20 #[s0, a, b, 58, c, d] s).runFor 1 = mA21 #[s0, a, b, 58, c, d] s' := by
  intro s
  refine ⟨(mA20 #[s0, a, b, 58, c, d] s).step.seen, stepTo (by kernel_rfl) ?_⟩
  kernel_rfl
theorem gA21 {s0 a b c d : Nat} : ∀ s, ∃ s', (mA21 #[s0, a, b, 58, c, d] s).runFor 1 = mA22 #[s0, a, b, 58, c, d] s' := by
  intro s
  refine ⟨(mA21 #[s0, a, b, 58, c, d] s).step.seen, stepTo (by kernel_rfl) ?_⟩
  kernel_rfl
theorem gA22 {s0 a b c d : Nat} : ∀ s, ∃ s', (mA22 #[s0, a, b, 58, c, d] s).runFor 1 = mA23 #[s0, a, b, 58, c, d] s' := by
  intro s
  refine ⟨(mA22 #[s0, a, b, 58, c, d] s).step.seen, stepTo (by kernel_rfl) ?_⟩
  kernel_rfl
theorem gA23 {s0 a b c d : Nat} : ∀ s, ∃ s', (mA23 #[s0, a, b, 58, c, d] s).runFor 1 = mA24 #[s0, a, b, 58, c, d] s' := by
  intro s
  refine ⟨(mA23 #[s0, a, b, 58, c, d] s).step.seen, stepTo (by kernel_rfl) ?_⟩
  kernel_rfl
theorem gA24 {s0 a b c d : Nat} : ∀ s, ∃ s', (mA24 #[s0, a, b, 58, c, d] s).runFor 1 = mA25 #[s0, a, b, 58, c, d] s' := by
  intro s
  refine ⟨(mA24 #[s0, a, b, 58, c, d] s).step.seen, stepTo (by kernel_rfl) ?_⟩
  kernel_rfl
theorem gA25 {s0 a b c d : Nat} : ∀ s, ∃ s', (mA25 #[s0, a, b, 58, c, d] s).runFor 1 = mA26 #[s0, a, b, 58, c, d] s' := by
  intro s
  refine ⟨(mA25 #[s0, a, b, 58, c, d] s).step.seen, stepTo (by kernel_rfl) ?_⟩
  kernel_rfl
theorem gA26 {s0 a b c d : Nat} : ∀ s, ∃ s', (mA26 #[s0, a, b, 58, c, d] s).runFor 1 = mA27 #[s0, a, b, 58, c, d] s' := by
  intro s
  refine ⟨(mA26 #[s0, a, b, 58, c, d] s).step.seen, stepTo (by kernel_rfl) ?_⟩
  kernel_rfl
theorem gA27 {s0 a b c d : Nat} : ∀ s, ∃ s', (mA27 #[s0, a, b, 58, c, d] s).runFor 1 = mA28 #[s0, a, b, 58, c, d] s' := by
  intro s
  refine ⟨(mA27 #[s0, a, b, 58, c, d] s).step.seen, stepTo (by kernel_rfl) ?_⟩
  kernel_rfl
theorem gA28 {s0 a b c d : Nat} : ∀ s, ∃ s', (mA28 #[s0, a, b, 58, c, d] s).runFor 1 = mA29 #[s0, a, b, 58, c, d] s' := by
  intro s
  refine ⟨(mA28 #[s0, a, b, 58, c, d] s).step.seen, stepTo (by kernel_rfl) ?_⟩
  kernel_rfl
theorem gA29 {s0 a b c d : Nat} : ∀ s, ∃ s', (mA29 #[s0, a, b, 58, c, d] s).runFor 1 = mA30 #[s0, a, b, 58, c, d] s' := by
  intro s
  refine ⟨(mA29 #[s0, a, b, 58, c, d] s).step.seen, stepTo (by kernel_rfl) ?_⟩
  kernel_rfl
theorem gA30 {s0 a b c d : Nat} : ∀ s, ∃ s', (mA30 #[s0, a, b, 58, c, d] s).runFor 1 = mA31 #[s0, a, b, 58, c, d] s' := by
  intro s
  refine ⟨(mA30 #[s0, a, b, 58, c, d] s).step.seen, stepTo (by kernel_rfl) ?_⟩
  kernel_rfl
theorem runA {s0 a b c d : Nat} (hs : s0 = 45 ∨ s0 = 43) (ha : isDigit a = true) (hb : isDigit b = true) (hc : isDigit c = true) (hd : isDigit d = true) : ∃ s', (forSearch tzCode #[s0, a, b, 58, c, d] 3 0 6 false).runFor 32 = mA31 #[s0, a, b, 58, c, d] s' := by
  have h0 : ∃ s', (forSearch tzCode #[s0, a, b, 58, c, d] 3 0 6 false).runFor 0 = mA0 #[s0, a, b, 58, c, d] s' := ⟨(forSearch tzCode #[s0, a, b, 58, c, d] 3 0 6 false).seen, by kernel_rfl⟩
  have h1 := chain h0 (gA0 (s0 := s0) (a := a) (b := b) (c := c) (d := d))
  have h2 := chain h1 (gA1 (s0 := s0) (a := a) (b := b) (c := c) (d := d))
  have h3 := chain h2 (gA2 (s0 := s0) (a := a) (b := b) (c := c) (d := d))
  have h4 := chain h3 (gA3 (s0 := s0) (a := a) (b := b) (c := c) (d := d))
  have h5 := chain h4 (gA4 hs)
  have h6 := chain h5 (gA5 (s0 := s0) (a := a) (b := b) (c := c) (d := d))
  have h7 := chain h6 (gA6 (s0 := s0) (a := a) (b := b) (c := c) (d := d))
  have h8 := chain h7 (gA7 (s0 := s0) (a := a) (b := b) (c := c) (d := d))
  have h9 := chain h8 (gA8 ha)
  have h10 := chain h9 (gA9 hb)
  have h11 := chain h10 (gA10 (s0 := s0) (a := a) (b := b) (c := c) (d := d))
  have h12 := chain h11 (gA11 (s0 := s0) (a := a) (b := b) (c := c) (d := d))
  have h13 := chain h12 (gA12 (s0 := s0) (a := a) (b := b) (c := c) (d := d))
  have h14 := chain h13 (gA13 (s0 := s0) (a := a) (b := b) (c := c) (d := d))
  have h15 := chain h14 (gA14 (s0 := s0) (a := a) (b := b) (c := c) (d := d))
  have h16 := chain h15 (gA15 hc)
  have h17 := chain h16 (gA16 hd)
  have h18 := chain h17 (gA17 (s0 := s0) (a := a) (b := b) (c := c) (d := d))
  have h19 := chain h18 (gA18 (s0 := s0) (a := a) (b := b) (c := c) (d := d))
  have h20 := chain h19 (gA19 (s0 := s0) (a := a) (b := b) (c := c) (d := d))
  have h21 := chain h20 (gA20 (s0 := s0) (a := a) (b := b) (c := c) (d := d))
  have h22 := chain h21 (gA21 (s0 := s0) (a := a) (b := b) (c := c) (d := d))
  have h23 := chain h22 (gA22 (s0 := s0) (a := a) (b := b) (c := c) (d := d))
  have h24 := chain h23 (gA23 (s0 := s0) (a := a) (b := b) (c := c) (d := d))
  have h25 := chain h24 (gA24 (s0 := s0) (a := a) (b := b) (c := c) (d := d))
  have h26 := chain h25 (gA25 (s0 := s0) (a := a) (b := b) (c := c) (d := d))
  have h27 := chain h26 (gA26 (s0 := s0) (a := a) (b := b) (c := c) (d := d))
  have h28 := chain h27 (gA27 (s0 := s0) (a := a) (b := b) (c := c) (d := d))
  have h29 := chain h28 (gA28 (s0 := s0) (a := a) (b := b) (c := c) (d := d))
  have h30 := chain h29 (gA29 (s0 := s0) (a := a) (b := b) (c := c) (d := d))
  have h31 := chain h30 (gA30 (s0 := s0) (a := a) (b := b) (c := c) (d := d))
  obtain ⟨s', hf⟩ := h31
  exact ⟨s', run_mono hf (by kernel_rfl) 1⟩
theorem gB0 {s0 a c d : Nat} : ∀ s, ∃ s', (mB0 #[s0, a, 58, c, d] s).runFor 1 = mB1 #[s0, a, 58, c, d] s' := by
  intro s
  refine ⟨(mB0 #[s0, a, 58, c, d] s).step.seen, stepTo (by kernel_rfl) ?_⟩
  kernel_rfl
theorem gB1 {s0 a c d : Nat} : ∀ s, ∃ s', (mB1 #[s0, a, 58, c, d] s).runFor 1 = mB2 #[s0, a, 58, c, d] s' := by
  intro s
  refine ⟨(mB1 #[s0, a, 58, c, d] s).step.seen, stepTo (by kernel_rfl) ?_⟩
  kernel_rfl
theorem gB2 {s0 a c d : Nat} : ∀ s, ∃ s', (mB2 #[s0, a, 58, c, d] s).runFor 1 = mB3 #[s0, a, 58, c, d] s' := by
  intro s
  refine ⟨(mB2 #[s0, a, 58, c, d] s).step.seen, stepTo (by kernel_rfl) ?_⟩
  kernel_rfl
theorem gB3 {s0 a c d : Nat} : ∀ s, ∃ s', (mB3 #[s0, a, 58, c, d] s).runFor 1 = mB4 #[s0, a, 58, c, d] s' := by
  intro s
  refine ⟨(mB3 #[s0, a, 58, c, d] s).step.seen, stepTo (by kernel_rfl) ?_⟩
  kernel_rfl
theorem gB4 {s0 a c d : Nat} (hs : s0 = 45 ∨ s0 = 43) : ∀ s, ∃ s', (mB4 #[s0, a, 58, c, d] s).runFor 1 = mB5 #[s0, a, 58, c, d] s' := by
  intro s
  refine ⟨(mB4 #[s0, a, 58, c, d] s).step.seen, stepTo (by kernel_rfl) ?_⟩
  rcases hs with rfl | rfl <;> kernel_rfl
theorem gB5 {s0 a c d : Nat} : ∀ s, ∃ s', (mB5 #[s0, a, 58, c, d] s).runFor 1 = mB6 #[s0, a, 58, c, d] s' := by
  intro s
  refine ⟨(mB5 #[s0, a, 58, c, d] s).step.seen, stepTo (by kernel_rfl) ?_⟩
  kernel_rfl
theorem gB6 {s0 a c d : Nat} : ∀ s, ∃ s', (mB6 #[s0, a, 58, c, d] s).runFor 1 = mB7 #[s0, a, 58, c, d] s' := by
  intro s
  refine ⟨(mB6 #[s0, a, 58, c, d] s).step.seen, stepTo (by kernel_rfl) ?_⟩
  kernel_rfl
theorem gB7 {s0 a c d : Nat} : ∀ s, ∃ s', (mB7 #[s0, a, 58, c, d] s).runFor 1 = mB8 #[s0, a, 58, c, d] s' := by
  intro s
  refine ⟨(mB7 #[s0, a, 58, c, d] s).step.seen, stepTo (by kernel_rfl) ?_⟩
  kernel_rfl
theorem gB8 {s0 a c d : Nat} (h : isDigit a = true) : ∀ s, ∃ s', (mB8 #[s0, a, 58, c, d] s).runFor 1 = mB9 #[s0, a, 58, c, d] s' := by
  intro s
  refine ⟨((s.add 13).add 8).add 55, stepTo (by kernel_rfl) ?_⟩
  rw [inStep (m' := { (mB8 #[s0, a, 58, c, d] s) with seen := s.add 13 }) (c := a) (i := 25) (y := s.add 13) (n1 := 30) (n2 := 2) (by kernel_rfl) (by decide) h]
  kernel_rfl
theorem gB9 {s0 a c d : Nat} : ∀ s, ∃ s', (mB9 #[s0, a, 58, c, d] s).runFor 1 = mB10 #[s0, a, 58, c, d] s' := by
  intro s
  refine ⟨(mB9 #[s0, a, 58, c, d] s).step.seen, stepTo (by kernel_rfl) ?_⟩
  kernel_rfl
theorem gB10 {s0 a c d : Nat} : ∀ s, ∃ s', (mB10 #[s0, a, 58, c, d] s).runFor 1 = mB11 #[s0, a, 58, c, d] s' := by
  intro s
  refine ⟨(mB10 #[s0, a, 58, c, d] s).step.seen, stepTo (by kernel_rfl) ?_⟩
  kernel_rfl
theorem gB11 {s0 a c d : Nat} : ∀ s, ∃ s', (mB11 #[s0, a, 58, c, d] s).runFor 1 = mB12 #[s0, a, 58, c, d] s' := by
  intro s
  refine ⟨(mB11 #[s0, a, 58, c, d] s).step.seen, stepTo (by kernel_rfl) ?_⟩
  kernel_rfl
theorem gB12 {s0 a c d : Nat} : ∀ s, ∃ s', (mB12 #[s0, a, 58, c, d] s).runFor 1 = mB13 #[s0, a, 58, c, d] s' := by
  intro s
  refine ⟨(mB12 #[s0, a, 58, c, d] s).step.seen, stepTo (by kernel_rfl) ?_⟩
  kernel_rfl
theorem gB13 {s0 a c d : Nat} : ∀ s, ∃ s', (mB13 #[s0, a, 58, c, d] s).runFor 1 = mB14 #[s0, a, 58, c, d] s' := by
  intro s
  refine ⟨(mB13 #[s0, a, 58, c, d] s).step.seen, stepTo (by kernel_rfl) ?_⟩
  kernel_rfl
theorem gB14 {s0 a c d : Nat} : ∀ s, ∃ s', (mB14 #[s0, a, 58, c, d] s).runFor 1 = mB15 #[s0, a, 58, c, d] s' := by
  intro s
  refine ⟨(mB14 #[s0, a, 58, c, d] s).step.seen, stepTo (by kernel_rfl) ?_⟩
  kernel_rfl
theorem gB15 {s0 a c d : Nat} (h : isDigit c = true) : ∀ s, ∃ s', (mB15 #[s0, a, 58, c, d] s).runFor 1 = mB16 #[s0, a, 58, c, d] s' := by
  intro s
  refine ⟨((s.add 13).add 8).add 55, stepTo (by kernel_rfl) ?_⟩
  rw [inStep (m' := { (mB15 #[s0, a, 58, c, d] s) with seen := s.add 13 }) (c := c) (i := 55) (y := s.add 13) (n1 := 60) (n2 := 4) (by kernel_rfl) (by decide) h]
  kernel_rfl
theorem gB16 {s0 a c d : Nat} (h : isDigit d = true) : ∀ s, ∃ s', (mB16 #[s0, a, 58, c, d] s).runFor 1 = mB17 #[s0, a, 58, c, d] s' := by
  intro s
  refine ⟨((s.add 13).add 8).add 55, stepTo (by kernel_rfl) ?_⟩
  rw [inStep (m' := { (mB16 #[s0, a, 58, c, d] s) with seen := s.add 13 }) (c := d) (i := 60) (y := s.add 13) (n1 := 65) (n2 := 5) (by kernel_rfl) (by decide) h]
  kernel_rfl
theorem gB17 {s0 a c d : Nat} : ∀ s, ∃ s', (mB17 #[s0, a, 58, c, d] s).runFor 1 = mB18 #[s0, a, 58, c, d] s' := by
  intro s
  refine ⟨(mB17 #[s0, a, 58, c, d] s).step.seen, stepTo (by kernel_rfl) ?_⟩
  kernel_rfl
theorem gB18 {s0 a c d : Nat} : ∀ s, ∃ s', (mB18 #[s0, a, 58, c, d] s).runFor 1 = mB19 #[s0, a, 58, c, d] s' := by
  intro s
  refine ⟨(mB18 #[s0, a, 58, c, d] s).step.seen, stepTo (by kernel_rfl) ?_⟩
  kernel_rfl
theorem gB19 {s0 a c d : Nat} : ∀ s, ∃ s', (mB19 #[s0, a, 58, c, d] s).runFor 1 = mB20 #[s0, a, 58, c, d] s' := by
  intro s
  refine ⟨(mB19 #[s0, a, 58, c, d] s).step.seen, stepTo (by kernel_rfl) ?_⟩
  kernel_rfl
theorem gB20 {s0 a c d : Nat} : ∀ s, ∃ s', (mB20 #[s0, a, 58, c, d] s).runFor 1 = mB21 #[s0, a, 58, c, d] s' := by
  intro s
  refine ⟨(mB20 #[s0, a, 58, c, d] s).step.seen, stepTo (by kernel_rfl) ?_⟩
  kernel_rfl
theorem gB21 {s0 a c d : Nat} : ∀ s, ∃ s', (mB21 #[s0, a, 58, c, d] s).runFor 1 = mB22 #[s0, a, 58, c, d] s' := by
  intro s
  refine ⟨(mB21 #[s0, a, 58, c, d] s).step.seen, stepTo (by kernel_rfl) ?_⟩
  kernel_rfl
theorem gB22 {s0 a c d : Nat} : ∀ s, ∃ s', (mB22 #[s0, a, 58, c, d] s).runFor 1 = mB23 #[s0, a, 58, c, d] s' := by
  intro s
  refine ⟨(mB22 #[s0, a, 58, c, d] s).step.seen, stepTo (by kernel_rfl) ?_⟩
  kernel_rfl
theorem gB23 {s0 a c d : Nat} : ∀ s, ∃ s', (mB23 #[s0, a, 58, c, d] s).runFor 1 = mB24 #[s0, a, 58, c, d] s' := by
  intro s
  refine ⟨(mB23 #[s0, a, 58, c, d] s).step.seen, stepTo (by kernel_rfl) ?_⟩
  kernel_rfl
theorem gB24 {s0 a c d : Nat} : ∀ s, ∃ s', (mB24 #[s0, a, 58, c, d] s).runFor 1 = mB25 #[s0, a, 58, c, d] s' := by
  intro s
  refine ⟨(mB24 #[s0, a, 58, c, d] s).step.seen, stepTo (by kernel_rfl) ?_⟩
  kernel_rfl
theorem gB25 {s0 a c d : Nat} : ∀ s, ∃ s', (mB25 #[s0, a, 58, c, d] s).runFor 1 = mB26 #[s0, a, 58, c, d] s' := by
  intro s
  refine ⟨(mB25 #[s0, a, 58, c, d] s).step.seen, stepTo (by kernel_rfl) ?_⟩
  kernel_rfl
theorem gB26 {s0 a c d : Nat} : ∀ s, ∃ s', (mB26 #[s0, a, 58, c, d] s).runFor 1 = mB27 #[s0, a, 58, c, d] s' := by
  intro s
  refine ⟨(mB26 #[s0, a, 58, c, d] s).step.seen, stepTo (by kernel_rfl) ?_⟩
  kernel_rfl
theorem gB27 {s0 a c d : Nat} : ∀ s, ∃ s', (mB27 #[s0, a, 58, c, d] s).runFor 1 = mB28 #[s0, a, 58, c, d] s' := by
  intro s
  refine ⟨(mB27 #[s0, a, 58, c, d] s).step.seen, stepTo (by kernel_rfl) ?_⟩
  kernel_rfl
theorem gB28 {s0 a c d : Nat} : ∀ s, ∃ s', (mB28 #[s0, a, 58, c, d] s).runFor 1 = mB29 #[s0, a, 58, c, d] s' := by
  intro s
  refine ⟨(mB28 #[s0, a, 58, c, d] s).step.seen, stepTo (by kernel_rfl) ?_⟩
  kernel_rfl
theorem gB29 {s0 a c d : Nat} : ∀ s, ∃ s', (mB29 #[s0, a, 58, c, d] s).runFor 1 = mB30 #[s0, a, 58, c, d] s' := by
  intro s
  refine ⟨(mB29 #[s0, a, 58, c, d] s).step.seen, stepTo (by kernel_rfl) ?_⟩
  kernel_rfl
theorem gB30 {s0 a c d : Nat} : ∀ s, ∃ s', (mB30 #[s0, a, 58, c, d] s).runFor 1 = mB31 #[s0, a, 58, c, d] s' := by
  intro s
  refine ⟨(mB30 #[s0, a, 58, c, d] s).step.seen, stepTo (by kernel_rfl) ?_⟩
  kernel_rfl
theorem runB {s0 a c d : Nat} (hs : s0 = 45 ∨ s0 = 43) (ha : isDigit a = true) (hc : isDigit c = true) (hd : isDigit d = true) : ∃ s', (forSearch tzCode #[s0, a, 58, c, d] 3 0 5 false).runFor 32 = mB31 #[s0, a, 58, c, d] s' := by
  have h0 : ∃ s', (forSearch tzCode #[s0, a, 58, c, d] 3 0 5 false).runFor 0 = mB0 #[s0, a, 58, c, d] s' := ⟨(forSearch tzCode #[s0, a, 58, c, d] 3 0 5 false).seen, by kernel_rfl⟩
  have h1 := chain h0 (gB0 (s0 := s0) (a := a) (c := c) (d := d))
  have h2 := chain h1 (gB1 (s0 := s0) (a := a) (c := c) (d := d))
  have h3 := chain h2 (gB2 (s0 := s0) (a := a) (c := c) (d := d))
  have h4 := chain h3 (gB3 (s0 := s0) (a := a) (c := c) (d := d))
  have h5 := chain h4 (gB4 hs)
  have h6 := chain h5 (gB5 (s0 := s0) (a := a) (c := c) (d := d))
  have h7 := chain h6 (gB6 (s0 := s0) (a := a) (c := c) (d := d))
  have h8 := chain h7 (gB7 (s0 := s0) (a := a) (c := c) (d := d))
  have h9 := chain h8 (gB8 ha)
  have h10 := chain h9 (gB9 (s0 := s0) (a := a) (c := c) (d := d))
  have h11 := chain h10 (gB10 (s0 := s0) (a := a) (c := c) (d := d))
  have h12 := chain h11 (gB11 (s0 := s0) (a := a) (c := c) (d := d))
  have h13 := chain h12 (gB12 (s0 := s0) (a := a) (c := c) (d := d))
  have h14 := chain h13 (gB13 (s0 := s0) (a := a) (c := c) (d := d))
  have h15 := chain h14 (gB14 (s0 := s0) (a := a) (c := c) (d := d))
  have h16 := chain h15 (gB15 hc)
  have h17 := chain h16 (gB16 hd)
  have h18 := chain h17 (gB17 (s0 := s0) (a := a) (c := c) (d := d))
  have h19 := chain h18 (gB18 (s0 := s0) (a := a) (c := c) (d := d))
  have h20 := chain h19 (gB19 (s0 := s0) (a := a) (c := c) (d := d))
  have h21 := chain h20 (gB20 (s0 := s0) (a := a) (c := c) (d := d))
  have h22 := chain h21 (gB21 (s0 := s0) (a := a) (c := c) (d := d))
  have h23 := chain h22 (gB22 (s0 := s0) (a := a) (c := c) (d := d))
  have h24 := chain h23 (gB23 (s0 := s0) (a := a) (c := c) (d := d))
  have h25 := chain h24 (gB24 (s0 := s0) (a := a) (c := c) (d := d))
  have h26 := chain h25 (gB25 (s0 := s0) (a := a) (c := c) (d := d))
  have h27 := chain h26 (gB26 (s0 := s0) (a := a) (c := c) (d := d))
  have h28 := chain h27 (gB27 (s0 := s0) (a := a) (c := c) (d := d))
  have h29 := chain h28 (gB28 (s0 := s0) (a := a) (c := c) (d := d))
  have h30 := chain h29 (gB29 (s0 := s0) (a := a) (c := c) (d := d))
  have h31 := chain h30 (gB30 (s0 := s0) (a := a) (c := c) (d := d))
  obtain ⟨s', hf⟩ := h31
  exact ⟨s', run_mono hf (by kernel_rfl) 1⟩
theorem gC0 {s0 a b c d : Nat} : ∀ s, ∃ s', (mC0 #[s0, a, b, c, d] s).runFor 1 = mC1 #[s0, a, b, c, d] s' := by
  intro s
  refine ⟨(mC0 #[s0, a, b, c, d] s).step.seen, stepTo (by kernel_rfl) ?_⟩
  kernel_rfl
theorem gC1 {s0 a b c d : Nat} : ∀ s, ∃ s', (mC1 #[s0, a, b, c, d] s).runFor 1 = mC2 #[s0, a, b, c, d] s' := by
  intro s
  refine ⟨(mC1 #[s0, a, b, c, d] s).step.seen, stepTo (by kernel_rfl) ?_⟩
  kernel_rfl
theorem gC2 {s0 a b c d : Nat} : ∀ s, ∃ s', (mC2 #[s0, a, b, c, d] s).runFor 1 = mC3 #[s0, a, b, c, d] s' := by
  intro s
  refine ⟨(mC2 #[s0, a, b, c, d] s).step.seen, stepTo (by kernel_rfl) ?_⟩
  kernel_rfl
theorem gC3 {s0 a b c d : Nat} : ∀ s, ∃ s', (mC3 #[s0, a, b, c, d] s).runFor 1 = mC4 #[s0, a, b, c, d] s' := by
  intro s
  refine ⟨(mC3 #[s0, a, b, c, d] s).step.seen, stepTo (by kernel_rfl) ?_⟩
  kernel_rfl
theorem gC4 {s0 a b c d : Nat} (hs : s0 = 45 ∨ s0 = 43) : ∀ s, ∃ s', (mC4 #[s0, a, b, c, d] s).runFor 1 = mC5 #[s0, a, b, c, d] s' := by
  intro s
  refine ⟨(mC4 #[s0, a, b, c, d] s).step.seen, stepTo (by kernel_rfl) ?_⟩
  rcases hs with rfl | rfl <;> kernel_rfl
theorem gC5 {s0 a b c d : Nat} : ∀ s, ∃ s', (mC5 #[s0, a, b, c, d] s).runFor 1 = mC6 #[s0, a, b, c, d] s' := by
  intro s
  refine ⟨(mC5 #[s0, a, b, c, d] s).step.seen, stepTo (by kernel_rfl) ?_⟩
  kernel_rfl
theorem gC6 {s0 a b c d : Nat} : ∀ s, ∃ s', (mC6 #[s0, a, b, c, d] s).runFor 1 = mC7 #[s0, a, b, c, d] s' := by
  intro s
  refine ⟨(mC6 #[s0, a, b, c, d] s).step.seen, stepTo (by kernel_rfl) ?_⟩
  kernel_rfl
theorem gC7 {s0 a b c d : Nat} : ∀ s, ∃ s', (mC7 #[s0, a, b, c, d] s).runFor 1 = mC8 #[s0, a, b, c, d] s' := by
  intro s
  refine ⟨(mC7 #[s0, a, b, c, d] s).step.seen, stepTo (by kernel_rfl) ?_⟩
  kernel_rfl
theorem gC8 {s0 a b c d : Nat} (h : isDigit a = true) : ∀ s, ∃ s', (mC8 #[s0, a, b, c, d] s).runFor 1 = mC9 #[s0, a, b, c, d] s' := by
  intro s
  refine ⟨((s.add 13).add 8).add 55, stepTo (by kernel_rfl) ?_⟩
  rw [inStep (m' := { (mC8 #[s0, a, b, c, d] s) with seen := s.add 13 }) (c := a) (i := 25) (y := s.add 13) (n1 := 30) (n2 := 2) (by kernel_rfl) (by decide) h]
  kernel_rfl
theorem gC9 {s0 a b c d : Nat} (h : isDigit b = true) : ∀ s, ∃ s', (mC9 #[s0, a, b, c, d] s).runFor 1 = mC10 #[s0, a, b, c, d] s' := by
  intro s
  refine ⟨(((s.add 24).add 13).add 8).add 55, stepTo (by kernel_rfl) ?_⟩
  have q : (mC9 #[s0, a, b, c, d] s).step = (match Sre.run tzCode #[s0, a, b, c, d] 34 1 2 0 ((s.add 24).add 13) with
    | .error why => { (mC9 #[s0, a, b, c, d] s) with seen := s.add 24 }.stick why
    | .ok (n, seen) =>
      let m := { (mC9 #[s0, a, b, c, d] s) with seen }
      if n < 0 then m.say false else
      let m := { m with pos := m.pos + n }
      m.afterRun .giveBack n (m.keep m.inner.isSome)) := by kernel_rfl
  rw [q, run1 (b := b) rfl (accD 34 (by decide) h _)]
  kernel_rfl
theorem gC10 {s0 a b c d : Nat} : ∀ s, ∃ s', (mC10 #[s0, a, b, c, d] s).runFor 1 = mC11 #[s0, a, b, c, d] s' := by
  intro s
  refine ⟨(mC10 #[s0, a, b, c, d] s).step.seen, stepTo (by kernel_rfl) ?_⟩
  kernel_rfl
theorem gC11 {s0 a b c d : Nat} (h : isDigit c = true) : ∀ s, ∃ s', (mC11 #[s0, a, b, c, d] s).runFor 1 = mC12 #[s0, a, b, c, d] s' := by
  intro s
  refine ⟨(s.add 24).add 16, stepTo (by kernel_rfl) ?_⟩
  have q : (mC11 #[s0, a, b, c, d] s).step = (match Sre.run tzCode #[s0, a, b, c, d] 46 1 3 0 ((s.add 24).add 16) with
    | .error why => { (mC11 #[s0, a, b, c, d] s) with seen := s.add 24 }.stick why
    | .ok (n, seen) =>
      let m := { (mC11 #[s0, a, b, c, d] s) with seen }
      if n < 0 then m.say false else
      let m := { m with pos := m.pos + n }
      m.afterRun .giveBack n (m.keep m.inner.isSome)) := by kernel_rfl
  rw [q, run1 (b := c) rfl (accC h _)]
  kernel_rfl
theorem gC12 {s0 a b c d : Nat} : ∀ s, ∃ s', (mC12 #[s0, a, b, c, d] s).runFor 1 = mC13 #[s0, a, b, c, d] s' := by
  intro s
  refine ⟨(mC12 #[s0, a, b, c, d] s).step.seen, stepTo (by kernel_rfl) ?_⟩
  kernel_rfl
theorem gC13 {s0 a b c d : Nat} : ∀ s, ∃ s', (mC13 #[s0, a, b, c, d] s).runFor 1 = mC14 #[s0, a, b, c, d] s' := by
  intro s
  refine ⟨(mC13 #[s0, a, b, c, d] s).step.seen, stepTo (by kernel_rfl) ?_⟩
  kernel_rfl
theorem gC14 {s0 a b c d : Nat} : ∀ s, ∃ s', (mC14 #[s0, a, b, c, d] s).runFor 1 = mC15 #[s0, a, b, c, d] s' := by
  intro s
  refine ⟨(mC14 #[s0, a, b, c, d] s).step.seen, stepTo (by kernel_rfl) ?_⟩
  kernel_rfl
theorem gC15 {s0 a b c d : Nat} (h : isDigit c = true) : ∀ s, ∃ s', (mC15 #[s0, a, b, c, d] s).runFor 1 = mC16 #[s0, a, b, c, d] s' := by
  intro s
  refine ⟨((s.add 13).add 8).add 55, stepTo (by kernel_rfl) ?_⟩
  rw [inStep (m' := { (mC15 #[s0, a, b, c, d] s) with seen := s.add 13 }) (c := c) (i := 55) (y := s.add 13) (n1 := 60) (n2 := 4) (by kernel_rfl) (by decide) h]
  kernel_rfl
theorem gC16 {s0 a b c d : Nat} (h : isDigit d = true) : ∀ s, ∃ s', (mC16 #[s0, a, b, c, d] s).runFor 1 = mC17 #[s0, a, b, c, d] s' := by
  intro s
  refine ⟨((s.add 13).add 8).add 55, stepTo (by kernel_rfl) ?_⟩
  rw [inStep (m' := { (mC16 #[s0, a, b, c, d] s) with seen := s.add 13 }) (c := d) (i := 60) (y := s.add 13) (n1 := 65) (n2 := 5) (by kernel_rfl) (by decide) h]
  kernel_rfl
theorem gC17 {s0 a b c d : Nat} : ∀ s, ∃ s', (mC17 #[s0, a, b, c, d] s).runFor 1 = mC18 #[s0, a, b, c, d] s' := by
  intro s
  refine ⟨(mC17 #[s0, a, b, c, d] s).step.seen, stepTo (by kernel_rfl) ?_⟩
  kernel_rfl
theorem gC18 {s0 a b c d : Nat} : ∀ s, ∃ s', (mC18 #[s0, a, b, c, d] s).runFor 1 = mC19 #[s0, a, b, c, d] s' := by
  intro s
  refine ⟨(mC18 #[s0, a, b, c, d] s).step.seen, stepTo (by kernel_rfl) ?_⟩
  kernel_rfl
theorem gC19 {s0 a b c d : Nat} : ∀ s, ∃ s', (mC19 #[s0, a, b, c, d] s).runFor 1 = mC20 #[s0, a, b, c, d] s' := by
  intro s
  refine ⟨(mC19 #[s0, a, b, c, d] s).step.seen, stepTo (by kernel_rfl) ?_⟩
  kernel_rfl
theorem gC20 {s0 a b c d : Nat} : ∀ s, ∃ s', (mC20 #[s0, a, b, c, d] s).runFor 1 = mC21 #[s0, a, b, c, d] s' := by
  intro s
  refine ⟨(mC20 #[s0, a, b, c, d] s).step.seen, stepTo (by kernel_rfl) ?_⟩
  kernel_rfl
theorem gC21 {s0 a b c d : Nat} : ∀ s, ∃ s', (mC21 #[s0, a, b, c, d] s).runFor 1 = mC22 #[s0, a, b, c, d] s' := by
  intro s
  refine ⟨(mC21 #[s0, a, b, c, d] s).step.seen, stepTo (by kernel_rfl) ?_⟩
  kernel_rfl
theorem gC22 {s0 a b c d : Nat} : ∀ s, ∃ s', (mC22 #[s0, a, b, c, d] s).runFor 1 = mC23 #[s0, a, b, c, d] s' := by
  intro s
  refine ⟨(mC22 #[s0, a, b, c, d] s).step.seen, stepTo (by kernel_rfl) ?_⟩
  kernel_rfl
theorem gC23 {s0 a b c d : Nat} : ∀ s, ∃ s', (mC23 #[s0, a, b, c, d] s).runFor 1 = mC24 #[s0, a, b, c, d] s' := by
  intro s
  refine ⟨(mC23 #[s0, a, b, c, d] s).step.seen, stepTo (by kernel_rfl) ?_⟩
  kernel_rfl
theorem gC24 {s0 a b c d : Nat} : ∀ s, ∃ s', (mC24 #[s0, a, b, c, d] s).runFor 1 = mC25 #[s0, a, b, c, d] s' := by
  intro s
  refine ⟨(mC24 #[s0, a, b, c, d] s).step.seen, stepTo (by kernel_rfl) ?_⟩
  kernel_rfl
theorem gC25 {s0 a b c d : Nat} : ∀ s, ∃ s', (mC25 #[s0, a, b, c, d] s).runFor 1 = mC26 #[s0, a, b, c, d] s' := by
  intro s
  refine ⟨(mC25 #[s0, a, b, c, d] s).step.seen, stepTo (by kernel_rfl) ?_⟩
  kernel_rfl
theorem gC26 {s0 a b c d : Nat} : ∀ s, ∃ s', (mC26 #[s0, a, b, c, d] s).runFor 1 = mC27 #[s0, a, b, c, d] s' := by
  intro s
  refine ⟨(mC26 #[s0, a, b, c, d] s).step.seen, stepTo (by kernel_rfl) ?_⟩
  kernel_rfl
theorem gC27 {s0 a b c d : Nat} : ∀ s, ∃ s', (mC27 #[s0, a, b, c, d] s).runFor 1 = mC28 #[s0, a, b, c, d] s' := by
  intro s
  refine ⟨(mC27 #[s0, a, b, c, d] s).step.seen, stepTo (by kernel_rfl) ?_⟩
  kernel_rfl
theorem gC28 {s0 a b c d : Nat} : ∀ s, ∃ s', (mC28 #[s0, a, b, c, d] s).runFor 1 = mC29 #[s0, a, b, c, d] s' := by
  intro s
  refine ⟨(mC28 #[s0, a, b, c, d] s).step.seen, stepTo (by kernel_rfl) ?_⟩
  kernel_rfl
theorem gC29 {s0 a b c d : Nat} : ∀ s, ∃ s', (mC29 #[s0, a, b, c, d] s).runFor 1 = mC30 #[s0, a, b, c, d] s' := by
  intro s
  refine ⟨(mC29 #[s0, a, b, c, d] s).step.seen, stepTo (by kernel_rfl) ?_⟩
  kernel_rfl
theorem gC30 {s0 a b c d : Nat} : ∀ s, ∃ s', (mC30 #[s0, a, b, c, d] s).runFor 1 = mC31 #[s0, a, b, c, d] s' := by
  intro s
  refine ⟨(mC30 #[s0, a, b, c, d] s).step.seen, stepTo (by kernel_rfl) ?_⟩
  kernel_rfl
theorem runC {s0 a b c d : Nat} (hs : s0 = 45 ∨ s0 = 43) (ha : isDigit a = true) (hb : isDigit b = true) (hc : isDigit c = true) (hd : isDigit d = true) : ∃ s', (forSearch tzCode #[s0, a, b, c, d] 3 0 5 false).runFor 32 = mC31 #[s0, a, b, c, d] s' := by
  have h0 : ∃ s', (forSearch tzCode #[s0, a, b, c, d] 3 0 5 false).runFor 0 = mC0 #[s0, a, b, c, d] s' := ⟨(forSearch tzCode #[s0, a, b, c, d] 3 0 5 false).seen, by kernel_rfl⟩
  have h1 := chain h0 (gC0 (s0 := s0) (a := a) (b := b) (c := c) (d := d))
  have h2 := chain h1 (gC1 (s0 := s0) (a := a) (b := b) (c := c) (d := d))
  have h3 := chain h2 (gC2 (s0 := s0) (a := a) (b := b) (c := c) (d := d))
  have h4 := chain h3 (gC3 (s0 := s0) (a := a) (b := b) (c := c) (d := d))
  have h5 := chain h4 (gC4 hs)
  have h6 := chain h5 (gC5 (s0 := s0) (a := a) (b := b) (c := c) (d := d))
  have h7 := chain h6 (gC6 (s0 := s0) (a := a) (b := b) (c := c) (d := d))
  have h8 := chain h7 (gC7 (s0 := s0) (a := a) (b := b) (c := c) (d := d))
  have h9 := chain h8 (gC8 ha)
  have h10 := chain h9 (gC9 hb)
  have h11 := chain h10 (gC10 (s0 := s0) (a := a) (b := b) (c := c) (d := d))
  have h12 := chain h11 (gC11 hc)
  have h13 := chain h12 (gC12 (s0 := s0) (a := a) (b := b) (c := c) (d := d))
  have h14 := chain h13 (gC13 (s0 := s0) (a := a) (b := b) (c := c) (d := d))
  have h15 := chain h14 (gC14 (s0 := s0) (a := a) (b := b) (c := c) (d := d))
  have h16 := chain h15 (gC15 hc)
  have h17 := chain h16 (gC16 hd)
  have h18 := chain h17 (gC17 (s0 := s0) (a := a) (b := b) (c := c) (d := d))
  have h19 := chain h18 (gC18 (s0 := s0) (a := a) (b := b) (c := c) (d := d))
  have h20 := chain h19 (gC19 (s0 := s0) (a := a) (b := b) (c := c) (d := d))
  have h21 := chain h20 (gC20 (s0 := s0) (a := a) (b := b) (c := c) (d := d))
  have h22 := chain h21 (gC21 (s0 := s0) (a := a) (b := b) (c := c) (d := d))
  have h23 := chain h22 (gC22 (s0 := s0) (a := a) (b := b) (c := c) (d := d))
  have h24 := chain h23 (gC23 (s0 := s0) (a := a) (b := b) (c := c) (d := d))
  have h25 := chain h24 (gC24 (s0 := s0) (a := a) (b := b) (c := c) (d := d))
  have h26 := chain h25 (gC25 (s0 := s0) (a := a) (b := b) (c := c) (d := d))
  have h27 := chain h26 (gC26 (s0 := s0) (a := a) (b := b) (c := c) (d := d))
  have h28 := chain h27 (gC27 (s0 := s0) (a := a) (b := b) (c := c) (d := d))
  have h29 := chain h28 (gC28 (s0 := s0) (a := a) (b := b) (c := c) (d := d))
  have h30 := chain h29 (gC29 (s0 := s0) (a := a) (b := b) (c := c) (d := d))
  have h31 := chain h30 (gC30 (s0 := s0) (a := a) (b := b) (c := c) (d := d))
  obtain ⟨s', hf⟩ := h31
  exact ⟨s', run_mono hf (by kernel_rfl) 1⟩
end Mine
namespace Mine
theorem pa_pat : PlainAttrs "re.Pattern" :=
  ⟨⟨"object.__getattribute__", by rw [typeLookup_type, builtinLookup_eq_fast]; kernel_rfl, by decide +kernel⟩, by rw [typeLookup_type, builtinLookup_eq_fast]; kernel_rfl⟩
theorem pa_mat : PlainAttrs "re.Match" :=
  ⟨⟨"object.__getattribute__", by rw [typeLookup_type, builtinLookup_eq_fast]; kernel_rfl, by decide +kernel⟩, by rw [typeLookup_type, builtinLookup_eq_fast]; kernel_rfl⟩
theorem slot_search : Slot "re.Pattern" "search" "re.Pattern.search" :=
  .of (owner := "re.Pattern") (n := "search") (by rw [typeLookup_type, builtinLookup_eq_fast]; kernel_rfl) (by decide +kernel) (by decide +kernel) (by decide +kernel)
    (by first | exact .inl (by decide +kernel) | exact .inr (by decide +kernel)) (by rw [isSubtype_type]; kernel_rfl)
theorem type_search : typeOf (.builtin "re.Pattern.search") = pure (.type "method_descriptor") := by show builtinType _ = _; rw [builtinType_eq_fast]; kernel_rfl
theorem entry_search : entryFor table "re.Pattern.search" = some Builtin.«re.Pattern.search» := entryFor_of_tree (by kernel_rfl)
theorem slot_group : Slot "re.Match" "group" "re.Match.group" :=
  .of (owner := "re.Match") (n := "group") (by rw [typeLookup_type, builtinLookup_eq_fast]; kernel_rfl) (by decide +kernel) (by decide +kernel) (by decide +kernel)
    (by first | exact .inl (by decide +kernel) | exact .inr (by decide +kernel)) (by rw [isSubtype_type]; kernel_rfl)
theorem type_group : typeOf (.builtin "re.Match.group") = pure (.type "method_descriptor") := by show builtinType _ = _; rw [builtinType_eq_fast]; kernel_rfl
theorem entry_group : entryFor table "re.Match.group" = some Builtin.«re.Match.group» := entryFor_of_tree (by kernel_rfl)
theorem owner_pat : Manifest.owners.lookup (String.ofList ['n', 'r', 'e', 't', 't', 'a', 'P', '.', 'e', 'r'].reverse) = some Manifest.sig_re_Pattern := by kernel_rfl
theorem owner_mat : Manifest.owners.lookup (String.ofList ['h', 'c', 't', 'a', 'M', '.', 'e', 'r'].reverse) = some Manifest.sig_re_Match := by kernel_rfl
theorem args_search (a b : Value) : argsOk "re.Pattern.search" ⟨[a, b], []⟩ := by
  unfold argsOk; rw [signature?_of (id := "re.Pattern.search") (n := ['h', 'c', 'r', 'a', 'e', 's']) (o := ['n', 'r', 'e', 't', 't', 'a', 'P', '.', 'e', 'r']) (by kernel_rfl) owner_pat]; kernel_rfl
theorem args_group (a b : Value) : argsOk "re.Match.group" ⟨[a, b], []⟩ := by
  unfold argsOk; rw [signature?_of (id := "re.Match.group") (n := ['p', 'u', 'o', 'r', 'g']) (o := ['h', 'c', 't', 'a', 'M', '.', 'e', 'r']) (by kernel_rfl) owner_mat]; kernel_rfl
section
variable {M : Model} {A : Around} {E : Value → Shared → Prop} {s : Shared}
theorem drive_wp {Q : Sre.M → Shared → Prop} : ∀ (k n : Nat) (m m' : Sre.M), m.runFor (4 * k) = m' → m'.outcome.isSome = true → 0 < k → k ≤ n → Q m' s → wpAny M A (Builtin.Re.reDrive n m) Q E s
  | 0, _, _, _, _, _, h, _, _ => absurd h (Nat.lt_irrefl _)
  | k + 1, 0, _, _, _, _, _, h, _ => absurd h (by omega)
  | k + 1, n + 1, m, m', h, ho, _, hn, q => by
    unfold Builtin.Re.reDrive
    show wpAny M A (if (m.runFor 4).outcome.isSome = true then pure (m.runFor 4) else do rule "sre.turn"; Builtin.Re.reDrive n (m.runFor 4)) Q E s
    have e : m.runFor (4 * (k + 1)) = (m.runFor 4).runFor (4 * k) := by rw [← runFor_add]; congr 1; omega
    rw [e] at h
    cases hs : (m.runFor 4).outcome.isSome with
    | true =>
      rw [if_pos rfl]
      have : (m.runFor 4).runFor (4 * k) = m.runFor 4 := by
        cases 4 * k with
        | zero => rfl
        | succ j =>
          show (if (m.runFor 4).outcome.isSome = true then m.runFor 4 else _) = _
          rw [if_pos hs]
      rw [this] at h
      rw [h]; exact wpAny_pure q
    | false =>
      rw [if_neg Bool.false_ne_true]
      refine wpAny_bind (wpAny_rule ?_)
      cases k with
      | zero =>
        exfalso
        have h : m.runFor 4 = m' := h
        rw [h, ho] at hs; cases hs
      | succ k => exact drive_wp (k + 1) n _ m' h ho (Nat.succ_pos _) (by omega) q
theorem rules_wp (f : Nat → PUnit → Sem (ForInStep PUnit)) (hf : ∀ i u (Q : ForInStep PUnit → Shared → Prop), Q (.yield ⟨⟩) s → wpAny M A (f i u) Q E s) {Q : PUnit → Shared → Prop} (q : Q ⟨⟩ s) : ∀ (l : List Nat), wpAny M A (forIn (m := Sem) l PUnit.unit f) Q E s
  | [] => wpAny_pure q
  | i :: l => by
    rw [List.forIn_cons]
    exact wpAny_bind (hf i _ _ (rules_wp f hf q l))
theorem end_wp {Q : Option Sre.M → Shared → Prop} {m m' : Sre.M} (h : m.runFor 32 = m') (ho : m'.outcome = some .matched) (q : Q (some m') s) : wpAny M A (Builtin.Re.reRunToEnd m) Q E s := by
  unfold Builtin.Re.reRunToEnd
  refine wpAny_bind (drive_wp 8 (2 ^ 64) m m' h (by rw [ho]; rfl) (by decide) (by decide) ?_)
  refine wpAny_bind (rules_wp _ (fun i u Q q => ?_) ?_ _)
  · split
    · exact wpAny_bind (wpAny_rule (wpAny_pure q))
    · exact wpAny_pure q
  · rw [ho]
    exact wpAny_pure q
end
abbrev spO (n e2 b3 e3 : Int) : Obj := { cls := .type "tuple", data := .seq #[rawInt 0, rawInt n, rawInt 0, rawInt 1, rawInt 1, rawInt e2, rawInt b3, rawInt e3] }
abbrev maO (x : Str) (t : Tok) (n : Int) (D : Addr) : Obj := { cls := .type "re.Match", data := .fields #[.str x t, .ref 76, rawInt 0, rawInt n, rawInt 3, .ref D] }
theorem nmA (text : Array Nat) (v : Sre.Seen) (x : Value) : Builtin.Re.reNewMatch (.ref 76) x 3 0 6 (mA31 text v) = (do
    let d ← newTuple [rawInt 0, rawInt 6, rawInt 0, rawInt 1, rawInt 1, rawInt 3, rawInt 4, rawInt 6]
    newFields "re.Match" [x, .ref 76, rawInt 0, rawInt 6, rawInt 3, d]) := by kernel_rfl
theorem nmB (text : Array Nat) (v : Sre.Seen) (x : Value) : Builtin.Re.reNewMatch (.ref 76) x 3 0 5 (mB31 text v) = (do
    let d ← newTuple [rawInt 0, rawInt 5, rawInt 0, rawInt 1, rawInt 1, rawInt 2, rawInt 3, rawInt 5]
    newFields "re.Match" [x, .ref 76, rawInt 0, rawInt 5, rawInt 3, d]) := by kernel_rfl
theorem nmC (text : Array Nat) (v : Sre.Seen) (x : Value) : Builtin.Re.reNewMatch (.ref 76) x 3 0 5 (mC31 text v) = (do
    let d ← newTuple [rawInt 0, rawInt 5, rawInt 0, rawInt 1, rawInt 1, rawInt 3, rawInt 3, rawInt 5]
    newFields "re.Match" [x, .ref 76, rawInt 0, rawInt 5, rawInt 3, d]) := by kernel_rfl
section
variable {w : World} {A : Around} {E : Value → Shared → Prop} {s : Shared} {Q : Value → Shared → Prop} {h₀ : Heap} {L : Addr} {m : Str → Option Value} {news : Led}
theorem made_wp {x : Str} {t : Tok} {n e2 b3 e3 : Int} {prog : Program} (F : Fr h₀ L s.heap m) (N : News h₀ L s.heap news)
   (k : ∀ Dm Dt h', Fr h₀ L h' m → News h₀ L h' ((Dm, maO x t n Dt) :: (Dt, spO n e2 b3 e3) :: news) → (∀ p ∈ news, p.1 < Dt) → Dt < Dm → Q (.ref Dm) { s with heap := h' }) :
   wpAny (model prog w) A (do
    let d ← newTuple [rawInt 0, rawInt n, rawInt 0, rawInt 1, rawInt 1, rawInt e2, rawInt b3, rawInt e3]
    newFields "re.Match" [.str x t, .ref 76, rawInt 0, rawInt n, rawInt 3, d]) Q E s := by
  refine wpAny_bind (newTuple_N F N (fun h1 F1 N1 => ?_) (by rw [sizeLine_eq]; show (8:Nat) ≤ _; decide))
  refine wpAny_newObj_type (k _ _ _ (F1.push _) (N1.push F1 _) (fun p hp => Heap.lt_size (N p hp).1) (Heap.lt_size (N1 _ (.head _)).1)) ?_
  show (6 : Nat) ≤ sizeLine + 2
  rw [sizeLine_eq]; decide
theorem sp_map {n e2 b3 e3 : Int} : Array.map Builtin.Re.reRawOf ((some #[rawInt 0, rawInt n, rawInt 0, rawInt 1, rawInt 1, rawInt e2, rawInt b3, rawInt e3]).getD #[]) = #[0, n, 0, 1, 1, e2, b3, e3] := by kernel_rfl
set_option maxHeartbeats 1000000 in
theorem group_body {x : Array Nat} {t tg : Tok} {n e2 b3 e3 g b e : Int} {Dm Dt : Addr} (hm : s.heap.get? Dm = some (maO ⟨x⟩ t n Dt)) (ht : s.heap.get? Dt = some (spO n e2 b3 e3)) {prog : Program}
   (hg : g = 1 ∧ b = 0 ∧ e = 1 ∨ g = 2 ∧ b = 1 ∧ e = e2 ∨ g = 3 ∧ b = b3 ∧ e = e3) (hb : (b < 0 || e < 0) = false) (hx : x.size ≤ sizeLine) (q : ∀ tk tk', Q (.str ⟨x.extract b.toNat e.toNat⟩ tk) { s with toks := tk' }) :
   wpAny (model prog w) A (Builtin.«re.Match.group» ⟨[.ref Dm, .int g tg], []⟩) (fun fin s' => ∃ v, fin = .done (.ret v) ∧ Q v s') E s := by
  show wpAny _ _ (do let x ← Builtin.Re.reFound (.ref Dm); ret (← Builtin.Re.reGroupText x (← Builtin.Re.reGroupNumber x (.int g tg)) .none)) _ _ _
  refine wpAny_bind ?_
  unfold Builtin.Re.reFound
  refine wpAny_bind ?_
  unfold fieldsOf
  refine wpAny_bind (wpAny_load hm (wpAny_pure ?_))
  refine wpAny_bind ?_
  unfold Builtin.Re.reRawItems
  refine wpAny_bind ?_
  show wpAny _ _ (seqItems? (.ref Dt)) _ _ _
  unfold seqItems?
  refine wpAny_bind (wpAny_load ht (wpAny_pure (wpAny_pure (wpAny_pure ?_))))
  have tail : ∀ gg : Nat, ((spO n e2 b3 e3).data = (spO n e2 b3 e3).data) → wpAny (model prog w) A (Builtin.Re.reGroupNumber ⟨#[.str ⟨x⟩ t, .ref 76, rawInt 0, rawInt n, rawInt 3, .ref Dt], #[0, n, 0, 1, 1, e2, b3, e3]⟩ (.int g tg)) (fun r s' => r = gg ∧ s' = s) E s → (#[0, n, 0, 1, 1, e2, b3, e3] : Array Int).getD (2 * gg) (-1) = b → (#[0, n, 0, 1, 1, e2, b3, e3] : Array Int).getD (2 * gg + 1) (-1) = e → 
    wpAny (model prog w) A (do ret (← Builtin.Re.reGroupText ⟨#[.str ⟨x⟩ t, .ref 76, rawInt 0, rawInt n, rawInt 3, .ref Dt], #[0, n, 0, 1, 1, e2, b3, e3]⟩ (← Builtin.Re.reGroupNumber ⟨#[.str ⟨x⟩ t, .ref 76, rawInt 0, rawInt n, rawInt 3, .ref Dt], #[0, n, 0, 1, 1, e2, b3, e3]⟩ (.int g tg)) .none)) (fun fin s' => ∃ v, fin = .done (.ret v) ∧ Q v s') E s := by
    intro gg _ h1 h2 h3
    refine wpAny_bind (wpAny_mono h1 (fun r s' h => ?_) fun _ _ h => h)
    obtain ⟨rfl, rfl⟩ := h
    refine wpAny_bind ?_
    unfold Builtin.Re.reGroupText
    dsimp only
    rw [h2, h3, hb, if_neg Bool.false_ne_true]
    show wpAny _ _ (mkStr ⟨x.extract b.toNat e.toNat⟩) _ _ _
    refine wpAny_mkStr (wpAny_pure ⟨_, rfl, q _ _⟩) ?_
    show (x.extract b.toNat e.toNat).size ≤ _
    rw [Array.size_extract]; omega
  rw [sp_map]
  rcases hg with ⟨rfl, rfl, rfl⟩ | ⟨rfl, rfl, rfl⟩ | ⟨rfl, rfl, rfl⟩
  · exact tail 1 rfl ((Looks.of_peek (K := []) (fun _ _ h => nomatch h) (by kernel_rfl)).here ⟨rfl, rfl⟩) rfl rfl
  · exact tail 2 rfl ((Looks.of_peek (K := []) (fun _ _ h => nomatch h) (by kernel_rfl)).here ⟨rfl, rfl⟩) rfl rfl
  · exact tail 3 rfl ((Looks.of_peek (K := []) (fun _ _ h => nomatch h) (by kernel_rfl)).here ⟨rfl, rfl⟩) rfl rfl
theorem group_S {x : Array Nat} {t tg : Tok} {n e2 b3 e3 g b e : Int} {Dm Dt : Addr} {prog : Program} (N : News h₀ L s.heap news) (hm : (Dm, maO ⟨x⟩ t n Dt) ∈ news) (ht : (Dt, spO n e2 b3 e3) ∈ news)
   (hg : g = 1 ∧ b = 0 ∧ e = 1 ∨ g = 2 ∧ b = 1 ∧ e = e2 ∨ g = 3 ∧ b = b3 ∧ e = e3) (hb : (b < 0 || e < 0) = false) (hx : x.size ≤ sizeLine) (q : ∀ tk tk', Q (.str ⟨x.extract b.toNat e.toNat⟩ tk) { s with toks := tk' }) :
   wpAny (model prog w) A (call (.builtin "re.Match.group") [.ref Dm, .int g tg]) Q E s :=
  wpAny_call_entry slot_group ⟨_, (N _ hm).1, rfl⟩ entry_group (group_body (N _ hm).1 (N _ ht).1 hg hb hx q) (args_group _ _)
theorem meth_group {x : Str} {t : Tok} {n : Int} {Dm Dt : Addr} {prog : Program} {pl : Sem Bool} {Q : Value × List Value → Shared → Prop} (N : News h₀ L s.heap news) (hm : (Dm, maO x t n Dt) ∈ news)
   (q : Q (.builtin "re.Match.group", [.ref Dm]) s) : wpAny (model prog w) A (getMethod (.ref Dm) "group" pl) Q E s :=
  getMethod_builtin ⟨_, (N _ hm).1, rfl⟩ pa_mat slot_group type_group (fun a e => by cases e; exact ⟨_, (N _ hm).1, rfl⟩) q
theorem re_at {K : Frag} {a : Addr} {o : Obj} (F : Fr h₀ L s.heap m) (X : K.In h₀) (e : K.lookup a = some o) : s.heap.get? a = some o := (X.keeps F.keep) _ _ e
theorem meth_search {prog : Program} {pl : Sem Bool} {Q : Value × List Value → Shared → Prop} (F : Fr h₀ L s.heap m) (X : (Mine.hd.heap_39 w.params).In h₀)
   (q : Q (.builtin "re.Pattern.search", [.ref 76]) s) : wpAny (model prog w) A (getMethod (.ref 76) "search" pl) Q E s :=
  getMethod_builtin ⟨_, re_at F X rfl, rfl⟩ pa_pat slot_search type_search (fun a e => by cases e; exact ⟨_, re_at F X rfl, rfl⟩) q
theorem tgtA {prog : Program} {a b c d e f : Nat} {t : Tok} : peek (Mine.hd.heap_39 w.params) ⟨prog, w.params⟩ (Builtin.Re.reTarget "re.Pattern.search" "search" ⟨[.ref 76, .str ⟨#[a, b, c, d, e, f]⟩ t], []⟩) = some ⟨.ref 76, .str ⟨#[a, b, c, d, e, f]⟩ t, tzCode, #[a, b, c, d, e, f], 0, 3, 0, 6⟩ := by kernel_rfl
theorem tgtB {prog : Program} {a b c d e : Nat} {t : Tok} : peek (Mine.hd.heap_39 w.params) ⟨prog, w.params⟩ (Builtin.Re.reTarget "re.Pattern.search" "search" ⟨[.ref 76, .str ⟨#[a, b, c, d, e]⟩ t], []⟩) = some ⟨.ref 76, .str ⟨#[a, b, c, d, e]⟩ t, tzCode, #[a, b, c, d, e], 0, 3, 0, 5⟩ := by kernel_rfl
theorem search_wp {x : Array Nat} {t : Tok} {lim : Nat} {n e2 b3 e3 : Int} {m' : Sre.M} (F : Fr h₀ L s.heap m) (X : (Mine.hd.heap_39 w.params).In h₀) (N : News h₀ L s.heap news)
   (hr : (Sre.forSearch tzCode x 3 0 lim false).runFor 32 = m') (ho : m'.outcome = some .matched)
   (ht : ∀ prog, peek (Mine.hd.heap_39 w.params) ⟨prog, w.params⟩ (Builtin.Re.reTarget "re.Pattern.search" "search" ⟨[.ref 76, .str ⟨x⟩ t], []⟩) = some ⟨.ref 76, .str ⟨x⟩ t, tzCode, x, 0, 3, 0, lim⟩)
   (hn : Builtin.Re.reNewMatch (.ref 76) (.str ⟨x⟩ t) 3 0 lim m' = (do
    let d ← newTuple [rawInt 0, rawInt n, rawInt 0, rawInt 1, rawInt 1, rawInt e2, rawInt b3, rawInt e3]
    newFields "re.Match" [.str ⟨x⟩ t, .ref 76, rawInt 0, rawInt n, rawInt 3, d]))
   (k : ∀ Dm Dt h', Fr h₀ L h' m → News h₀ L h' ((Dm, maO ⟨x⟩ t n Dt) :: (Dt, spO n e2 b3 e3) :: news) → (∀ p ∈ news, p.1 < Dt) → Dt < Dm → Q (.ref Dm) { s with heap := h' }) {prog : Program} :
   wpAny (model prog w) A (call (.builtin "re.Pattern.search") [.ref 76, .str ⟨x⟩ t]) Q E s := by
  refine wpAny_call_entry slot_search ⟨_, re_at F X rfl, rfl⟩ entry_search ?_ (args_search _ _)
  unfold Builtin.«re.Pattern.search»
  refine wpAny_bind ((Looks.of_peek (X.keeps F.keep) (ht _)).here ?_)
  unfold Builtin.Re.reAnswer
  refine wpAny_bind (end_wp hr ho ?_)
  dsimp only
  rw [hn]
  exact wpAny_bind (made_wp F N fun Dm Dt h' a b c d => wpAny_pure ⟨_, rfl, k Dm Dt h' a b c d⟩)
theorem dig_is {n : Nat} (h : n < 10) : Sre.isDigit (n + 48) = true := by
  have : n = 0 ∨ n = 1 ∨ n = 2 ∨ n = 3 ∨ n = 4 ∨ n = 5 ∨ n = 6 ∨ n = 7 ∨ n = 8 ∨ n = 9 := by omega
  rcases this with h | h | h | h | h | h | h | h | h | h <;> subst h <;> decide
end
end Mine
namespace Mine
theorem nb_mat : typeLookup (.type "re.Match") "__bool__" = pure none := by rw [typeLookup_type, builtinLookup_eq_fast]; kernel_rfl
theorem nl_mat : typeLookup (.type "re.Match") "__len__" = pure none := by rw [typeLookup_type, builtinLookup_eq_fast]; kernel_rfl
theorem truthy_mat {prog : Program} {w : World} {A : Around} {E : Value → Shared → Prop} {s : Shared} {a : Addr} {Q : Bool → Shared → Prop} (hT : s.TypeIs (.ref a) "re.Match") (q : Q true s) : wpAny (model prog w) A (truthy (.ref a)) Q E s := by
  unfold truthy
  first
    | refine wpAny_bind (wpAny_callSpecial?_none (name := Str.ofString "__bool__") hT nb_mat ?_)
    | refine wpAny_bind (wpAny_pure (wpAny_bind (wpAny_callSpecial?_none (name := Str.ofString "__bool__") hT nb_mat ?_)))
  first
    | refine wpAny_bind (wpAny_specialOf (name := Str.ofString "__len__") hT nl_mat ?_)
    | refine wpAny_bind (wpAny_pure (wpAny_bind (wpAny_specialOf (name := Str.ofString "__len__") hT nl_mat ?_)))
  first | exact wpAny_pure q | exact q
local macro_rules | `(tactic| walk_at "getMethod ref") => `(tactic| (refine Stop.mk ?_))
set_option maxRecDepth 100000 in
set_option maxHeartbeats 8000000 in
theorem off_gen (w : World) (x : Array Nat) (t1 : Tok) (own : Led) (sq : Bool) (lim : Nat) (n e2 b3 e3 hh mm : Int) (m' : Sre.M)
   (hr : (Sre.forSearch tzCode x 3 0 lim false).runFor 32 = m') (ho : m'.outcome = some .matched)
   (ht : ∀ prog, peek (Mine.hd.heap_39 w.params) ⟨prog, w.params⟩ (Builtin.Re.reTarget "re.Pattern.search" "search" ⟨[.ref 76, .str ⟨x⟩ t1], []⟩) = some ⟨.ref 76, .str ⟨x⟩ t1, tzCode, x, 0, 3, 0, lim⟩)
   (hn : Builtin.Re.reNewMatch (.ref 76) (.str ⟨x⟩ t1) 3 0 lim m' = (do
    let d ← newTuple [rawInt 0, rawInt n, rawInt 0, rawInt 1, rawInt 1, rawInt e2, rawInt b3, rawInt e3]
    newFields "re.Match" [.str ⟨x⟩ t1, .ref 76, rawInt 0, rawInt n, rawInt 3, d]))
   (hx : x.size ≤ sizeLine) (tz : Str) (htz : tz = ⟨x⟩) (hl : tz.length ≤ 6) (len2 : (⟨x.extract 1 e2.toNat⟩ : Str).length ≤ 640) (len3 : (⟨x.extract b3.toNat e3.toNat⟩ : Str).length ≤ 640) (hz1 : tz ≠ ⟨#[71, 77, 84]⟩) (hz2 : tz ≠ ⟨#[85, 84, 67]⟩) (hz3 : tz ≠ ⟨#[85, 84]⟩) (hz4 : tz ≠ ⟨#[90]⟩) (b2 : (b3 < 0 || e3 < 0) = false) (b1 : ((1:Int) < 0 || e2 < 0) = false)
   (i2 : PySem.intText? ⟨x.extract 1 e2.toNat⟩ = some hh) (i3 : PySem.intText? ⟨x.extract b3.toNat e3.toNat⟩ = some mm) (n3 : (⟨x.extract b3.toNat e3.toNat⟩ : Str).length ≠ 0)
   (s1 : ((⟨x.extract 0 1⟩ : Str) == Str.ofString "-") = sq) :
  Tell w 83 own [.str tz t1] 1 (fun r news' => ∃ t, r = .int (if sq = true then -(3600 * hh + 60 * mm) else 3600 * hh + 60 * mm) t ∧ news' = own) := by
  (((have hz : PySem.Challenge.rw_xg0042_01 = PySem.Challenge.rw_xg0042_01 ∧ Mine.hd.heap_39 = Mine.hd.heap_39 := by (k_fill; exact ⟨rfl, rfl⟩)); clear hz))
  unfold Tell
  intro p loose mean mg mb dp un gd cn cs aa ccd cl outer A₀ base h₀ L m s Q E B F X N T hk hd hu hret
  refine wpAny_call ?_
  ((k_dflt (refine' code_def ?k1e40 ?k2e40 ?k3e40 ?k4e40 ?k5e40 ?kAe40 ?kFe40 ?kKe40 ?k6e40 ?k7e40 ?k8e40 ?k9e40 ?kBe40 ?_ ?c2e40 ?c3e40 ?c4e40 ?c5e40; (case kAe40 => exact rfl); (case kFe40 => exact rfl); (case kKe40 => first | exact rfl | assumption); (case k1e40 => k_asm); (case k2e40 => k_asm); (case k3e40 => k_asm); (case k4e40 => k_asm); (case k5e40 => k_asm); (case k6e40 => k_is); (case k7e40 => k_is); (case k8e40 => ktr_room); (case k9e40 => first | exact BindsTo.of_eq rfl | exact binds_K (by k_in) rfl (by k_is) rfl rfl rfl | (refine' kp_binds ?kXe40 ?kPe40; (case kXe40 => k_in); (case kPe40 => intro S; with_unfolding_all rfl))); (case c5e40 => decide); (case kBe40 => exact locs rfl); (case c2e40 => exact rfl); (case c3e40 => exact rfl); (case c4e40 => exact rfl); k_whole; intro g' L' h' FG' F' N' B' X' T'; (try dsimp only); (try k_lift B'); (try k_fold)))); (with_unfolding_all (rename Fr _ _ _ _ => kF)); replace kF : Fr _ _ _ (fun y => List.lookup y [(Str.ofString "tz", .str tz t1)]) := kF
  (repeat' (first | (k_unfold; (try dsimp only)) | walk1 | (dsimp only; walk1) | (leave1; walk_say "STEP leave1"; try dsimp only) | fail "no step"))
  · rename (_ || _) = true => a
    simp [hz1, hz2, hz3, hz4] at a
  refine Stop.out ?_
  refine' meth_search (by assumption) (by assumption) ?_
  (repeat' (first | (k_unfold; (try dsimp only)) | walk1 | (dsimp only; walk1) | (leave1; walk_say "STEP leave1"; try dsimp only) | fail "no step"))
  subst htz
  refine' search_wp (by assumption) (by assumption) (by assumption) hr ho ht hn ?_
  intro Dm Dt hA FA NA lA lB
  (repeat' (first | (k_unfold; (try dsimp only)) | walk1 | (dsimp only; walk1) | (leave1; walk_say "STEP leave1"; try dsimp only) | fail "no step"))
  rename (News _ _ _ ((Dm, _) :: _)) => NB
  refine' truthy_mat ⟨_, (NB _ (.head _)).1, rfl⟩ ?_
  (repeat' (first | (k_unfold; (try dsimp only)) | walk1 | (dsimp only; walk1) | (leave1; walk_say "STEP leave1"; try dsimp only) | fail "no step"))
  rename (News _ _ _ ((Dm, _) :: _)) => NB
  refine Stop.out ?_
  refine' meth_group NB (.head _) ?_
  (repeat' (first | (k_unfold; (try dsimp only)) | walk1 | (dsimp only; walk1) | (leave1; walk_say "STEP leave1"; try dsimp only) | fail "no step"))
  rename (News _ _ _ ((Dm, _) :: _)) => NC
  refine' group_S NC (.head _) (.tail _ (.head _)) (.inr (.inl ⟨rfl, rfl, rfl⟩)) b1 hx ?_
  intro tA tB
  (repeat' (first | (k_unfold; (try dsimp only)) | walk1 | (dsimp only; walk1) | (leave1; walk_say "STEP leave1"; try dsimp only) | fail "no step"))
  refine' KIN.call_text i2 len2 ?_
  (repeat' (first | (k_unfold; (try dsimp only)) | walk1 | (dsimp only; walk1) | (leave1; walk_say "STEP leave1"; try dsimp only) | fail "no step"))
  rename (News _ _ _ ((Dm, _) :: _)) => ND
  refine Stop.out ?_
  refine' meth_group ND (.head _) ?_
  (repeat' (first | (k_unfold; (try dsimp only)) | walk1 | (dsimp only; walk1) | (leave1; walk_say "STEP leave1"; try dsimp only) | fail "no step"))
  rename (News _ _ _ ((Dm, _) :: _)) => NE
  refine' group_S NE (.head _) (.tail _ (.head _)) (.inr (.inr ⟨rfl, rfl, rfl⟩)) b2 hx ?_
  intro tC tD
  (repeat' (first | (k_unfold; (try dsimp only)) | walk1 | (dsimp only; walk1) | (leave1; walk_say "STEP leave1"; try dsimp only) | fail "no step"))
  rotate_left
  · (exfalso; omega)
  rename (News _ _ _ ((Dm, _) :: _)) => NF
  refine Stop.out ?_
  refine' meth_group NF (.head _) ?_
  (repeat' (first | (k_unfold; (try dsimp only)) | walk1 | (dsimp only; walk1) | (leave1; walk_say "STEP leave1"; try dsimp only) | fail "no step"))
  rename (News _ _ _ ((Dm, _) :: _)) => NG
  refine' group_S NG (.head _) (.tail _ (.head _)) (.inr (.inr ⟨rfl, rfl, rfl⟩)) b2 hx ?_
  intro tE tF
  (repeat' (first | (k_unfold; (try dsimp only)) | walk1 | (dsimp only; walk1) | (leave1; walk_say "STEP leave1"; try dsimp only) | fail "no step"))
  rename (News _ _ _ ((Dm, _) :: _)) => NH
  refine Stop.out ?_
  refine' meth_group NH (.head _) ?_
  (repeat' (first | (k_unfold; (try dsimp only)) | walk1 | (dsimp only; walk1) | (leave1; walk_say "STEP leave1"; try dsimp only) | fail "no step"))
  rename (News _ _ _ ((Dm, _) :: _)) => NI
  refine' group_S NI (.head _) (.tail _ (.head _)) (.inl ⟨rfl, rfl, rfl⟩) rfl hx ?_
  intro tG tH
  (repeat' (first | (k_unfold; (try dsimp only)) | walk1 | (dsimp only; walk1) | (leave1; walk_say "STEP leave1"; try dsimp only) | fail "no step"))
  · (rename (_ == Str.ofString "-") = true => hq)
    (with_unfolding_all rename Fr _ _ _ _ => kF)
    (with_unfolding_all rename News _ _ _ _ => kN)
    have hsq : sq = true := by rw [← s1]; exact hq
    subst hsq
    exact hret _ _ _ _ kF (fun p hp => kN p (.tail _ (.tail _ hp))) ⟨_, rfl, rfl⟩
  · (rename (_ == Str.ofString "-") = false => hq)
    (with_unfolding_all rename Fr _ _ _ _ => kF)
    (with_unfolding_all rename News _ _ _ _ => kN)
    have hsq : sq = false := by rw [← s1]; exact hq
    subst hsq
    exact hret _ _ _ _ kF (fun p hp => kN p (.tail _ (.tail _ hp))) ⟨_, rfl, rfl⟩
end Mine
namespace Mine
theorem it2 : ∀ x, x < 10 → ∀ y, y < 10 → PySem.intText? ⟨#[48 + x, 48 + y]⟩ = some ((10 * x + y : Nat) : Int) := by decide +kernel
theorem it1 : ∀ x, x < 10 → PySem.intText? ⟨#[48 + x]⟩ = some ((x : Nat) : Int) := by decide +kernel
theorem isd : ∀ x, x < 10 → Sre.isDigit (48 + x) = true := by decide +kernel
theorem offA (w : World) (t1 : Tok) (own : Led) (sq : Bool) (a b c d : Nat) (ha : a < 10) (hb : b < 10) (hc : c < 10) (hd : d < 10) :
  Tell w 83 own [.str ⟨#[if sq then 45 else 43, 48 + a, 48 + b, 58, 48 + c, 48 + d]⟩ t1] 1 (fun r news' => ∃ t, r = .int (if sq = true then -(3600 * ((10 * a + b : Nat) : Int) + 60 * ((10 * c + d : Nat) : Int)) else 3600 * ((10 * a + b : Nat) : Int) + 60 * ((10 * c + d : Nat) : Int)) t ∧ news' = own) := by
  obtain ⟨s', hr⟩ := runA (s0 := if sq then 45 else 43) (by cases sq <;> simp) (isd a ha) (isd b hb) (isd c hc) (isd d hd)
  refine off_gen w _ t1 own sq 6 6 3 4 6 _ _ _ hr rfl (fun prog => tgtA) (nmA _ _ _) ?_ _ rfl ?_ ?_ ?_ ?_ ?_ ?_ ?_ rfl rfl (it2 a ha b hb) (it2 c hc d hd) ?_ ?_
  · rw [sizeLine_eq]; show (6:Nat) ≤ _; decide
  · show (6:Nat) ≤ 6; decide
  · show (2:Nat) ≤ _; decide
  · show (2:Nat) ≤ _; decide
  · intro h; cases sq <;> simp at h
  · intro h; cases sq <;> simp at h
  · intro h; cases sq <;> simp at h
  · intro h; cases sq <;> simp at h
  · show (2:Nat) ≠ 0; decide
  · cases sq
    · exact (by decide : ((⟨#[43]⟩ : Str) == Str.ofString "-") = false)
    · exact (by decide : ((⟨#[45]⟩ : Str) == Str.ofString "-") = true)
theorem offB (w : World) (t1 : Tok) (own : Led) (sq : Bool) (a c d : Nat) (ha : a < 10) (hc : c < 10) (hd : d < 10) :
  Tell w 83 own [.str ⟨#[if sq then 45 else 43, 48 + a, 58, 48 + c, 48 + d]⟩ t1] 1 (fun r news' => ∃ t, r = .int (if sq = true then -(3600 * ((a : Nat) : Int) + 60 * ((10 * c + d : Nat) : Int)) else 3600 * ((a : Nat) : Int) + 60 * ((10 * c + d : Nat) : Int)) t ∧ news' = own) := by
  obtain ⟨s', hr⟩ := runB (s0 := if sq then 45 else 43) (by cases sq <;> simp) (isd a ha) (isd c hc) (isd d hd)
  refine off_gen w _ t1 own sq 5 5 2 3 5 _ _ _ hr rfl (fun prog => tgtB) (nmB _ _ _) ?_ _ rfl ?_ ?_ ?_ ?_ ?_ ?_ ?_ rfl rfl (it1 a ha) (it2 c hc d hd) ?_ ?_
  · rw [sizeLine_eq]; show (5:Nat) ≤ _; decide
  · show (5:Nat) ≤ 6; decide
  · show (1:Nat) ≤ _; decide
  · show (2:Nat) ≤ _; decide
  · intro h; cases sq <;> simp at h
  · intro h; cases sq <;> simp at h
  · intro h; cases sq <;> simp at h
  · intro h; cases sq <;> simp at h
  · show (2:Nat) ≠ 0; decide
  · cases sq
    · exact (by decide : ((⟨#[43]⟩ : Str) == Str.ofString "-") = false)
    · exact (by decide : ((⟨#[45]⟩ : Str) == Str.ofString "-") = true)
theorem offC (w : World) (t1 : Tok) (own : Led) (sq : Bool) (a b c d : Nat) (ha : a < 10) (hb : b < 10) (hc : c < 10) (hd : d < 10) :
  Tell w 83 own [.str ⟨#[if sq then 45 else 43, 48 + a, 48 + b, 48 + c, 48 + d]⟩ t1] 1 (fun r news' => ∃ t, r = .int (if sq = true then -(3600 * ((10 * a + b : Nat) : Int) + 60 * ((10 * c + d : Nat) : Int)) else 3600 * ((10 * a + b : Nat) : Int) + 60 * ((10 * c + d : Nat) : Int)) t ∧ news' = own) := by
  obtain ⟨s', hr⟩ := runC (s0 := if sq then 45 else 43) (by cases sq <;> simp) (isd a ha) (isd b hb) (isd c hc) (isd d hd)
  refine off_gen w _ t1 own sq 5 5 3 3 5 _ _ _ hr rfl (fun prog => tgtB) (nmC _ _ _) ?_ _ rfl ?_ ?_ ?_ ?_ ?_ ?_ ?_ rfl rfl (it2 a ha b hb) (it2 c hc d hd) ?_ ?_
  · rw [sizeLine_eq]; show (5:Nat) ≤ _; decide
  · show (5:Nat) ≤ 6; decide
  · show (2:Nat) ≤ _; decide
  · show (2:Nat) ≤ _; decide
  · intro h; cases sq <;> simp at h
  · intro h; cases sq <;> simp at h
  · intro h; cases sq <;> simp at h
  · intro h; cases sq <;> simp at h
  · show (2:Nat) ≠ 0; decide
  · cases sq
    · exact (by decide : ((⟨#[43]⟩ : Str) == Str.ofString "-") = false)
    · exact (by decide : ((⟨#[45]⟩ : Str) == Str.ofString "-") = true)
theorem off_tell (w : World) (t1 : Tok) (own : Led) (sq : Bool) (rest : Int) (h m : Nat) (hh : h < 64) (hm : m < 64) :
  Tell w 83 own [.str ⟨(zoneL sq rest h m).toArray⟩ t1] 1 (fun r news' => ∃ t, r = .int (if sq = true then -(3600 * (h : Int) + 60 * (m : Int)) else 3600 * (h : Int) + 60 * (m : Int)) t ∧ news' = own) := by
  have eh : 10 * (h / 10) + h % 10 = h := by omega
  have em : 10 * (m / 10) + m % 10 = m := by omega
  unfold zoneL
  simp only [Int.toNat_natCast]
  by_cases h1 : rest % 3 = 2 ∧ (h : Int) < 10
  · have h2 : ¬ rest % 3 = 1 := by omega
    rw [if_pos h1, if_neg h2]
    have := offB w t1 own sq h (m / 10) (m % 10) (by omega) (by omega) (by omega)
    rw [em] at this
    exact this
  · rw [if_neg h1]
    by_cases h2 : rest % 3 = 1
    · rw [if_pos h2]
      have := offC w t1 own sq (h / 10) (h % 10) (m / 10) (m % 10) (by omega) (by omega) (by omega) (by omega)
      rw [em, eh] at this
      exact this
    · rw [if_neg h2]
      have := offA w t1 own sq (h / 10) (h % 10) (m / 10) (m % 10) (by omega) (by omega) (by omega) (by omega)
      rw [em, eh] at this
      exact this
end Mine
namespace Mine
section
variable {prog : Program} {w : World} {A : Around} {E : Value → Shared → Prop} {Q : Flow → Shared → Prop} {s : Shared} {env : Env} {h₀ : Heap} {x : Str} {body : List Stmt}
/-- what a turn of a for over a range must bring about -/
def FEnd (h₀ : Heap) (L : Addr) (s : Shared) {σ : Type} (x : Str) (Ld : σ → Led) (ps : σ → List (Str × Value)) (stored : List Str) (m₀ : Str → Option Value) (P : Nat → σ → Prop) (own : Led) (Q : Flow → Shared → Prop) (i : Nat) (c : σ) (f : Flow) (s₃ : Shared) : Prop :=
  match f with
  | .ret v => Q (.ret v) s₃
  | .brk => Q .next s₃
  | _ => ∃ h' tk m₂ news₂ c', s₃ = { s with heap := h', toks := tk } ∧ Fr h₀ L h' m₂ ∧ News h₀ L h' news₂ ∧ (∀ p ∈ Ld c', p ∈ news₂) ∧ (∀ p ∈ own, p ∈ news₂) ∧ (∀ p ∈ Ld c', p.1 ∈ (Ld c).map (·.1) ∨ p.2.cls ≠ .type "range_iterator" ∨ ∀ q ∈ own, q.1 ≠ p.1) ∧ Bnd m₂ (ps c') ∧ (∀ z, z ≠ x → stored.contains z = false → m₂ z = m₀ z) ∧ P i c'
theorem FEnd.intro {L : Addr} {σ : Type} {Ld : σ → Led} {ps : σ → List (Str × Value)} {stored : List Str} {m₀ : Str → Option Value} {P : Nat → σ → Prop} {own : Led} {i : Nat} {c : σ} (c' : σ) {h' : Heap} {tk : Nat} {m₂ : Str → Option Value} {news₂ : Led}
   (F : Fr h₀ L h' m₂) (N : News h₀ L h' news₂) (h1 : ∀ p ∈ Ld c', p ∈ news₂) (h0 : ∀ p ∈ own, p ∈ news₂) (hc : ∀ p ∈ Ld c', p.1 ∈ (Ld c).map (·.1) ∨ p.2.cls ≠ .type "range_iterator" ∨ ∀ q ∈ own, q.1 ≠ p.1) (h2 : Bnd m₂ (ps c')) (h3 : ∀ z, z ≠ x → stored.contains z = false → m₂ z = m₀ z) (h5 : P i c') :
   FEnd h₀ L s x Ld ps stored m₀ P own Q i c .next { s with heap := h', toks := tk } := ⟨h', tk, m₂, news₂, c', rfl, F, N, h1, h0, hc, h2, h3, h5⟩
theorem for_range {σ : Type} {r : Addr} {a₀ b₀ : Int} {t₀ u₀ v₀ : Tok} {n : Nat} {m₀ : Str → Option Value} {news : Led} (Ld : σ → Led) (ps : σ → List (Str × Value)) (stored : List Str) (P : Nat → σ → Prop) (c₀ : σ)
    (hh : A.handled = none) (hr : IsRange s.heap r a₀ b₀ 1 t₀ u₀ v₀) (hsmall : Builtin.Range.small a₀ b₀ 1 = true) (hn : Builtin.Range.rangeSize a₀ b₀ 1 = (n : Int))
    (F : Fr h₀ env.locals s.heap m₀) (N : News h₀ env.locals s.heap news) (hl : ∀ p ∈ Ld c₀, p ∈ news) (hp : Bnd m₀ (ps c₀)) (hP : P 0 c₀)
    (turn : ∀ i c u h tk t own, i < n → P i c → OwnOff own ((Ld c).map (·.1)) → Fr h₀ env.locals h (fun y => if y = x then some (.int (a₀ + (i : Int)) t) else lm stored u m₀ (ps c) y) → News h₀ env.locals h (Ld c ++ own) →
      wpAny (model prog w) A (execs body env) (FEnd h₀ env.locals s x Ld ps stored m₀ P own Q (i + 1) c) E { s with heap := h, toks := tk })
    (done : ∀ c u h tk, P n c → Fr h₀ env.locals h (fun y => if y = x then u y else lm stored u m₀ (ps c) y) → News h₀ env.locals h (Ld c) → Q .next { s with heap := h, toks := tk }) :
    wpAny (model prog w) A (pyIter (.ref r)) (fun it s₂ => LoopAtV prog w A h₀ env x body Q E it s₂) E s := by
  refine wpAny_pyIter_range hr hsmall ?_
  have W : Walks prog w A s.heap.objs.size [s.heap.objs.size] [s.heap.objs.size] n (fun i v => i < n ∧ ∃ t, v = .int (a₀ + i * 1) t)
      (fun i h => IsRangeIter h s.heap.objs.size (a₀ + (i : Nat) * 1) ((n : Int) - (i : Nat)) 1) := (Walks.range hh _ a₀ 1 n).bound
  let J : Nat → (Str → Option Value) → Led → Prop := fun i m nx => ∃ c, nx = Ld c ∧ Bnd m (ps c) ∧ (∀ z, z ≠ x → stored.contains z = false → m z = m₀ z) ∧ P i c
  have hfresh : h₀.get? s.heap.objs.size = none := by
    cases e : h₀.get? s.heap.objs.size with
    | none => rfl
    | some o => exact absurd (Heap.lt_size (F.keep _ o e)) (Nat.lt_irrefl _)
  have F1 := F.push ({ cls := .type "range_iterator", dict := none, data := .fields #[rawInt a₀, rawInt (Builtin.Range.rangeSize a₀ b₀ 1), rawInt 1], slots := #[] } : Obj)
  refine ⟨s.heap.objs.size, [s.heap.objs.size], [s.heap.objs.size], n, _, _, m₀, Ld c₀, J, rfl, W, ?_, ?_, ?_, ?_, F.push _, fun p hp => ⟨Heap.get?_push_of_some _ (N p (hl p hp)).1, (N p (hl p hp)).2⟩, ⟨c₀, rfl, hp, fun _ _ _ => rfl, hP⟩, ?_, ?_⟩
  · intro hm
    exact absurd F.ns.lt ((List.mem_singleton.mp hm) ▸ Nat.lt_irrefl _)
  · intro b hb
    rw [List.mem_singleton.mp hb]; exact hfresh
  · intro p hp hm
    exact absurd (Heap.lt_size (N p (hl p hp)).1) ((List.mem_singleton.mp hm) ▸ Nat.lt_irrefl _)
  · show IsRangeIter _ _ _ _ _; rw [hn]; simpa using Heap.get?_push_size _ rfl
  · rintro i v m₁ news₁ s₁ own ⟨hh', tk', rfl⟩ hin ⟨_, t, rfl⟩ ⟨c, rfl, q1, q2, q3⟩ hoff hown hat hcov hst F₁ N₁
    have hI : ∃ o, (s.heap.objs.size, o) ∈ own ∧ o.cls = .type "range_iterator" := ⟨_, hcov _ (.head _) hfresh _ hst, rfl⟩
    obtain ⟨oI, hoI, hcI⟩ := hI
    have hsep : OwnOff own ((Ld c).map (·.1)) := by
      intro p hp b hb e
      obtain ⟨q, hq, rfl⟩ := List.mem_map.mp hb
      exact hoff q hq (e ▸ hown p hp)
    have N₂ : News h₀ env.locals hh' (Ld c ++ own) := fun p hp => N₁ p ((List.mem_append.mp hp).elim (fun h => List.mem_append.mpr (.inr h)) fun h => List.mem_append.mpr (.inl h))
    have em : (fun y => if y = x then some (Value.int (a₀ + ((i : Nat) : Int)) t) else lm stored m₁ m₀ (ps c) y) = fun y => if y = x then some (Value.int (a₀ + (i : Nat) * 1) t) else m₁ y := by
      funext y
      by_cases hy : y = x
      · rw [if_pos hy, if_pos hy, Int.mul_one]
      · rw [if_neg hy, if_neg hy]
        refine kstB_eq q1.all fun _ => ?_
        show (if stored.contains y = true then m₁ y else m₀ y) = m₁ y
        cases h3 : stored.contains y with
        | true => simp
        | false => simp; exact (q2 y hy h3).symm
    have fin : ∀ s₂, (∃ h' tk m₂ news₂ c', s₂ = { s with heap := h', toks := tk } ∧ Fr h₀ env.locals h' m₂ ∧ News h₀ env.locals h' news₂ ∧ (∀ p ∈ Ld c', p ∈ news₂) ∧ (∀ p ∈ own, p ∈ news₂) ∧ (∀ p ∈ Ld c', p.1 ∈ (Ld c).map (·.1) ∨ p.2.cls ≠ .type "range_iterator" ∨ ∀ q ∈ own, q.1 ≠ p.1) ∧ Bnd m₂ (ps c') ∧ (∀ z, z ≠ x → stored.contains z = false → m₂ z = m₀ z) ∧ P (i + 1) c') →
        LoopStepU h₀ env.locals [s.heap.objs.size] own (J (i + 1)) { s with heap := hh', toks := tk' } .next s₂ := by
      rintro s₂ ⟨h', tk, m₂, news₂, c', rfl, F', N', hn', ho, hc, r1, r2, r3⟩
      refine ⟨rfl, h', tk, m₂, Ld c', rfl, F', fun p hp => N' p ((List.mem_append.mp hp).elim (ho p) (hn' p)), fun p hp hm => ?_, c', rfl, r1, r2, r3⟩
      rcases hc p hp with h | h | h
      · obtain ⟨q, hq, e⟩ := List.mem_map.mp h
        exact hoff q hq (by rw [e]; exact hm)
      · have e1 := (N' p (hn' p hp)).1
        rw [List.mem_singleton.mp hm, (N' _ (ho _ hoI)).1] at e1
        exact h ((Option.some.inj e1) ▸ hcI)
      · exact h _ hoI (List.mem_singleton.mp hm).symm
    refine wpAny_mono (turn i c m₁ hh' tk' t own hin q3 hsep (em ▸ F₁) N₂) (fun f s₂ p => ?_) fun _ _ e => e
    cases f with
    | ret v => exact .ret p
    | brk => exact .brk p
    | next => exact .next (fin _ p)
    | cont => exact .cont (fin _ p)
  · rintro h' tk m' news' F' N' _ ⟨c, rfl, q1, q2, q3⟩
    refine done c m' h' tk q3 ?_ N'
    have em : (fun y => if y = x then m' y else lm stored m' m₀ (ps c) y) = m' := by
      funext y
      by_cases hy : y = x
      · rw [if_pos hy]
      · rw [if_neg hy]
        refine kstB_eq q1.all fun _ => ?_
        show (if stored.contains y = true then m' y else m₀ y) = m' y
        cases h3 : stored.contains y with
        | true => simp
        | false => simp; exact (q2 y hy h3).symm
    rw [em]; exact F'
end
theorem off_updf {x : Str} {v m m₀ : Str → Option Value} {stored : List Str} (hx : stored.contains x = true) (h : ∀ z, stored.contains z = false → m z = m₀ z) : ∀ z, stored.contains z = false → (if z = x then v z else m z) = m₀ z := by
  intro z hz
  have : z ≠ x := by rintro rfl; rw [hx] at hz; cases hz
  rw [if_neg this]; exact h z hz
theorem offx_x {x : Str} {stored : List Str} {v : Option Value} {m m₀ : Str → Option Value} (r : ∀ z, z ≠ x → stored.contains z = false → m z = m₀ z) : ∀ z, z ≠ x → stored.contains z = false → (if z = x then v else m z) = m₀ z :=
  fun z h1 h2 => by rw [if_neg h1]; exact r z h1 h2
theorem offx_upd {x k : Str} {stored : List Str} {v : Option Value} {m m₀ : Str → Option Value} (hk : stored.contains k = true) (r : ∀ z, z ≠ x → stored.contains z = false → m z = m₀ z) : ∀ z, z ≠ x → stored.contains z = false → (if z = k then v else m z) = m₀ z :=
  fun z h1 h2 => by
    have : z ≠ k := by rintro rfl; rw [hk] at h2; cases h2
    rw [if_neg this]; exact r z h1 h2
theorem offx_lm {x : Str} {stored : List Str} {u m₀ : Str → Option Value} {ps : List (Str × Value)} (h : (ps.all fun p => stored.contains p.1) = true) : ∀ z, z ≠ x → stored.contains z = false → lm stored u m₀ ps z = m₀ z := fun z _ h2 => off_lm h z h2
end Mine
namespace Mine
abbrev Tab := Option (Addr × Obj)
def tabLed : Tab → Led
  | none => [(47, tabObj #[])]
  | some q => [(47, tabHit q.1), q]
def TabOk : Tab → Prop
  | none => True
  | some q => OkC q.2
/-- lists and cells -/
def Shp (l : Led) : Prop := ∀ p ∈ l, (∃ xs n, p.2.data = .seq xs n) ∨ ∃ v, p.2.data = .cell v
theorem News.ne' {h₀ h : Heap} {L : Addr} {l : Led} (N : News h₀ L h l) {p q : Addr × Obj} (hp : p ∈ l) (hq : q ∈ l) (h0 : p.2 ≠ q.2) : p.1 ≠ q.1 := by
  intro e
  have a := (N p hp).1
  rw [e, (N q hq).1] at a
  exact h0 (Option.some.inj a).symm
theorem shp_ne {o o' : Obj} (h : (∃ xs n, o.data = .seq xs n) ∨ ∃ v, o.data = .cell v) (h' : ∃ vs, o'.data = .fields vs) : o ≠ o' := by
  rintro rfl
  obtain ⟨vs, e⟩ := h'
  rcases h with ⟨xs, n, e'⟩ | ⟨v, e'⟩ <;> rw [e] at e' <;> cases e'
theorem tabObj_f (xs : Array Value) : ∃ vs, (tabObj xs).data = .fields vs := ⟨_, rfl⟩
theorem tabLed_f {tb : Tab} (h : TabOk tb) : ∀ p ∈ tabLed tb, ∃ vs, p.2.data = .fields vs := by
  cases tb with
  | none => intro p hp; rw [List.mem_singleton.mp hp]; exact tabObj_f _
  | some q =>
    refine List.forall_mem_cons.mpr ⟨tabObj_f _, List.forall_mem_cons.mpr ⟨?_, fun p hp => nomatch hp⟩⟩
    obtain ⟨vs, t, e, _⟩ := h
    exact ⟨vs, e⟩
theorem tab_off {h₀ h : Heap} {L : Addr} {l : Led} (N : News h₀ L h l) {tb : Tab} (h : TabOk tb) (ht : ∀ p ∈ tabLed tb, p ∈ l) {a : Addr} {o : Obj} (ha : (a, o) ∈ l) (hs : (∃ xs n, o.data = .seq xs n) ∨ ∃ v, o.data = .cell v) : OwnOff (tabLed tb) [a] := by
  intro p hp b hb e
  rw [List.mem_singleton.mp hb] at e
  exact News.ne' N ha (ht p hp) (shp_ne hs (tabLed_f h p hp)) e.symm
theorem i2dT (w : World) (a n : Int) (ta tn : Tok) (own : Led) (tb : Tab) (hok : TabOk tb) (hsh : Shp own) (ha : 0 < a) (hn1 : 1 ≤ n) (hn2 : n ≤ 1000) (hkk : ((Builtin.Int.intBits a : Int) + n - 1) / n ≤ 1000) :
  Tell w 52 (tabLed tb ++ own) [.int a ta, .int n tn] 13 (fun r news' => ∃ D vs ep tb', r = .ref D ∧ TabOk tb' ∧ IntsAre vs (digs a n.toNat (((Builtin.Int.intBits a : Int) + n - 1) / n).toNat) ∧ news' = (D, listOf vs.toArray ep) :: (tabLed tb' ++ own) ∧ ∀ p ∈ own, p.1 < D) := by
  unfold Tell
  intro p loose mean mg mb dp un gd cn cs aa ccd cl outer A₀ base h₀ L m s Q E B F X N T hk hd hu hret
  have h47 : OwnOff own [47] := by
    intro q hq b hb e
    rw [List.mem_singleton.mp hb] at e
    cases tb with
    | none => exact News.ne' N (p := q) (q := (47, tabObj #[])) (.tail _ hq) (.head _) (shp_ne (hsh q hq) (tabObj_f _)) e
    | some c => exact News.ne' N (p := q) (q := (47, tabHit c.1)) (.tail _ (.tail _ hq)) (.head _) (shp_ne (hsh q hq) (tabObj_f _)) e
  have out : ∀ r news' h' tk', Fr h₀ L h' m → News h₀ L h' news' → OutD own (digs a n.toNat (((Builtin.Int.intBits a : Int) + n - 1) / n).toNat) r news' → Q r { s with heap := h', toks := tk' } := by
    rintro r news' h' tk' F' N' ⟨D, c, oc, vs, ep, rfl, hoc, hi, rfl, hlt, _⟩
    exact hret _ _ h' tk' F' N' ⟨D, vs, ep, some (c, oc), rfl, hoc, hi, rfl, hlt⟩
  cases tb with
  | none => exact Tell.use (i2d w a n ta tn own ha hn1 hn2 hkk h47) B F X N T hk hd hu out
  | some c =>
    obtain ⟨c1, oc1⟩ := c
    have N : News h₀ L s.heap ((47, tabHit c1) :: (c1, oc1) :: own) := N
    have hoc : OkC oc1 := hok
    have hf : ∃ vs, oc1.data = .fields vs := by obtain ⟨vs, t, e, _⟩ := hoc; exact ⟨vs, e⟩
    refine Tell.use (i2d2 w own c1 oc1 hoc ?_ ?_ a n ta tn ha hn1 hn2 hkk h47) B F X N T hk hd hu out
    · refine News.ne' N (p := (c1, oc1)) (q := (47, tabHit c1)) (.tail _ (.head _)) (.head _) ?_
      intro eo
      obtain ⟨vs, t, e1, e2⟩ := hoc
      have eo : oc1 = tabHit c1 := eo
      rw [eo] at e1
      injection e1 with e1
      rw [← e1] at e2
      exact nomatch (show some (Value.int 4 0) = some (Value.str (Str.ofString "_int2digits.<locals>.inner") t) from e2)
    · intro q hq
      exact News.ne' N (p := q) (q := (c1, oc1)) (.tail _ (.tail _ hq)) (.tail _ (.head _)) (shp_ne (hsh q hq) hf)
theorem i2dU (w : World) (a n : Int) (ta tn : Tok) (own : Led) (tb : Tab) (hok : TabOk tb) (hsh : ∀ p ∈ own, ∀ q ∈ tabLed tb, p.1 ≠ q.1) (ha : 0 < a) (hn1 : 1 ≤ n) (hn2 : n ≤ 1000) (hkk : ((Builtin.Int.intBits a : Int) + n - 1) / n ≤ 1000) :
  Tell w 52 (tabLed tb ++ own) [.int a ta, .int n tn] 13 (fun r news' => ∃ D vs ep q, r = .ref D ∧ OkC q.2 ∧ IntsAre vs (digs a n.toNat (((Builtin.Int.intBits a : Int) + n - 1) / n).toNat) ∧ news' = (D, listOf vs.toArray ep) :: (tabLed (some q) ++ own) ∧ (∀ p ∈ own, p.1 < D) ∧ ∀ p ∈ own, p.1 ≠ q.1) := by
  unfold Tell
  intro p loose mean mg mb dp un gd cn cs aa ccd cl outer A₀ base h₀ L m s Q E B F X N T hk hd hu hret
  have h47 : OwnOff own [47] := by
    intro q hq b hb e
    rw [List.mem_singleton.mp hb] at e
    cases tb with
    | none => exact hsh q hq _ (.head _) e
    | some c => exact hsh q hq _ (.head _) e
  have out : ∀ r news' h' tk', Fr h₀ L h' m → News h₀ L h' news' → OutD own (digs a n.toNat (((Builtin.Int.intBits a : Int) + n - 1) / n).toNat) r news' → Q r { s with heap := h', toks := tk' } := by
    rintro r news' h' tk' F' N' ⟨D, c, oc, vs, ep, rfl, hoc, hi, rfl, hlt, _, _, _, hc⟩
    exact hret _ _ h' tk' F' N' ⟨D, vs, ep, (c, oc), rfl, hoc, hi, rfl, hlt, hc⟩
  cases tb with
  | none => exact Tell.use (i2d w a n ta tn own ha hn1 hn2 hkk h47) B F X N T hk hd hu out
  | some c =>
    obtain ⟨c1, oc1⟩ := c
    have N : News h₀ L s.heap ((47, tabHit c1) :: (c1, oc1) :: own) := N
    have hoc : OkC oc1 := hok
    refine Tell.use (i2d2 w own c1 oc1 hoc ?_ (fun q hq => hsh q hq _ (.tail _ (.head _))) a n ta tn ha hn1 hn2 hkk h47) B F X N T hk hd hu out
    refine News.ne' N (p := (c1, oc1)) (q := (47, tabHit c1)) (.tail _ (.head _)) (.head _) ?_
    intro eo
    obtain ⟨vs, t, e1, e2⟩ := hoc
    have eo : oc1 = tabHit c1 := eo
    rw [eo] at e1
    injection e1 with e1
    rw [← e1] at e2
    exact nomatch (show some (Value.int 4 0) = some (Value.str (Str.ofString "_int2digits.<locals>.inner") t) from e2)
end Mine
namespace Mine
def frmT (p a b : Int) : Int := if (b * b + p) % (4 * a) = 0 ∧ (a < (b * b + p) / (4 * a) ∨ ((b * b + p) / (4 * a) = a ∧ 0 ≤ b)) then 1 else 0
def frmI (p a : Int) (bs : List Int) : Int := (bs.map (frmT p a)).sum
theorem frmI_succ (p a x : Int) (i : Nat) : frmI p a (rangeKs x (i + 1)) = frmI p a (rangeKs x i) + frmT p a (x + (i : Int)) := by
  unfold frmI rangeKs
  rw [List.range_succ, List.map_append, List.map_append, List.sum_append]
  simp
def frmN (p : Int) : Nat → Int → Int → Int
  | 0, _, c => c
  | n + 1, a, c => if 3 * a * a ≤ p then frmN p n (a + 1) (c + frmI p a (rangeKs (1 - a) (a + a).toNat)) else c
set_option maxRecDepth 100000 in
set_option maxHeartbeats 8000000 in
theorem forms_tell (w : World) (pp : Int) (t1 : Tok) (own : Led) (hp0 : 2 ≤ pp) (hp1 : pp ≤ 47) :
  Tell w 90 own [.int pp t1] 1 (fun r news' => ∃ t, r = .int (frmN pp 5 1 0) t ∧ news' = own) := by
  (((have hz : PySem.Challenge.rw_xg0042_01 = PySem.Challenge.rw_xg0042_01 ∧ Mine.hd.heap_39 = Mine.hd.heap_39 := by (k_fill; exact ⟨rfl, rfl⟩)); clear hz))
  unfold Tell
  intro p loose mean mg mb dp un gd cn cs aa ccd cl outer A₀ base h₀ L m s Q E B F X N T hk hd hu hret
  refine wpAny_call ?_
  ((k_dflt (refine' code_def ?k1e46 ?k2e46 ?k3e46 ?k4e46 ?k5e46 ?kAe46 ?kFe46 ?kKe46 ?k6e46 ?k7e46 ?k8e46 ?k9e46 ?kBe46 ?_ ?c2e46 ?c3e46 ?c4e46 ?c5e46; (case kAe46 => exact rfl); (case kFe46 => exact rfl); (case kKe46 => first | exact rfl | assumption); (case k1e46 => k_asm); (case k2e46 => k_asm); (case k3e46 => k_asm); (case k4e46 => k_asm); (case k5e46 => k_asm); (case k6e46 => k_is); (case k7e46 => k_is); (case k8e46 => ktr_room); (case k9e46 => first | exact BindsTo.of_eq rfl | exact binds_K (by k_in) rfl (by k_is) rfl rfl rfl | (refine' kp_binds ?kXe46 ?kPe46; (case kXe46 => k_in); (case kPe46 => intro S; with_unfolding_all rfl))); (case c5e46 => decide); (case kBe46 => exact locs rfl); (case c2e46 => exact rfl); (case c3e46 => exact rfl); (case c4e46 => exact rfl); k_whole; intro g' L' h' FG' F' N' B' X' T'; (try dsimp only); (try k_lift B'); (try k_fold)))); (with_unfolding_all (rename Fr _ _ _ _ => kF)); replace kF : Fr _ _ _ (fun y => List.lookup y [(Str.ofString "p", .int pp t1)]) := kF
  (repeat' (first | (k_unfold; (try dsimp only)) | walk1 | (dsimp only; walk1) | (leave1; walk_say "STEP leave1"; try dsimp only) | fail "no step"))
  refine Stop.out ?_
  with_unfolding_all (rename Fr _ _ _ _ => kF)
  with_unfolding_all (rename News _ _ _ _ => kN)
  with_unfolding_all
   refine' while_st (σ := Int × Int × Nat × Nat) (fun _ => own) (fun c => [(Str.ofString "count", .int c.1 c.2.2.1), (Str.ofString "a", .int c.2.1 c.2.2.2)]) [Str.ofString "count", Str.ofString "a", Str.ofString "b", Str.ofString "c", Str.ofString "over"]
      (fun n c => n ≤ 5 ∧ c.2.1 = 6 - n ∧ frmN pp 5 1 0 = frmN pp n c.2.1 c.1 ∧ 0 ≤ c.1 ∧ c.1 ≤ 1000 * (5 - n)) 5 (0, 1, _, _) kF kN (fun p hp => hp) (.cons rfl (.cons rfl .nil)) ?_ ?_ ?_
  · dsimp only; exact ⟨by omega, by omega, rfl, by omega, by omega⟩
  · rintro n ⟨cnt, a, tc, ta⟩ u h₁ tk₁ ⟨p1, p2, p3, p4, p5⟩ F₁ N₁
    dsimp only at p1 p2 p3 p4 p5 F₁
    clear kF kN
    try k_fold
    (repeat' (first | (k_unfold; (try dsimp only)) | walk1 | (dsimp only; walk1) | (leave1; walk_say "STEP leave1"; try dsimp only) | fail "no step"))
    · refine Stop.out ?_
      with_unfolding_all (rename Fr _ _ _ _ => kF)
      with_unfolding_all (rename News _ _ _ _ => kN)
      (rename IsRange _ _ _ _ _ _ _ _ => kR)
      (rename 3 * a * a ≤ pp => hq)
      have ha1 : 1 ≤ a := by omega
      have ha3 : a ≤ 3 := by
        rcases Int.lt_or_le 3 a with h | h
        · exfalso
          have : 4 * 4 ≤ a * a := Int.mul_le_mul (by omega) (by omega) (by omega) (by omega)
          rw [Int.mul_assoc] at hq; omega
        · exact h
      with_unfolding_all
       refine' for_range (n := (a + a).toNat) (σ := Int × Nat) (fun _ => own) (fun c => [(Str.ofString "count", .int c.1 c.2)]) [Str.ofString "count", Str.ofString "c", Str.ofString "over"]
        (fun i c => c.1 = cnt + frmI pp a (rangeKs (1 - a) i) ∧ cnt ≤ c.1 ∧ c.1 ≤ cnt + i) (cnt, tc) (by rfl) kR (small_one (by omega) (by omega) (by omega) (by omega)) ?_ kF kN (fun p hp => hp) (.cons rfl .nil) ?_ ?_ ?_
      · rw [rangeSize_nat]; omega
      · dsimp only; exact ⟨by show cnt = cnt + 0; omega, by omega, by omega⟩
      · rintro i ⟨ct, tc1⟩ u1 h₂ tk₂ tb own1 hi ⟨q1, q2, q3⟩ hoff F₂ N₂
        dsimp only at q1 q2 q3 F₂
        clear kF kN
        try k_fold
        (repeat' (first | (k_unfold; (try dsimp only)) | walk1 | (dsimp only; walk1) | (leave1; walk_say "STEP leave1"; try dsimp only) | fail "no step"))
        · (rename ((1 - a + (i : Int)) * (1 - a + (i : Int)) + pp) % (4 * a) = 0 => e1)
          (rename a < ((1 - a + (i : Int)) * (1 - a + (i : Int)) + pp) / (4 * a) => e2)
          with_unfolding_all (rename Fr _ _ _ _ => kF)
          with_unfolding_all (rename News _ _ _ _ => kN)
          with_unfolding_all
           refine' FEnd.intro (ct + 1, _) kF kN (fun p hp => .tail _ (List.mem_append.mpr (.inl hp))) (fun p hp => .tail _ (List.mem_append.mpr (.inr hp))) (fun p hp => .inl (List.mem_map.mpr ⟨p, hp, rfl⟩)) (.cons rfl .nil) ?_ ?_
          · repeat' first | exact offx_lm rfl | refine' offx_upd rfl ?_ | refine' offx_x ?_
          · dsimp only
            rw [frmI_succ]
            have ht : frmT pp a (1 - a + (i : Int)) = 1 := by unfold frmT; simp [e1, e2]
            exact ⟨by omega, by omega, by omega⟩
        · (rename ((1 - a + (i : Int)) * (1 - a + (i : Int)) + pp) % (4 * a) = 0 => e1)
          (rename ((1 - a + (i : Int)) * (1 - a + (i : Int)) + pp) / (4 * a) = a => e3)
          (rename 0 ≤ 1 - a + (i : Int) => e4)
          with_unfolding_all (rename Fr _ _ _ _ => kF)
          with_unfolding_all (rename News _ _ _ _ => kN)
          with_unfolding_all
           refine' FEnd.intro (ct + 1, _) kF kN (fun p hp => .tail _ (List.mem_append.mpr (.inl hp))) (fun p hp => .tail _ (List.mem_append.mpr (.inr hp))) (fun p hp => .inl (List.mem_map.mpr ⟨p, hp, rfl⟩)) (.cons rfl .nil) ?_ ?_
          · repeat' first | exact offx_lm rfl | refine' offx_upd rfl ?_ | refine' offx_x ?_
          · dsimp only
            rw [frmI_succ]
            have ht : frmT pp a (1 - a + (i : Int)) = 1 := by unfold frmT; simp [e1, e3, e4]
            exact ⟨by omega, by omega, by omega⟩
        · (rename ((1 - a + (i : Int)) * (1 - a + (i : Int)) + pp) % (4 * a) = 0 => e1)
          (rename ((1 - a + (i : Int)) * (1 - a + (i : Int)) + pp) / (4 * a) = a => e3)
          (rename ¬ 0 ≤ 1 - a + (i : Int) => e4)
          with_unfolding_all (rename Fr _ _ _ _ => kF)
          with_unfolding_all (rename News _ _ _ _ => kN)
          with_unfolding_all
           refine' FEnd.intro (ct, _) kF kN (fun p hp => .tail _ (List.mem_append.mpr (.inl hp))) (fun p hp => .tail _ (List.mem_append.mpr (.inr hp))) (fun p hp => .inl (List.mem_map.mpr ⟨p, hp, rfl⟩)) (.cons rfl .nil) ?_ ?_
          · repeat' first | exact offx_lm rfl | refine' offx_upd rfl ?_ | refine' offx_x ?_
          · dsimp only
            rw [frmI_succ]
            have ht : frmT pp a (1 - a + (i : Int)) = 0 := by unfold frmT; simp [e1, e3, e4]
            exact ⟨by omega, by omega, by omega⟩
        · (rename ((1 - a + (i : Int)) * (1 - a + (i : Int)) + pp) % (4 * a) = 0 => e1)
          (rename ¬ a < ((1 - a + (i : Int)) * (1 - a + (i : Int)) + pp) / (4 * a) => e2)
          (rename ((1 - a + (i : Int)) * (1 - a + (i : Int)) + pp) / (4 * a) ≠ a => e3)
          with_unfolding_all (rename Fr _ _ _ _ => kF)
          with_unfolding_all (rename News _ _ _ _ => kN)
          with_unfolding_all
           refine' FEnd.intro (ct, _) kF kN (fun p hp => .tail _ (List.mem_append.mpr (.inl hp))) (fun p hp => .tail _ (List.mem_append.mpr (.inr hp))) (fun p hp => .inl (List.mem_map.mpr ⟨p, hp, rfl⟩)) (.cons rfl .nil) ?_ ?_
          · repeat' first | exact offx_lm rfl | refine' offx_upd rfl ?_ | refine' offx_x ?_
          · dsimp only
            rw [frmI_succ]
            have ht : frmT pp a (1 - a + (i : Int)) = 0 := by unfold frmT; simp [e1, e2, e3]
            exact ⟨by omega, by omega, by omega⟩
        · (rename ((1 - a + (i : Int)) * (1 - a + (i : Int)) + pp) % (4 * a) ≠ 0 => e1)
          with_unfolding_all (rename Fr _ _ _ _ => kF)
          with_unfolding_all (rename News _ _ _ _ => kN)
          with_unfolding_all
           refine' FEnd.intro (ct, _) kF kN (fun p hp => .tail _ (List.mem_append.mpr (.inl hp))) (fun p hp => .tail _ (List.mem_append.mpr (.inr hp))) (fun p hp => .inl (List.mem_map.mpr ⟨p, hp, rfl⟩)) (.cons rfl .nil) ?_ ?_
          · repeat' first | exact offx_lm rfl | refine' offx_upd rfl ?_ | refine' offx_x ?_
          · dsimp only
            rw [frmI_succ]
            have ht : frmT pp a (1 - a + (i : Int)) = 0 := by unfold frmT; simp [e1]
            exact ⟨by omega, by omega, by omega⟩
        · refine Stop.out ⟨by omega, no_py (n := 1) (by omega) ?_ ?_⟩
          · show (2:Int) ^ (0:Nat) ≤ _; omega
          · obtain ⟨b, hb⟩ : ∃ b, b = 1 - a + (i : Int) := ⟨_, rfl⟩
            rw [← hb]
            have hbb : 0 ≤ b * b ∧ b * b ≤ 9 := by
              have : b = -2 ∨ b = -1 ∨ b = 0 ∨ b = 1 ∨ b = 2 ∨ b = 3 := by omega
              rcases this with h | h | h | h | h | h <;> subst h <;> decide
            have := bits_of (x := b * b + pp) (m := 10) (by omega) (by omega)
            omega
      · rintro ⟨ct, tc1⟩ u1 h₂ tk₂ ⟨q1, q2, q3⟩ F₂ N₂
        dsimp only at q1 q2 q3 F₂
        clear kF kN
        try k_fold
        (repeat' (first | (k_unfold; (try dsimp only)) | walk1 | (dsimp only; walk1) | (leave1; walk_say "STEP leave1"; try dsimp only) | fail "no step"))
        obtain ⟨k, rfl⟩ : ∃ k, n = k + 1 := ⟨n - 1, by omega⟩
        with_unfolding_all
         refine' WEnd.intro (ct, a + 1, _, _) k (by assumption) (by assumption) (fun p hp => hp) (.cons rfl (.cons rfl .nil)) ?_ ?_ ?_
        · exact off_upd rfl (off_updf (v := u1) rfl (off_lm2 (off_lm rfl) rfl rfl))
        · omega
        · dsimp only
          refine ⟨by omega, by omega, ?_, by omega, by omega⟩
          rw [p3, q1]
          conv => lhs; unfold frmN
          rw [if_pos hq]
    · (rename ¬ 3 * a * a ≤ pp => hq)
      have hfin : frmN pp 5 1 0 = cnt := by
        rw [p3]
        cases n with
        | zero => rfl
        | succ n => unfold frmN; rw [if_neg hq]
      exact hret _ _ _ _ (by assumption) (by assumption) ⟨_, by rw [hfin], rfl⟩
  · unfold ek
    passes_own
end Mine
namespace Mine
theorem ints_len4 {ws : List Value} {ns : List Int} (h : IntsAre ws ns) (hl : ns.length = 4) : ∃ d0 d1 d2 d3 t0 t1 t2 t3, ws = [.int d0 t0, .int d1 t1, .int d2 t2, .int d3 t3] := by
  cases h with
  | nil => cases hl
  | cons d0 t0 h => cases h with
    | nil => cases hl
    | cons d1 t1 h => cases h with
      | nil => cases hl
      | cons d2 t2 h => cases h with
        | nil => cases hl
        | cons d3 t3 h => cases h with
          | nil => exact ⟨d0, d1, d2, d3, t0, t1, t2, t3, rfl⟩
          | cons d4 t4 h => simp at hl
theorem drawn4 {ws : List Value} {ns : List Int} (h : IntsAre ws (List.take 4 ns ++ List.drop (((List.take 4 ns).length : Int)).toNat [3, 0, 2, -5])) : ∃ d0 d1 d2 d3 t0 t1 t2 t3, ws = [.int d0 t0, .int d1 t1, .int d2 t2, .int d3 t3] :=
  ints_len4 h (by simp only [List.length_append, List.length_take, List.length_drop, List.length_cons, List.length_nil, Int.toNat_natCast]; omega)
def P7 (p : Int) : Prop := p = 7 ∨ p = 11 ∨ p = 19 ∨ p = 23 ∨ p = 31 ∨ p = 43 ∨ p = 47
theorem P7.nm {p : Int} (_ : P7 p) : ∃ q : Int, q = p := ⟨p, rfl⟩
theorem P7.le {p : Int} (h : P7 p) : 7 ≤ p ∧ p ≤ 47 := by unfold P7 at h; omega
section
variable {prog : Program} {w : World} {A : Around} {E : Value → Shared → Prop} {s : Shared}
theorem item7 {value slice : Expr} {t : Addr} {k : Int} {u a0 a1 a2 a3 a4 a5 a6 : Tok} {Q : Value → Shared → Prop} (ht : IsTup s.heap t (List.toArray [.int 7 a0, .int 11 a1, .int 19 a2, .int 23 a3, .int 31 a4, .int 43 a5, .int 47 a6]))
    (h0 : 0 ≤ k) (h1 : k < 7) (h : ∀ p t, P7 p → Q (.int p t) s)
    (hs : subscripted slice false (.ref t) (.int k u) = operate [.ref t, .int k u] (getItem (.ref t) (.int k u)) := by with_unfolding_all rfl) :
    wpAny (model prog w) A (subscriptTail value slice (.ref t) (.int k u)) Q E s := by
  have : k = 0 ∨ k = 1 ∨ k = 2 ∨ k = 3 ∨ k = 4 ∨ k = 5 ∨ k = 6 := by omega
  unfold P7 at h
  rcases this with rfl | rfl | rfl | rfl | rfl | rfl | rfl
  · exact item_tupleT (j := 0) ht (by decide) (by decide) rfl rfl (h 7 _ (by decide)) hs
  · exact item_tupleT (j := 1) ht (by decide) (by decide) rfl rfl (h 11 _ (by decide)) hs
  · exact item_tupleT (j := 2) ht (by decide) (by decide) rfl rfl (h 19 _ (by decide)) hs
  · exact item_tupleT (j := 3) ht (by decide) (by decide) rfl rfl (h 23 _ (by decide)) hs
  · exact item_tupleT (j := 4) ht (by decide) (by decide) rfl rfl (h 31 _ (by decide)) hs
  · exact item_tupleT (j := 5) ht (by decide) (by decide) rfl rfl (h 43 _ (by decide)) hs
  · exact item_tupleT (j := 6) ht (by decide) (by decide) rfl rfl (h 47 _ (by decide)) hs
end
end Mine
namespace Mine
def orb (p m f : Int) : Nat → Int → List Int
  | 0, _ => []
  | n + 1, x => x :: (if x * m % p = f then [] else orb p m f n (x * m % p))
def closes (p m f : Int) : Nat → Int → Bool
  | 0, _ => false
  | n + 1, x => if x * m % p = f then true else closes p m f n (x * m % p)
def rst (p m f : Int) : List Int := orb p m f 46 f
def comeN (p m : Int) : Nat → List Int
  | 0 => []
  | i + 1 => if ((i : Int) + 1) ∈ comeN p m i then comeN p m i else comeN p m i ++ rst p m ((i : Int) + 1)
/-- the rests that have come, as bits: one pass over an orbit -/
def wkM (p m f : Nat) : Nat → Nat → Nat → Option Nat
  | 0, _, _ => none
  | n + 1, x, M => bif M.testBit x then none else bif Nat.beq (x * m % p) f then some (M ||| 2 ^ x) else wkM p m f n (x * m % p) (M ||| 2 ^ x)
/-- one pass that checks each orbit -/
def ccM (p m : Nat) : Nat → Nat → Nat → Bool
  | 0, _, M => (List.range 48).all fun y => M.testBit y == (Nat.ble 1 y && Nat.blt y p)
  | n + 1, i, M => bif M.testBit (i + 1) then ccM p m n (i + 1) M else match wkM p m (i + 1) 46 (i + 1) M with
    | none => false
    | some M' => ccM p m n (i + 1) M'
theorem ccM_all : ([7, 11, 19, 23, 31, 43, 47] : List Nat).all (fun p => (List.range (p - 1)).all fun m => ccM p (m + 1) (p - 1) 0 0) = true := by decide +kernel
structure MInv (p : Nat) (R : List Int) (M : Nat) : Prop where
  nd : R.Nodup
  bit : ∀ y : Nat, M.testBit y = decide ((y : Int) ∈ R)
  bnd : ∀ r ∈ R, 0 ≤ r ∧ r < (p : Int)
theorem MInv.add {p x M : Nat} {R : List Int} (h : MInv p R M) (hx : x < p) (hb : M.testBit x = false) : MInv p (R ++ [(x : Int)]) (M ||| 2 ^ x) := by
  have hn : ¬ (x : Int) ∈ R := by
    have := h.bit x
    rw [hb] at this
    exact of_decide_eq_false this.symm
  refine ⟨?_, fun y => ?_, fun r hr => ?_⟩
  · refine List.nodup_append.mpr ⟨h.nd, by simp, fun a ha b hb' e => ?_⟩
    rw [List.mem_singleton.mp hb'] at e
    exact hn (e ▸ ha)
  · rw [Nat.testBit_or, Nat.testBit_two_pow, h.bit y]
    by_cases e : x = y
    · subst e; simp
    · have : ¬ (y : Int) = (x : Int) := by omega
      simp [e, this]
  · rcases List.mem_append.mp hr with h1 | h1
    · exact h.bnd r h1
    · rw [List.mem_singleton.mp h1]; omega
theorem wkM_sound {p m f : Nat} (hp : 0 < p) : ∀ (n x M M' : Nat) (R : List Int), x < p → wkM p m f n x M = some M' → MInv p R M → closes (p : Int) (m : Int) (f : Int) n (x : Int) = true ∧ MInv p (R ++ orb (p : Int) (m : Int) (f : Int) n (x : Int)) M'
  | 0, _, _, _, _, _, h, _ => by cases h
  | n + 1, x, M, M', R, hx, h, hI => by
    have ec : ((x : Int) * (m : Int) % (p : Int)) = ((x * m % p : Nat) : Int) := by rw [Int.natCast_emod, Int.natCast_mul]
    unfold wkM at h
    unfold closes orb
    rw [ec]
    cases hb : M.testBit x with
    | true => rw [hb] at h; cases h
    | false =>
      rw [hb] at h
      simp only [cond_false] at h
      have hI' := hI.add hx hb
      cases hc : Nat.beq (x * m % p) f with
      | true =>
        have he : x * m % p = f := Nat.eq_of_beq_eq_true hc
        rw [hc] at h
        simp only [cond_true, Option.some.injEq] at h
        subst h
        rw [he]
        simp only [if_true]
        exact ⟨trivial, hI'⟩
      | false =>
        have he : ¬ ((x * m % p : Nat) : Int) = (f : Int) := by
          have := Nat.ne_of_beq_eq_false hc
          omega
        rw [hc] at h
        simp only [cond_false] at h
        obtain ⟨q1, q2⟩ := wkM_sound hp n (x * m % p) (M ||| 2 ^ x) M' (R ++ [(x : Int)]) (Nat.mod_lt _ hp) h hI'
        rw [if_neg he, if_neg he]
        rw [List.append_assoc] at q2
        exact ⟨q1, q2⟩
theorem ccM_sound {p m : Nat} (hp : 0 < p) (hp2 : p ≤ 48) : ∀ (n i M : Nat), i + n < p → MInv p (comeN p m i) M → ccM p m n i M = true → (comeN (p : Int) (m : Int) (i + n)).Perm (rangeKs 1 (p - 1)) ∧ ∀ j, i ≤ j → j < i + n → ((j : Int) + 1) ∉ comeN (p : Int) (m : Int) j → closes (p : Int) (m : Int) ((j : Int) + 1) 46 ((j : Int) + 1) = true
  | 0, i, M, _, hI, h => by
    refine ⟨?_, fun j h1 h2 => absurd h2 (by omega)⟩
    unfold ccM at h
    rw [List.all_eq_true] at h
    have hr : (rangeKs 1 (p - 1)).Nodup := by
      unfold rangeKs
      rw [List.nodup_iff_pairwise_ne, List.pairwise_map]
      exact List.nodup_range.imp fun {a b} (e : a ≠ b) => by omega
    rw [Nat.add_zero, List.perm_ext_iff_of_nodup hI.nd hr]
    intro a
    have hra : a ∈ rangeKs 1 (p - 1) ↔ 1 ≤ a ∧ a < p := by
      unfold rangeKs
      rw [List.mem_map]
      constructor
      · rintro ⟨i, hi, rfl⟩
        have := List.mem_range.mp hi
        omega
      · rintro ⟨h1, h2⟩
        exact ⟨(a - 1).toNat, List.mem_range.mpr (by omega), by omega⟩
    rw [hra]
    constructor
    · intro ha
      obtain ⟨b1, b2⟩ := hI.bnd a ha
      obtain ⟨y, rfl⟩ := Int.eq_ofNat_of_zero_le b1
      have hy := h y (List.mem_range.mpr (by omega))
      rw [hI.bit y, beq_iff_eq] at hy
      rw [decide_eq_true ha] at hy
      have hy := Bool.and_eq_true_iff.mp hy.symm
      have := Nat.le_of_ble_eq_true hy.1
      omega
    · rintro ⟨h1, h2⟩
      obtain ⟨y, rfl⟩ := Int.eq_ofNat_of_zero_le (show 0 ≤ a by omega)
      have hy := h y (List.mem_range.mpr (by omega))
      rw [hI.bit y, beq_iff_eq] at hy
      have e1 : Nat.ble 1 y = true := Nat.ble_eq_true_of_le (by omega)
      have e2 : Nat.blt y p = true := Nat.ble_eq_true_of_le (by omega)
      rw [e1, e2] at hy
      exact of_decide_eq_true hy
  | n + 1, i, M, hlt, hI, h => by
    unfold ccM at h
    have e1 : ((i + 1 : Nat) : Int) = (i : Int) + 1 := by omega
    cases hb : M.testBit (i + 1) with
    | true =>
      rw [hb] at h
      simp only [cond_true] at h
      have hm : (i : Int) + 1 ∈ comeN (p : Int) (m : Int) i := by
        have := hI.bit (i + 1)
        rw [hb, e1] at this
        exact of_decide_eq_true this.symm
      have e : comeN (p : Int) (m : Int) (i + 1) = comeN (p : Int) (m : Int) i := by rw [comeN, if_pos hm]
      have ih := ccM_sound hp hp2 n (i + 1) M (by omega) (by rw [e]; exact hI) h
      rw [show i + (n + 1) = i + 1 + n by omega]
      refine ⟨ih.1, fun j h1 h2 h3 => ?_⟩
      rcases Nat.eq_or_lt_of_le h1 with r | r
      · subst r; exact absurd hm h3
      · exact ih.2 j r h2 h3
    | false =>
      rw [hb] at h
      simp only [cond_false] at h
      have hm : ¬ (i : Int) + 1 ∈ comeN (p : Int) (m : Int) i := by
        have := hI.bit (i + 1)
        rw [hb, e1] at this
        exact of_decide_eq_false this.symm
      have e : comeN (p : Int) (m : Int) (i + 1) = comeN (p : Int) (m : Int) i ++ rst (p : Int) (m : Int) ((i : Int) + 1) := by rw [comeN, if_neg hm]
      cases hw : wkM p m (i + 1) 46 (i + 1) M with
      | none => rw [hw] at h; cases h
      | some M' =>
        rw [hw] at h
        obtain ⟨q1, q2⟩ := wkM_sound hp 46 (i + 1) M M' _ (by omega) hw hI
        rw [e1] at q1 q2
        have ih := ccM_sound hp hp2 n (i + 1) M' (by omega) (by rw [e]; exact q2) h
        rw [show i + (n + 1) = i + 1 + n by omega]
        refine ⟨ih.1, fun j h1 h2 h3 => ?_⟩
        rcases Nat.eq_or_lt_of_le h1 with r | r
        · subst r; exact q1
        · exact ih.2 j r h2 h3
theorem come_fact {p m : Int} (hp : P7 p) (h1 : 1 ≤ m) (h2 : m < p) : (comeN p m (p.toNat - 1)).Perm (rangeKs 1 (p - 1).toNat) ∧ ∀ j, j < p.toNat - 1 → ((j : Int) + 1) ∉ comeN p m j → closes p m ((j : Int) + 1) 46 ((j : Int) + 1) = true := by
  have hl := hp.le
  obtain ⟨pn, rfl⟩ := Int.eq_ofNat_of_zero_le (show 0 ≤ p by omega)
  obtain ⟨mn, rfl⟩ := Int.eq_ofNat_of_zero_le (show 0 ≤ m by omega)
  have h := ccM_all
  rw [List.all_eq_true] at h
  have hp' : pn ∈ ([7, 11, 19, 23, 31, 43, 47] : List Nat) := by unfold P7 at hp; simp only [List.mem_cons, List.not_mem_nil, or_false]; omega
  have h := h pn hp'
  rw [List.all_eq_true] at h
  have h := h (mn - 1) (List.mem_range.mpr (by omega))
  rw [show mn - 1 + 1 = mn by omega] at h
  have := ccM_sound (p := pn) (m := mn) (by omega) (by omega) (pn - 1) 0 0 (by omega) ⟨List.nodup_nil, fun y => by simp [comeN], fun r hr => nomatch hr⟩ h
  rw [Nat.zero_add] at this
  rw [Int.toNat_natCast, show ((pn : Int) - 1).toNat = pn - 1 by omega]
  exact ⟨this.1, fun j hj => this.2 j (Nat.zero_le _) hj⟩
def sqL (p : Int) : List Int := List.map (fun k' => (k' * k').fmod p) (rangeKs 1 ((p + 1).fdiv 2 - 1).toNat)
def hrs (p : Int) (h : Nat) (r : Int) : Int := r * 2 ^ h / p
def mns (p : Int) (h : Nat) (r : Int) : Int := r * 2 ^ (2 * h) / p % 2 ^ h
def secs (p : Int) (h : Nat) (r : Int) : Int := if r ∈ sqL p then -(3600 * hrs p h r + 60 * mns p h r) else 3600 * hrs p h r + 60 * mns p h r
def cSq (p : Int) (h : Nat) (R : List Int) (x : Int) : Nat := R.countP fun r => decide (r ∈ sqL p) && decide (hrs p h r < x)
def cOt (p : Int) (h : Nat) (R : List Int) (x : Int) : Nat := R.countP fun r => !decide (r ∈ sqL p) && decide (hrs p h r < x)
def moreOf (p : Int) (h : Nat) (R : List Int) : Int := ((rangeKs 1 (2 ^ h - 1)).map fun k => (cSq p h R k : Int) - (cOt p h R k : Int)).sum
def sideOf (p : Int) (h : Nat) : Int := if (2 ^ h : Int) % p ∈ sqL p then 1 else -1
def shareOf (p : Int) (h : Nat) : Int := (2 ^ h - sideOf p h) * frmN p 5 1 0
def finP (p : Int) : Bool := (List.range 6).all fun h => decide (moreOf p (h + 1) (rangeKs 1 (p - 1).toNat) = shareOf p (h + 1)) && decide (((rangeKs 1 (p - 1).toNat).map (secs p (h + 1))).sum = 60 * (60 + sideOf p (h + 1)) * shareOf p (h + 1))
theorem fin7 : finP 7 = true := by decide +kernel
theorem fin11 : finP 11 = true := by decide +kernel
theorem fin19 : finP 19 = true := by decide +kernel
theorem fin23 : finP 23 = true := by decide +kernel
theorem fin31 : finP 31 = true := by decide +kernel
theorem fin43 : finP 43 = true := by decide +kernel
theorem fin47 : finP 47 = true := by decide +kernel
theorem fin_all : ([7, 11, 19, 23, 31, 43, 47] : List Int).all (fun p => (List.range 6).all fun h => decide (moreOf p (h + 1) (rangeKs 1 (p - 1).toNat) = shareOf p (h + 1)) && decide (((rangeKs 1 (p - 1).toNat).map (secs p (h + 1))).sum = 60 * (60 + sideOf p (h + 1)) * shareOf p (h + 1))) = true := by
  show ([7, 11, 19, 23, 31, 43, 47] : List Int).all finP = true
  simp only [List.all_cons, List.all_nil, fin7, fin11, fin19, fin23, fin31, fin43, fin47, Bool.and_self]
end Mine
namespace Mine
theorem perm_sum {a b : List Int} (h : a.Perm b) : a.sum = b.sum := by
  induction h with
  | nil => rfl
  | cons x _ ih => simp [ih]
  | swap x y l => simp; omega
  | trans _ _ h1 h2 => exact h1.trans h2
theorem fin_of_perm {p : Int} {h : Nat} {R : List Int} (hp : P7 p) (h1 : 1 ≤ h) (h2 : h ≤ 6) (hR : R.Perm (rangeKs 1 (p - 1).toNat)) :
    moreOf p h R = shareOf p h ∧ (R.map (secs p h)).sum = 60 * (60 + sideOf p h) * shareOf p h := by
  have a := fin_all
  rw [List.all_eq_true] at a
  have hp' : p ∈ ([7, 11, 19, 23, 31, 43, 47] : List Int) := by unfold P7 at hp; simp only [List.mem_cons, List.not_mem_nil, or_false]; omega
  have a := a p hp'
  rw [List.all_eq_true] at a
  have a := a (h - 1) (List.mem_range.mpr (by omega))
  rw [show h - 1 + 1 = h by omega, Bool.and_eq_true, decide_eq_true_eq, decide_eq_true_eq] at a
  have e1 : moreOf p h R = moreOf p h (rangeKs 1 (p - 1).toNat) := by
    unfold moreOf cSq cOt
    congr 2
    funext k
    rw [hR.countP_eq, hR.countP_eq]
  rw [e1, perm_sum (hR.map (secs p h))]
  exact a
/-- the orbit's figures: the quotient in base B -/
def figs (p B : Int) (rs : List Int) : List Int := rs.map fun r => r * B / p
/-- the value of figures, most significant first -/
def valB (B : Int) : List Int → Int
  | [] => 0
  | d :: ds => d * B ^ ds.length + valB B ds
theorem orb_val {p B m f : Int} (hp : 0 < p) (hm : m = B % p) : ∀ (n : Nat) (x : Int), 0 ≤ x → x < p → closes p m f n x = true → x * B ^ (orb p m f n x).length = valB B (figs p B (orb p m f n x)) * p + f
  | 0, x, _, _, h => by cases h
  | n + 1, x, h0, h1, h => by
    have hx : x * m % p = x * B % p := by rw [hm, Int.mul_emod, Int.emod_emod_of_dvd _ (Int.dvd_refl p), ← Int.mul_emod]
    have hdm : x * B = x * B / p * p + x * B % p := by rw [Int.mul_comm _ p]; exact (Int.mul_ediv_add_emod (x * B) p).symm
    unfold closes at h
    unfold orb
    by_cases hc : x * m % p = f
    · rw [if_pos hc]
      show x * B ^ 1 = (x * B / p * B ^ 0 + 0) * p + f
      rw [Int.pow_succ, Int.pow_zero, Int.one_mul, Int.mul_one, Int.add_zero, ← hc, hx]; exact hdm
    · rw [if_neg hc] at h ⊢
      have ih := orb_val hp hm n (x * m % p) (Int.emod_nonneg _ (by omega)) (Int.emod_lt_of_pos _ hp) h
      show x * B ^ ((orb p m f n (x * m % p)).length + 1) = (x * B / p * B ^ (figs p B (orb p m f n (x * m % p))).length + valB B (figs p B (orb p m f n (x * m % p)))) * p + f
      have hl : (figs p B (orb p m f n (x * m % p))).length = (orb p m f n (x * m % p)).length := List.length_map ..
      rw [hl, Int.pow_succ]
      have : x * (B ^ (orb p m f n (x * m % p)).length * B) = (x * B) * B ^ (orb p m f n (x * m % p)).length := by grind
      rw [this, hdm, Int.add_mul, ← hx, ih]
      grind
end Mine
namespace Mine
theorem valB_bnd {B : Int} (hB : 0 < B) : ∀ {fs : List Int}, (∀ d ∈ fs, 0 ≤ d ∧ d < B) → 0 ≤ valB B fs ∧ valB B fs < B ^ fs.length
  | [], _ => by simp [valB]
  | d :: ds, h => by
    have ih := valB_bnd hB (fs := ds) fun x hx => h x (.tail _ hx)
    have hd := h d (.head _)
    have hp : 0 < B ^ ds.length := Int.pow_pos hB
    have h1 : 0 ≤ d * B ^ ds.length := Int.mul_nonneg hd.1 (Int.le_of_lt hp)
    have h2 : (d + 1) * B ^ ds.length ≤ B * B ^ ds.length := Int.mul_le_mul_of_nonneg_right (by omega) (Int.le_of_lt hp)
    rw [Int.add_mul, Int.one_mul] at h2
    show 0 ≤ d * B ^ ds.length + valB B ds ∧ d * B ^ ds.length + valB B ds < B ^ (ds.length + 1)
    rw [Int.pow_succ, Int.mul_comm (B ^ ds.length) B]
    omega
theorem digs_val {W : Nat} : ∀ {fs : List Int}, (∀ d ∈ fs, 0 ≤ d ∧ d < 2 ^ W) → (digs (valB (2 ^ W) fs) W fs.length).reverse = fs
  | [], _ => rfl
  | d :: ds, h => by
    have hB : (0 : Int) < 2 ^ W := kbt_pos _
    have ih := digs_val (fs := ds) fun x hx => h x (.tail _ hx)
    have hd := h d (.head _)
    have hv := valB_bnd hB (fs := ds) fun x hx => h x (.tail _ hx)
    have hp : (0 : Int) < (2 ^ W) ^ ds.length := Int.pow_pos hB
    have epow : ∀ i : Nat, (2 : Int) ^ (W * i) = (2 ^ W) ^ i := fun i => Int.pow_mul ..
    show (digs (d * (2 ^ W) ^ ds.length + valB (2 ^ W) ds) W (ds.length + 1)).reverse = d :: ds
    have e : digs (d * (2 ^ W) ^ ds.length + valB (2 ^ W) ds) W (ds.length + 1) = digs (valB (2 ^ W) ds) W ds.length ++ [d] := by
      unfold digs
      rw [List.range_succ, List.map_append]
      congr 1
      · apply List.map_congr_left
        intro i hi
        have hi := List.mem_range.mp hi
        rw [epow]
        obtain ⟨j, hj⟩ : ∃ j, ds.length = i + 1 + j := ⟨ds.length - (i + 1), by omega⟩
        have hpi : (0 : Int) < (2 ^ W) ^ i := Int.pow_pos hB
        have e1 : d * (2 ^ W : Int) ^ ds.length + valB (2 ^ W) ds = valB (2 ^ W) ds + (2 ^ W) ^ i * (2 ^ W * (d * (2 ^ W) ^ j)) := by
          rw [hj, Int.pow_add, Int.pow_add, Int.pow_one]; grind
        rw [e1, Int.add_mul_ediv_left _ _ (Int.ne_of_gt hpi), Int.add_mul_emod_self_left]
      · simp only [List.map_cons, List.map_nil]
        rw [epow, Int.add_comm, Int.add_mul_ediv_right _ _ (Int.ne_of_gt hp), Int.ediv_eq_zero_of_lt hv.1 hv.2, Int.zero_add, Int.emod_eq_of_lt hd.1 hd.2]
    rw [e, List.reverse_append, ih]
    rfl
theorem bits_val {W : Nat} (hW : 1 ≤ W) {d : Int} {ds : List Int} (h : ∀ x ∈ d :: ds, 0 ≤ x ∧ x < 2 ^ W) (h0 : 0 < d) :
    0 < valB (2 ^ W) (d :: ds) ∧ ((Builtin.Int.intBits (valB (2 ^ W) (d :: ds)) : Int) + (W : Int) - 1) / (W : Int) = (ds.length : Int) + 1 := by
  have hB : (0 : Int) < 2 ^ W := kbt_pos _
  have hv := valB_bnd hB (fs := ds) fun x hx => h x (.tail _ hx)
  have ha := valB_bnd hB (fs := d :: ds) h
  have hp : (0 : Int) < (2 ^ W) ^ ds.length := Int.pow_pos hB
  have h1 : (2 ^ W : Int) ^ ds.length ≤ valB (2 ^ W) (d :: ds) := by
    show _ ≤ d * (2 ^ W) ^ ds.length + valB (2 ^ W) ds
    have : 1 * (2 ^ W : Int) ^ ds.length ≤ d * (2 ^ W) ^ ds.length := Int.mul_le_mul_of_nonneg_right (by omega) (Int.le_of_lt hp)
    omega
  have epow : ∀ i : Nat, (2 ^ W : Int) ^ i = 2 ^ (W * i) := fun i => (Int.pow_mul ..).symm
  have hup : Builtin.Int.intBits (valB (2 ^ W) (d :: ds)) ≤ W * (ds.length + 1) := bits_of ha.1 (by rw [← epow]; exact ha.2)
  have hlo : ¬ Builtin.Int.intBits (valB (2 ^ W) (d :: ds)) ≤ W * ds.length := by
    rw [intBits_le_iff]
    intro hh
    have : ((valB (2 ^ W) (d :: ds)).natAbs : Int) < ((2 ^ (W * ds.length) : Nat) : Int) := by exact_mod_cast hh
    rw [kbt_cast, ← epow] at this
    omega
  refine ⟨by omega, ?_⟩
  rw [Nat.mul_add, Nat.mul_one] at hup
  generalize Builtin.Int.intBits (valB (2 ^ W) (d :: ds)) = b at hup hlo ⊢
  obtain ⟨r, hr⟩ : ∃ r, b = W * ds.length + 1 + r ∧ r < W := ⟨b - (W * ds.length + 1), by omega, by omega⟩
  have e : (b : Int) + (W : Int) - 1 = (r : Int) + (W : Int) * ((ds.length : Int) + 1) := by
    rw [hr.1]; push_cast; grind
  rw [e, Int.add_mul_ediv_left _ _ (by omega), Int.ediv_eq_zero_of_lt (by omega) (by omega), Int.zero_add]
theorem fig_cut {r p : Int} {W h : Nat} (hp : 0 < p) (hW : 2 * h ≤ W) : r * 2 ^ W / p / 2 ^ (W - 2 * h) = r * 2 ^ (2 * h) / p := by
  have e : (2 : Int) ^ W = 2 ^ (2 * h) * 2 ^ (W - 2 * h) := by rw [← Int.pow_add]; congr 1; omega
  rw [Int.ediv_ediv_of_nonneg (Int.le_of_lt hp), e, ← Int.mul_assoc]
  exact Int.mul_ediv_mul_of_pos_left _ _ (kbt_pos _)
theorem fig_hours {r p : Int} {h : Nat} (hp : 0 < p) : r * 2 ^ (2 * h) / p / 2 ^ h = hrs p h r := by
  unfold hrs
  have e : (2 : Int) ^ (2 * h) = 2 ^ h * 2 ^ h := by rw [← Int.pow_add]; congr 1; omega
  rw [Int.ediv_ediv_of_nonneg (Int.le_of_lt hp), e, ← Int.mul_assoc]
  exact Int.mul_ediv_mul_of_pos_left _ _ (kbt_pos _)
end Mine
namespace Mine
structure OS where
  cv : List Value
  ce : Nat
  ov : List Value
  oe : Nat
  sv : List Value
  se : Nat
  on : List Int
  sn : List Int
  sec : Int
  st : Tok
  tb : Tab
abbrev OLd (a b c : Addr) (d e f g : Addr × Obj) (x : OS) : Led := (a, listOf x.cv.toArray x.ce) :: (b, listOf x.ov.toArray x.oe) :: (c, listOf x.sv.toArray x.se) :: d :: e :: f :: g :: tabLed x.tb
structure OInv (p m : Int) (h : Nat) (i : Nat) (x : OS) : Prop where
  hc : IntsAre x.cv (comeN p m i)
  ho : IntsAre x.ov x.on
  hs : IntsAre x.sv x.sn
  so : sorted x.on
  ss : sorted x.sn
  co : ∀ k, cntLt x.on k = cOt p h (comeN p m i) k
  cs : ∀ k, cntLt x.sn k = cSq p h (comeN p m i) k
  lo : x.on.length ≤ (comeN p m i).length
  ls : x.sn.length ≤ (comeN p m i).length
  sec : x.sec = ((comeN p m i).map (secs p h)).sum
  tb : TabOk x.tb
abbrev oPs (x : OS) : List (Str × Value) := [(Str.ofString "seconds", .int x.sec x.st)]
abbrev oSt : List Str := [Str.ofString "seconds", Str.ofString "rests", Str.ofString "size", Str.ofString "tail", Str.ofString "unit", Str.ofString "divisor", Str.ofString "quotient", Str.ofString "left", Str.ofString "figures", Str.ofString "rest", Str.ofString "figure", Str.ofString "hours", Str.ofString "minutes"]
section
variable {prog : Program} {w : World} {A : Around} {E : Value → Shared → Prop} {Q : Flow → Shared → Prop} {s : Shared} {env : Env} {h₀ : Heap} {x : Str} {body : List Stmt}
theorem outer_for {r a b c : Addr} {d e f g : Addr × Obj} {b₀ : Int} {t₀ u₀ v₀ st : Tok} {n : Nat} {m₀ : Str → Option Value} (p m : Int) (hd : Nat)
    (hh : A.handled = none) (hr : IsRange s.heap r 1 b₀ 1 t₀ u₀ v₀) (hsmall : Builtin.Range.small 1 b₀ 1 = true) (hn : Builtin.Range.rangeSize 1 b₀ 1 = (n : Int))
    (F : Fr h₀ env.locals s.heap m₀) (N : News h₀ env.locals s.heap [(a, listOf #[] 0), (b, listOf #[] 0), (c, listOf #[] 0), d, e, f, g, (47, tabObj #[])]) (hs : m₀ (Str.ofString "seconds") = some (.int 0 st))
    (turn : ∀ i (z : OS) u h tk t own, i < n → OInv p m hd i z → OwnOff own ((OLd a b c d e f g z).map (·.1)) → Fr h₀ env.locals h (fun y => if y = x then some (.int (1 + (i : Int)) t) else lm oSt u m₀ (oPs z) y) → News h₀ env.locals h (OLd a b c d e f g z ++ own) →
      wpAny (model prog w) A (execs body env) (FEnd h₀ env.locals s x (OLd a b c d e f g) oPs oSt m₀ (OInv p m hd) own Q (i + 1) z) E { s with heap := h, toks := tk })
    (done : ∀ (z : OS) u h tk, OInv p m hd n z → Fr h₀ env.locals h (fun y => if y = x then u y else lm oSt u m₀ (oPs z) y) → News h₀ env.locals h (OLd a b c d e f g z) → Q .next { s with heap := h, toks := tk }) :
    wpAny (model prog w) A (pyIter (.ref r)) (fun it s₂ => LoopAtV prog w A h₀ env x body Q E it s₂) E s := by
  refine for_range (OLd a b c d e f g) oPs oSt (OInv p m hd) ⟨[], 0, [], 0, [], 0, [], [], 0, st, none⟩ hh hr hsmall hn F N (fun p hp => hp) (.cons hs .nil) ?_ turn done
  exact ⟨.nil, .nil, .nil, fun i j _ h => absurd h (Nat.not_lt_zero _), fun i j _ h => absurd h (Nat.not_lt_zero _), fun k => rfl, fun k => rfl, Nat.le_refl _, Nat.le_refl _, rfl, trivial⟩
end
theorem come_in {p m : Int} {i : Nat} (h : ((comeN p m i).any fun x => x == 1 + (i : Int)) = true) : comeN p m (i + 1) = comeN p m i := by
  rw [List.any_eq_true] at h
  obtain ⟨x, hx, e⟩ := h
  have e : x = (i : Int) + 1 := by have := beq_iff_eq.mp e; omega
  rw [comeN, if_pos (e ▸ hx)]
theorem come_out {p m : Int} {i : Nat} (h : ((comeN p m i).any fun x => x == 1 + (i : Int)) = false) : ((i : Int) + 1) ∉ comeN p m i ∧ comeN p m (i + 1) = comeN p m i ++ rst p m (1 + (i : Int)) := by
  have hn : ((i : Int) + 1) ∉ comeN p m i := by
    intro hx
    have : ((comeN p m i).any fun x => x == 1 + (i : Int)) = true := List.any_eq_true.mpr ⟨_, hx, by rw [beq_iff_eq]; omega⟩
    rw [this] at h; cases h
  refine ⟨hn, ?_⟩
  rw [comeN, if_neg hn, Int.add_comm]
theorem OInv.skip {p m : Int} {h i : Nat} {x : OS} (q : OInv p m h i x) (e : comeN p m (i + 1) = comeN p m i) : OInv p m h (i + 1) x := by
  obtain ⟨a1, a2, a3, a4, a5, a6, a7, a8, a9, a10, a11⟩ := q
  rw [← e] at a1 a6 a7 a8 a9 a10
  exact ⟨a1, a2, a3, a4, a5, a6, a7, a8, a9, a10, a11⟩
structure RInv (p m f : Int) (n : Nat) (c : List Value × List Int × Nat) : Prop where
  hi : IntsAre c.1 c.2.1
  split : ∃ pre x, c.2.1 = pre ++ [x] ∧ rst p m f = pre ++ orb p m f n x ∧ closes p m f n x = true
  len : c.2.1.length + n ≤ 47
section
variable {prog : Program} {w : World} {A : Around} {E : Value → Shared → Prop} {Q : Flow → Shared → Prop} {s : Shared} {env : Env} {h₀ : Heap} {L : Addr}
theorem rests_while {test : Expr} {body : List Stmt} {pos : Pos} {m₀ : Str → Option Value} {R : Addr} {tl : Led} {t : Tok} (p m f : Int) (hcl : closes p m f 46 f = true)
    (F : Fr h₀ L s.heap m₀) (N : News h₀ L s.heap ((R, listOf #[.int f t] 0) :: tl))
    (turn : ∀ n vs ns e u h₁ tk₁, RInv p m f n (vs, ns, e) → Fr h₀ L h₁ (lm [] u m₀ []) → News h₀ L h₁ ((R, listOf vs.toArray e) :: tl) →
      wpAny (model prog w) A (isTrue test env (eval test env)) (fun b s₂ =>
        if b = true then wpAny (model prog w) A (execs body env) (WEnd h₀ L s (fun c : List Value × List Int × Nat => (R, listOf c.1.toArray c.2.2) :: tl) (fun _ => []) [] m₀ (RInv p m f) n) E s₂ else Q .next s₂) E { s with heap := h₁, toks := tk₁ })
    (hE : PassesOwn (model prog w) A env E) :
    wpAny (model prog w) A (exec (.While test body [] pos) env) Q E s := by
  refine while_st (fun c : List Value × List Int × Nat => (R, listOf c.1.toArray c.2.2) :: tl) (fun _ => []) [] (RInv p m f) 46 ([.int f t], [f], 0) F N (fun p hp => hp) .nil ?_ (fun n c u h₁ tk₁ hP F₁ N₁ => turn n c.1 c.2.1 c.2.2 u h₁ tk₁ hP F₁ N₁) hE
  exact ⟨.cons _ _ .nil, ⟨[], f, rfl, rfl, hcl⟩, by show 1 + 46 ≤ 47; omega⟩
end
theorem RInv.lens {p m f : Int} {n : Nat} {vs : List Value} {ns : List Int} {e : Nat} (h : RInv p m f n (vs, ns, e)) : 1 ≤ ns.length ∧ ns.length ≤ 47 := by
  obtain ⟨hi, ⟨pre, z, e1, e2, e3⟩, hl⟩ := h
  dsimp only at e1 hl
  subst e1
  simp at hl ⊢
  omega
theorem RInv.more {p m f : Int} {n : Nat} {vs : List Value} {ns : List Int} {e e' : Nat} {t : Tok} (h : RInv p m f n (vs, ns, e)) {x y : Int} (hx : ns.getLastD 0 = x) (hy : y = x * m % p) (hne : y ≠ f) : ∃ k, n = k + 1 ∧ RInv p m f k (vs ++ [.int y t], ns ++ [y], e') := by
  obtain ⟨hi, ⟨pre, z, e1, e2, e3⟩, hl⟩ := h
  dsimp only at e1 e2 e3 hi hl
  subst e1
  have : z = x := by simpa using hx
  subst this
  subst hy
  cases n with
  | zero => cases e3
  | succ k =>
    unfold closes at e3
    unfold orb at e2
    rw [if_neg hne] at e2 e3
    exact ⟨k, rfl, IntsAre.append hi (.cons _ _ .nil), ⟨pre ++ [z], _, rfl, by rw [e2]; simp, e3⟩, by simp at hl ⊢; omega⟩
theorem RInv.full {p m f : Int} {n : Nat} {vs : List Value} {ns : List Int} {e : Nat} (h : RInv p m f n (vs, ns, e)) {x y : Int} (hx : ns.getLastD 0 = x) (hy : y = x * m % p) (heq : y = f) : ns = rst p m f := by
  obtain ⟨hi, ⟨pre, z, e1, e2, e3⟩, hl⟩ := h
  dsimp only at e1 e2 e3 hi hl
  subst e1
  have : z = x := by simpa using hx
  subst this
  cases n with
  | zero => cases e3
  | succ k =>
    unfold orb at e2
    rw [if_pos (hy ▸ heq)] at e2
    exact e2.symm
theorem orb_bnd {p m f : Int} (hp : 0 < p) : ∀ (n : Nat) (x : Int), 0 ≤ x → x < p → ∀ y ∈ orb p m f n x, 0 ≤ y ∧ y < p
  | 0, _, _, _, _, h => nomatch h
  | n + 1, x, h0, h1, y, h => by
    unfold orb at h
    rcases List.mem_cons.mp h with rfl | h
    · exact ⟨h0, h1⟩
    · by_cases hc : x * m % p = f
      · rw [if_pos hc] at h; cases h
      · rw [if_neg hc] at h
        exact orb_bnd hp n _ (Int.emod_nonneg _ (by omega)) (Int.emod_lt_of_pos _ hp) y h
theorem last_idx {ns : List Int} (h : 1 ≤ ns.length) : ns.getD (-1 + (ns.length : Int)).toNat 0 = ns.getLastD 0 := by
  have e : (-1 + (ns.length : Int)).toNat = ns.length - 1 := by omega
  rw [e]
  cases ns with
  | nil => simp at h
  | cons a l => simp [List.getLast?_eq_getElem?, List.getLastD_eq_getLast?]
theorem RInv.last {p m f : Int} {n : Nat} {vs : List Value} {ns : List Int} {e : Nat} (h : RInv p m f n (vs, ns, e)) (hp : 0 < p) (h0 : 0 ≤ f) (h1 : f < p) : 0 ≤ ns.getLastD 0 ∧ ns.getLastD 0 < p := by
  obtain ⟨hi, ⟨pre, z, e1, e2, e3⟩, hl⟩ := h
  dsimp only at e1
  subst e1
  have hz : z ∈ rst p m f := by
    rw [e2]
    cases n with
    | zero => cases e3
    | succ k => unfold orb; simp
  have := orb_bnd hp 46 f h0 h1 z hz
  simpa using this
theorem y_eq {x p : Int} {wd : Nat} (hp : 0 < p) : (x * 2 ^ ((wd : Int)).toNat).fmod p = x * (2 ^ wd % p) % p := by
  rw [Int.fmod_eq_emod_of_nonneg _ (Int.le_of_lt hp), Int.toNat_natCast, Int.mul_emod, Int.mul_emod x (2 ^ wd % p), Int.emod_emod_of_dvd _ (Int.dvd_refl p)]
theorem small_bits {x : Int} (h0 : 0 ≤ x) (h1 : x < 64) : Builtin.Int.intBits x ≤ 6 := bits_of h0 (by omega)
theorem off3 {h₀ h : Heap} {L a b c : Addr} {oa ob oc : Obj} {d e f g : Addr × Obj} {tb : Tab} {own : Led} (N : News h₀ L h ((a, oa) :: (b, ob) :: (c, oc) :: d :: e :: f :: g :: (tabLed tb ++ own))) (ht : TabOk tb)
    (ha : ∃ xs n, oa.data = .seq xs n) (hb : ∃ xs n, ob.data = .seq xs n) (hc : ∃ xs n, oc.data = .seq xs n) {r : List Addr} (ho : OwnOff own (a :: b :: c :: r)) :
    OwnOff (tabLed tb ++ own) [a] ∧ OwnOff (tabLed tb ++ own) [b] ∧ OwnOff (tabLed tb ++ own) [c] := by
  have hsub : ∀ p ∈ tabLed tb, p ∈ ((a, oa) :: (b, ob) :: (c, oc) :: d :: e :: f :: g :: (tabLed tb ++ own)) := fun p hp => .tail _ (.tail _ (.tail _ (.tail _ (.tail _ (.tail _ (.tail _ (List.mem_append.mpr (.inl hp))))))))
  have key : ∀ x, x ∈ [a, b, c] → OwnOff (tabLed tb) [x] → OwnOff (tabLed tb ++ own) [x] := by
    intro x hx h1 p hp y hy
    rcases List.mem_append.mp hp with h | h
    · exact h1 p h y hy
    · rw [List.mem_singleton.mp hy]
      refine ho p h x ?_
      simp only [List.mem_cons, List.not_mem_nil, or_false] at hx ⊢
      rcases hx with h | h | h
      · exact .inl h
      · exact .inr (.inl h)
      · exact .inr (.inr (.inl h))
  exact ⟨key a (by simp) (tab_off N ht hsub (.head _) (.inl ha)), key b (by simp) (tab_off N ht hsub (.tail _ (.head _)) (.inl hb)), key c (by simp) (tab_off N ht hsub (.tail _ (.tail _ (.head _))) (.inl hc))⟩
theorem RInv.more2 {p m f : Int} {n : Nat} {vs : List Value} {ns : List Int} {e : Nat} (h : RInv p m f n (vs, ns, e)) {x y : Int} (hx : ns.getLastD 0 = x) (hy : y = x * m % p) (hne : y ≠ f) : ∃ k, n = k + 1 ∧ ∀ t e', RInv p m f k (vs ++ [.int y t], ns ++ [y], e') := by
  cases n with
  | zero =>
    obtain ⟨k, hk, _⟩ := h.more (e' := 0) (t := 0) hx hy hne
    exact absurd hk (by omega)
  | succ k =>
    refine ⟨k, rfl, fun t e' => ?_⟩
    obtain ⟨k', hk, q⟩ := h.more (e' := e') (t := t) hx hy hne
    have : k' = k := by omega
    exact this ▸ q
theorem push_ints {v : Value} {vs : List Value} : vs.toArray.push v = (vs ++ [v]).toArray := by simp
end Mine
namespace Mine
section
variable {prog : Program} {w : World} {A : Around} {E : Value → Shared → Prop} {s : Shared} {h₀ : Heap} {L D b : Addr} {m : Str → Option Value} {news news' : Led} {vs us : List Value} {n n2 : Nat} {Q : Value → Shared → Prop}
theorem ext_S (F : Fr h₀ L s.heap m) (N : News h₀ L s.heap news) (hb : (b, listOf us.toArray n2) ∈ news) (U : Upd D (listOf vs.toArray n) (listOf (vs ++ us).toArray (n + 1)) news news')
    (h : ∀ h', Fr h₀ L h' m → News h₀ L h' news' → Q .none { s with heap := h' }) (hp : Stop (us.length ≠ 0 ∧ vs.length + us.length ≤ 1000)) :
    wpAny (model prog w) A (call (.builtin "list.extend") [.ref D, .ref b]) Q E s := by
  obtain ⟨h1, h2⟩ := hp
  refine kl_extend (l := vs ++ us) F N hb (by simp) (by simpa using h1) U ?_ ?_ ?_ h
  · intro q
    rw [Bool.and_eq_true] at q
    have q := q.2
    revert q
    unfold Builtin.List.listTooLong
    rw [sizeLine_eq]
    simp
    omega
  · rw [sizeLine_eq]; simp; omega
  · rw [sizeLine_eq]; simp; omega
end
end Mine
namespace Mine
theorem div_fact {p f U T Q : Int} {S : Nat} (hf0 : 0 ≤ f) (hf : f < p) (hT0 : 0 ≤ T) (hT : T < 2 ^ S) (hU : U = 1 * 2 ^ S + T) (hQ : f * 2 ^ S = Q * p + f) :
    (f * U * 2 ^ S + T) / (p * U) = Q ∧ (f * U * 2 ^ S + T) % (p * U) = f * U + T := by
  have hp := kbt_pos S
  have h1 : Q * (p * U) + (f * U + T) = f * U * 2 ^ S + T := by
    have : f * U * 2 ^ S = U * (f * 2 ^ S) := by grind
    rw [this, hQ]; grind
  have h2 : 0 ≤ f * U := Int.mul_nonneg hf0 (by omega)
  have h3 : (f + 1) * U ≤ p * U := Int.mul_le_mul_of_nonneg_right (by omega) (by omega)
  have h4 : (f + 1) * U = f * U + U := by grind
  obtain ⟨a, b⟩ := ediv_of h1 (by omega) (by omega)
  exact ⟨a.symm, b.symm⟩
theorem bits_lo {b : Int} (hb : 0 < b) : 1 ≤ Builtin.Int.intBits b ∧ 2 ^ (((Builtin.Int.intBits b : Nat) : Int) - 1).toNat ≤ b ∧ b < 2 ^ ((Builtin.Int.intBits b : Nat) : Int).toNat := by
  have h1 : 1 ≤ Builtin.Int.intBits b := by
    refine Nat.pos_of_ne_zero fun hz => ?_
    have := (intBits_le_iff (x := b) (m := 0)).mp (by omega)
    simp at this; omega
  refine ⟨h1, ?_, ?_⟩
  · rcases Int.lt_or_le b (2 ^ (((Builtin.Int.intBits b : Nat) : Int) - 1).toNat) with h | h
    · exfalso
      have := bits_of (Int.le_of_lt hb) h
      omega
    · exact h
  · have := intBits_le_iff.mp (Nat.le_refl (Builtin.Int.intBits b))
    have h3 : (b.natAbs : Int) < ((2 ^ (Builtin.Int.intBits b) : Nat) : Int) := by exact_mod_cast this
    rw [kbt_cast] at h3
    rw [Int.toNat_natCast]
    omega
theorem call_pre {p f U T : Int} {S : Nat} (hp1 : 7 ≤ p) (hp2 : p ≤ 47) (hf0 : 0 ≤ f) (hf : f < p) (hT0 : 0 ≤ T) (hT : T < 2 ^ S) (hU : U = 1 * 2 ^ S + T) (hS : S ≤ 28717) :
    1 ≤ ((Builtin.Int.intBits (p * U) : Nat) : Int) ∧ ((Builtin.Int.intBits (p * U) : Nat) : Int) ≤ 2 ^ 16 ∧ ((Builtin.Int.intBits (p * U) : Nat) : Int) ≤ 65536 ∧ 2 ^ (((Builtin.Int.intBits (p * U) : Nat) : Int) - 1).toNat ≤ p * U ∧ p * U < 2 ^ ((Builtin.Int.intBits (p * U) : Nat) : Int).toNat ∧
    0 ≤ f * U * 2 ^ S + T ∧ f * U * 2 ^ S + T < p * U * 2 ^ ((Builtin.Int.intBits (p * U) : Nat) : Int).toNat := by
  have hp := kbt_pos S
  have u0 : 0 < U := by omega
  have b0 : 0 < p * U := Int.mul_pos (by omega) u0
  obtain ⟨h1, h2, h3⟩ := bits_lo b0
  have hup : Builtin.Int.intBits (p * U) ≤ S + 7 := by
    refine bits_of (Int.le_of_lt b0) ?_
    have e : (2 : Int) ^ (S + 7) = 2 ^ S * 128 := by rw [Int.pow_add]; rfl
    have : p * U ≤ 47 * U := Int.mul_le_mul_of_nonneg_right hp2 (by omega)
    omega
  have hlo : S ≤ Builtin.Int.intBits (p * U) := by
    refine Nat.le_of_not_lt fun hlt => ?_
    have hq := (intBits_le_iff (x := p * U) (m := S)).mp (by omega)
    have h4 : ((p * U).natAbs : Int) < ((2 ^ S : Nat) : Int) := by exact_mod_cast hq
    rw [kbt_cast] at h4
    have : 7 * U ≤ p * U := Int.mul_le_mul_of_nonneg_right hp1 (by omega)
    omega
  have e16 : (2 : Int) ^ 16 = 65536 := by decide
  have ha : 0 ≤ f * U * 2 ^ S := Int.mul_nonneg (Int.mul_nonneg hf0 (by omega)) (by omega)
  refine ⟨by omega, by omega, by omega, h2, h3, by omega, ?_⟩
  have g1 : (f + 1) * (U * 2 ^ S) ≤ p * (U * 2 ^ S) := Int.mul_le_mul_of_nonneg_right (by omega) (Int.mul_nonneg (by omega) (by omega))
  have g2 : (f + 1) * (U * 2 ^ S) = f * U * 2 ^ S + U * 2 ^ S := by grind
  have g3 : p * (U * 2 ^ S) = p * U * 2 ^ S := by grind
  have g4 : 1 * 2 ^ S ≤ U * 2 ^ S := Int.mul_le_mul_of_nonneg_right (by omega) (by omega)
  have g5 : (2 : Int) ^ S ≤ 2 ^ ((Builtin.Int.intBits (p * U) : Nat) : Int).toNat := by
    rw [Int.toNat_natCast]
    obtain ⟨k, hk⟩ : ∃ k, Builtin.Int.intBits (p * U) = S + k := ⟨_, (Nat.add_sub_of_le hlo).symm⟩
    rw [hk, Int.pow_add]
    have := kbt_pos k
    have : (2 : Int) ^ S * 1 ≤ 2 ^ S * 2 ^ k := Int.mul_le_mul_of_nonneg_left (by omega) (by omega)
    omega
  have g6 : p * U * 2 ^ S ≤ p * U * 2 ^ ((Builtin.Int.intBits (p * U) : Nat) : Int).toNat := Int.mul_le_mul_of_nonneg_left g5 (Int.le_of_lt b0)
  omega
/-- the prime's power of two is no multiple -/
theorem two_ne : ∀ (wd : Nat) {p : Int}, P7 p → 1 ≤ (2 : Int) ^ wd % p
  | 0, p, h => by
    have := h.le
    rw [Int.pow_zero, Int.emod_eq_of_lt (by omega) (by omega)]; omega
  | wd + 1, p, h => by
    have ih := two_ne wd h
    have hb := Int.emod_lt_of_pos (2 ^ wd) (show 0 < p by have := h.le; omega)
    rw [Int.pow_succ, Int.mul_emod]
    generalize (2 : Int) ^ wd % p = x at *
    have hpl := h.le
    rw [show (2 : Int) % p = 2 from Int.emod_eq_of_lt (by omega) (by omega)]
    unfold P7 at h
    rcases h with rfl | rfl | rfl | rfl | rfl | rfl | rfl <;> omega
theorem tail_b (d : Int) (S : Nat) : 0 ≤ d.fmod (1 * 2 ^ S) ∧ d.fmod (1 * 2 ^ S) < 2 ^ S := by
  have hp := kbt_pos S
  rw [Int.one_mul, Int.fmod_eq_emod_of_nonneg _ (Int.le_of_lt hp)]
  exact ⟨Int.emod_nonneg _ (Int.ne_of_gt hp), Int.emod_lt_of_pos _ hp⟩
theorem sh_pre {f T : Int} {S : Nat} (hf0 : 0 ≤ f) (hf : f ≤ 47) (hT0 : 0 ≤ T) (hT : T < 2 ^ S) : Builtin.Int.intBits (f * (1 * 2 ^ S + T)) ≤ S + 7 := by
  have hp := kbt_pos S
  refine bits_of (Int.mul_nonneg hf0 (by omega)) ?_
  have e : (2 : Int) ^ (S + 7) = 2 ^ S * 128 := by rw [Int.pow_add]; rfl
  have : f * (1 * 2 ^ S + T) ≤ 47 * (1 * 2 ^ S + T) := Int.mul_le_mul_of_nonneg_right hf (by omega)
  omega
theorem sz_b {wd n : Nat} (h1 : (wd : Int) ≤ 611) (h2 : n ≤ 47) : 0 ≤ (wd : Int) * (n : Int) ∧ (wd : Int) * (n : Int) ≤ 28717 := by
  refine ⟨Int.mul_nonneg (by omega) (by omega), ?_⟩
  have : (wd : Int) * (n : Int) ≤ 611 * 47 := Int.mul_le_mul h1 (by omega) (by omega) (by omega)
  omega
theorem come_mono {p m : Int} {i : Nat} : ∀ k, (comeN p m i).length ≤ (comeN p m (i + k)).length
  | 0 => Nat.le_refl _
  | k + 1 => by
    refine Nat.le_trans (come_mono k) ?_
    show _ ≤ (comeN p m (i + k + 1)).length
    rw [comeN]
    split
    · exact Nat.le_refl _
    · rw [List.length_append]; omega
theorem come_len {p m : Int} (hp : P7 p) (h1 : 1 ≤ m) (h2 : m < p) {i : Nat} (hi : i ≤ (p - 1).toNat) : (comeN p m i).length ≤ 46 := by
  have hpl := hp.le
  have h := (come_fact hp h1 h2).1.length_eq
  have hm := come_mono (p := p) (m := m) (i := i) (p.toNat - 1 - i)
  rw [show i + (p.toNat - 1 - i) = p.toNat - 1 by omega, h] at hm
  have : (rangeKs 1 (p - 1).toNat).length = (p - 1).toNat := by simp [rangeKs]
  omega
theorem one_bits : Builtin.Int.intBits 1 = 1 := by decide
end Mine
namespace Mine
theorem orb_head {p m f : Int} {n : Nat} {x : Int} : ∃ l, orb p m f (n + 1) x = x :: l := ⟨_, rfl⟩
theorem quot_fact {p m f : Int} {wd : Nat} {ns : List Int} (hp : 0 < p) (hp2 : p ≤ 47) (hf0 : 1 ≤ f) (hf : f < p) (hw : 12 ≤ wd) (hns : ns = rst p m f) :
    0 < valB (2 ^ wd) (figs p (2 ^ wd) ns) ∧ ((Builtin.Int.intBits (valB (2 ^ wd) (figs p (2 ^ wd) ns)) : Int) + (wd : Int) - 1) / (wd : Int) = (ns.length : Int) ∧ (digs (valB (2 ^ wd) (figs p (2 ^ wd) ns)) wd ns.length).reverse = figs p (2 ^ wd) ns ∧ ∀ r ∈ ns, 0 ≤ r ∧ r < p := by
  obtain ⟨l, hl⟩ := orb_head (p := p) (m := m) (f := f) (n := 45) (x := f)
  have hb := orb_bnd (p := p) (m := m) (f := f) hp 46 f (by omega) hf
  have hns' : ns = f :: l := by rw [hns]; exact hl
  rw [show orb p m f 46 f = ns from hns.symm] at hb
  have hB : (0 : Int) < 2 ^ wd := kbt_pos _
  have hfb : ∀ d ∈ figs p (2 ^ wd) ns, 0 ≤ d ∧ d < 2 ^ wd := by
    intro d hd
    obtain ⟨r, hr, rfl⟩ := List.mem_map.mp hd
    obtain ⟨h0, h1⟩ := hb r hr
    refine ⟨Int.ediv_nonneg (Int.mul_nonneg h0 (Int.le_of_lt hB)) (Int.le_of_lt hp), Int.ediv_lt_of_lt_mul hp ?_⟩
    have : (r + 1) * 2 ^ wd ≤ p * 2 ^ wd := Int.mul_le_mul_of_nonneg_right (by omega) (Int.le_of_lt hB)
    rw [Int.add_mul] at this
    rw [Int.mul_comm (2 ^ wd) p]
    omega
  have hlen : (figs p (2 ^ wd) ns).length = ns.length := List.length_map ..
  have hdv := digs_val hfb
  rw [hlen] at hdv
  have hb12 : (4096 : Int) ≤ 2 ^ wd := by
    obtain ⟨k, rfl⟩ : ∃ k, wd = 12 + k := ⟨wd - 12, by omega⟩
    rw [Int.pow_add]
    have := kbt_pos k
    have : (2 : Int) ^ 12 = 4096 := by decide
    rw [this]; omega
  have hcons : figs p (2 ^ wd) ns = f * 2 ^ wd / p :: figs p (2 ^ wd) l := by rw [hns']; rfl
  have hd0 : 0 < f * 2 ^ wd / p := by
    have h1 : 1 * (2 : Int) ^ wd ≤ f * 2 ^ wd := Int.mul_le_mul_of_nonneg_right hf0 (Int.le_of_lt hB)
    have : 1 ≤ f * 2 ^ wd / p := Int.le_ediv_of_mul_le hp (by omega)
    omega
  rw [hcons] at hfb
  obtain ⟨q1, q2⟩ := bits_val (by omega) hfb hd0
  have hll : (figs p (2 ^ wd) l).length = l.length := List.length_map ..
  rw [hll] at q2
  have hnl : (ns.length : Int) = (l.length : Int) + 1 := by rw [hns']; simp
  exact ⟨hcons ▸ q1, by rw [hnl, hcons]; exact q2, hdv, hb⟩
theorem tab_swap {h₀ h : Heap} {L : Addr} {tb : Tab} {own tl : Led} {x0 x1 x2 x3 x4 x5 x6 x7 x8 : Addr × Obj} (N : News h₀ L h (x0 :: x1 :: x2 :: x3 :: x4 :: x5 :: x6 :: x7 :: x8 :: tl)) (htl : tl = tabLed tb ++ own) :
    News h₀ L h (tabLed tb ++ (x1 :: x2 :: x3 :: x4 :: x5 :: x6 :: x7 :: x8 :: own)) := by
  subst htl
  refine cb_drop N fun p hp => ?_
  simp only [List.mem_append, List.mem_cons] at hp ⊢
  rcases hp with hp | hp | hp | hp | hp | hp | hp | hp | hp | hp <;> simp [hp]
theorem tab_sep {h₀ h : Heap} {L : Addr} {tb : Tab} {own : Led} {x1 x2 x3 x4 x5 x6 x7 x8 : Addr × Obj} (N : News h₀ L h (tabLed tb ++ (x1 :: x2 :: x3 :: x4 :: x5 :: x6 :: x7 :: x8 :: own))) (ht : TabOk tb)
    (hs : Shp [x1, x2, x3, x4, x5, x6, x7, x8]) (ho : ∀ p ∈ own, ∀ q ∈ tabLed tb, p.1 ≠ q.1) : ∀ p ∈ x1 :: x2 :: x3 :: x4 :: x5 :: x6 :: x7 :: x8 :: own, ∀ q ∈ tabLed tb, p.1 ≠ q.1 := by
  intro p hp q hq
  have hp' : p ∈ [x1, x2, x3, x4, x5, x6, x7, x8] ∨ p ∈ own := by
    have : p ∈ [x1, x2, x3, x4, x5, x6, x7, x8] ++ own := hp
    exact List.mem_append.mp this
  rcases hp' with h | h
  · exact News.ne' N (List.mem_append.mpr (.inr hp)) (List.mem_append.mpr (.inl hq)) (shp_ne (hs p h) (tabLed_f ht q hq))
  · exact ho p h q hq
theorem tab_back {h₀ h : Heap} {L : Addr} {tb : Tab} {own : Led} {x0 x1 x2 x3 x4 x5 x6 x7 x8 : Addr × Obj} (N : News h₀ L h (x0 :: (tabLed tb ++ (x1 :: x2 :: x3 :: x4 :: x5 :: x6 :: x7 :: x8 :: own)))) :
    News h₀ L h (x0 :: x1 :: x2 :: x3 :: x4 :: x5 :: x6 :: x7 :: x8 :: (tabLed tb ++ own)) := by
  refine cb_drop N fun p hp => ?_
  simp only [List.mem_append, List.mem_cons] at hp ⊢
  rcases hp with hp | hp | hp | hp | hp | hp | hp | hp | hp | hp | hp <;> simp [hp]
theorem tab_off3 {h₀ h : Heap} {L a b c : Addr} {oa ob oc : Obj} {x0 x1 d e f g : Addr × Obj} {tb : Tab} {own : Led} (N : News h₀ L h (x0 :: x1 :: (a, oa) :: (b, ob) :: (c, oc) :: d :: e :: f :: g :: (tabLed tb ++ own))) (ht : TabOk tb)
    (ha : ∃ xs n, oa.data = .seq xs n) (hb : ∃ xs n, ob.data = .seq xs n) (hc : ∃ xs n, oc.data = .seq xs n) {r : List Addr} (ho : OwnOff own (a :: b :: c :: r)) :
    OwnOff (tabLed tb ++ own) [a] ∧ OwnOff (tabLed tb ++ own) [b] ∧ OwnOff (tabLed tb ++ own) [c] :=
  off3 (cb_drop N fun p hp => .tail _ (.tail _ hp)) ht ha hb hc ho
theorem own_off {own : Led} {tb : Tab} {a b c d e f g : Addr} (h : OwnOff own (a :: b :: c :: d :: e :: f :: g :: (tabLed tb).map (·.1))) : ∀ p ∈ own, ∀ q ∈ tabLed tb, p.1 ≠ q.1 := by
  intro p hp q hq
  refine h p hp q.1 ?_
  have : q.1 ∈ (tabLed tb).map (·.1) := List.mem_map.mpr ⟨q, hq, rfl⟩
  simp only [List.mem_cons]
  simp [this]
end Mine
namespace Mine
theorem figs_eq {p : Int} {wd : Nat} {ns : List Int} (hp : 0 < p) : figs p (2 ^ wd) ns = List.map (fun k' => (k' * 2 ^ ((wd : Int)).toNat).fdiv p) ns := by
  unfold figs
  refine List.map_congr_left fun r _ => ?_
  rw [Int.fdiv_eq_ediv_of_nonneg _ (Int.le_of_lt hp), Int.toNat_natCast]
section
variable {prog : Program} {w : World} {A : Around} {E : Value → Shared → Prop} {s : Shared} {h₀ : Heap} {L l : Addr} {m : Str → Option Value} {news : Led} {value slice : PySem.Expr} {vs : List Value} {ns : List Int} {vk : Value} {ops : List Value} {Q : Value → Shared → Prop}
theorem rev_S {n : Nat} (F : Fr h₀ L s.heap m) (N : News h₀ L s.heap news) (hm : (l, listOf vs.toArray n) ∈ news) (pk : IsPart vk (some (-1))) (hi : IntsAre vs ns) (hz : ns.length ≤ 1000)
    (h : ∀ D ws h', Fr h₀ L h' m → News h₀ L h' ((D, listOf (List.toArray ws) 0) :: news) → (∀ p ∈ news, p.1 < D) → IntsAre ws ns.reverse → Q (.ref D) { s with heap := h' })
    (hs : subscripted slice false (.ref l) (.ref s.heap.objs.size) = operate ops (getItem (.ref l) (.ref s.heap.objs.size))) :
    wpAny (model prog w) A (subscriptTail value slice (.ref l) (.ref s.heap.objs.size)) Q E { s with heap := s.heap.push { cls := .type "slice", data := .fields #[.none, .none, vk] } } := by
  have hl : s.heap.IsList l vs.toArray := ⟨_, (N _ hm).1, rfl, n, rfl⟩
  refine tail_any (Heap.IsList.typeIs (s := { s with heap := s.heap.push { cls := .type "slice", data := .fields #[.none, .none, vk] } }) (hl.push _)) list_getitem_lookup
    (wpAny_getItem_list_slice (hl.push _) (Heap.IsSliceOf.new ..) .none .none pk (by decide) ?_ ?_) hs
  · have N1 := News.push (F.push { cls := .type "slice", data := .fields #[.none, .none, vk] }) (N.grown fun _ _ e => Heap.get?_push_of_some _ e) { cls := .type "list", data := .seq (slicePick vs.toArray none none (some (-1))) }
    rw [Heap.size_push] at N1
    show Q (.ref (s.heap.push _).objs.size) _
    rw [Heap.size_push]
    rw [show slicePick vs.toArray none none (some (-1)) = vs.reverse.toArray from krv_pick _] at N1 ⊢
    exact h _ vs.reverse _ ((F.push _).push _) N1 (fun p hp => Nat.lt_succ_of_lt (Heap.lt_size (N p hp).1)) hi.reverse
  · rw [sizeLine_eq, List.size_toArray, hi.length]; omega
end
end Mine
namespace Mine
section
variable {prog : Program} {w : World} {A : Around} {E : Value → Shared → Prop} {Q : Flow → Shared → Prop} {s : Shared} {env : Env} {h₀ : Heap} {xi xc : Str} {body : List Stmt}
/-- what a turn of the for over a zip must bring about -/
def ZEnd (h₀ : Heap) (L : Addr) (s : Shared) {σ : Type} (Ld : σ → Led) (ps : σ → List (Str × Value)) (stored : List Str) (m₀ : Str → Option Value) (P : Nat → σ → Prop) (own : Led) (i : Nat) (f : Flow) (s₃ : Shared) : Prop :=
  f = .next ∧ ∃ h' tk m₂ news₂ c', s₃ = { s with heap := h', toks := tk } ∧ Fr h₀ L h' m₂ ∧ News h₀ L h' news₂ ∧ (∀ p ∈ Ld c', p ∈ news₂) ∧ (∀ p ∈ own, p ∈ news₂) ∧ Bnd m₂ (ps c') ∧ (∀ z, stored.contains z = false → m₂ z = m₀ z) ∧ P i c'
theorem ZEnd.intro {L : Addr} {σ : Type} {Ld : σ → Led} {ps : σ → List (Str × Value)} {stored : List Str} {m₀ : Str → Option Value} {P : Nat → σ → Prop} {own : Led} {i : Nat} (c' : σ) {h' : Heap} {tk : Nat} {m₂ : Str → Option Value} {news₂ : Led}
   (F : Fr h₀ L h' m₂) (N : News h₀ L h' news₂) (h1 : ∀ p ∈ Ld c', p ∈ news₂) (h0 : ∀ p ∈ own, p ∈ news₂) (h2 : Bnd m₂ (ps c')) (h3 : ∀ z, stored.contains z = false → m₂ z = m₀ z) (h5 : P i c') :
   ZEnd h₀ L s Ld ps stored m₀ P own i .next { s with heap := h', toks := tk } := ⟨rfl, h', tk, m₂, news₂, c', rfl, F, N, h1, h0, h2, h3, h5⟩
theorem zip_for {σ : Type} {l1 l2 : Addr} {n1 n2 : Nat} {vs₁ vs₂ : List Value} {as bs : List Int} {m₀ : Str → Option Value} {news : Led} (Ld : σ → Led) (ps : σ → List (Str × Value)) (stored : List Str) (P : Nat → σ → Prop) (c₀ : σ)
    (hh : A.handled = none) (F : Fr h₀ env.locals s.heap m₀) (N : News h₀ env.locals s.heap news) (hm1 : (l1, listOf vs₁.toArray n1) ∈ news) (hm2 : (l2, listOf vs₂.toArray n2) ∈ news)
    (hl : ∀ p ∈ Ld c₀, p ∈ news) (hf1 : ∀ p ∈ Ld c₀, p.1 ≠ l1) (hf2 : ∀ p ∈ Ld c₀, p.1 ≠ l2) (hi1 : IntsAre vs₁ as) (hi2 : IntsAre vs₂ bs)
    (hmap : ∀ c, (Ld c).map (·.1) = (Ld c₀).map (·.1)) (hx1 : stored.contains xi = true) (hx2 : stored.contains xc = true) (hx3 : xi ≠ xc) (hps : ∀ c, ∀ p ∈ ps c, p.1 ≠ xc ∧ p.1 ≠ xi)
    (hp : Bnd m₀ (ps c₀)) (hP : P 0 c₀)
    (turn : ∀ i c u h tk own a b ta tb, as[i]? = some a → bs[i]? = some b → P i c → (∀ p ∈ own, ∀ q ∈ Ld c₀, p.1 ≠ q.1) → Fr h₀ env.locals h (lm stored u m₀ ((xc, .int b tb) :: (xi, .int a ta) :: ps c)) → News h₀ env.locals h (Ld c ++ own) →
      wpAny (model prog w) A (execs body env) (ZEnd h₀ env.locals s Ld ps stored m₀ P own (i + 1)) E { s with heap := h, toks := tk })
    (done : ∀ c u h tk, P (as.zip bs).length c → Fr h₀ env.locals h (lm stored u m₀ (ps c)) → News h₀ env.locals h (Ld c) → Q .next { s with heap := h, toks := tk }) :
    wpAny (model prog w) A (call (.type "zip") [.ref l1, .ref l2]) (fun xv s₁ => wpAny (model prog w) A (pyIter xv) (fun it s₂ => PairAt3 prog w A h₀ env xi xc body Q E it s₂) E s₁) E s := by
  have hax1 := N _ hm1
  have hax2 := N _ hm2
  have hl1 : s.heap.IsList l1 vs₁.toArray := ⟨_, hax1.1, rfl, n1, rfl⟩
  have hl2 : s.heap.IsList l2 vs₂.toArray := ⟨_, hax2.1, rfl, n2, rfl⟩
  have a1 : l1 < s.heap.objs.size := Heap.lt_size hax1.1
  have a2 : l2 < s.heap.objs.size := Heap.lt_size hax2.1
  have hLs : env.locals < s.heap.objs.size := F.ns.lt
  refine call_zip_2 hl1 hl2 fun h' hz hTI hTO hit1 hit2 hsz hk => ?_
  have F' : Fr h₀ env.locals h' m₀ := F.keeps hk
  have N' : News h₀ env.locals h' (Ld c₀) := fun p hp => ⟨hk _ _ (N p (hl p hp)).1, (N p (hl p hp)).2⟩
  have hab : h₀.objs.size ≤ env.locals := F.above
  have hnews : ∀ q ∈ Ld c₀, q.1 < s.heap.objs.size := fun q hq => Heap.lt_size (N q (hl q hq)).1
  have S : PairSrc2 prog w A E h₀ env ItemKind.int ItemKind.int as bs (.ref (s.heap.objs.size + 4)) { s with heap := h' } m₀ (Ld c₀) := by
    refine zipSrc hh (zipApart_new a1 a2) ⟨hz, hTI, ⟨_, _, hTO⟩, hit1, hit2, hl1.at fun o e => hk l1 o e, hl2.at fun o e => hk l2 o e⟩ hi1.areOf hi2.areOf ?_ ?_ ?_ ?_ F' N'
    · intro hm
      simp only [List.mem_cons, List.not_mem_nil, or_false] at hm
      have up : ∀ k, env.locals ≠ s.heap.objs.size + k := fun k e => Nat.ne_of_lt (Nat.lt_of_lt_of_le hLs (Nat.le_add_right _ k)) e
      rcases hm with e | e | e | e | e | e | e
      · exact up 4 e
      · exact up 2 e
      · exact up 3 e
      · exact up 0 e
      · exact up 1 e
      · exact hax1.2.1 e.symm
      · exact hax2.2.1 e.symm
    · intro b hb
      simp only [List.mem_cons, List.not_mem_nil, or_false] at hb
      have nw : ∀ k, h₀.get? (s.heap.objs.size + k) = none := fun k => Heap.get?_none_of_le (Nat.le_trans hab (Nat.le_trans (Nat.le_of_lt hLs) (Nat.le_add_right _ k)))
      rcases hb with rfl | rfl | rfl | rfl
      · exact nw 4
      · exact nw 3
      · exact nw 0
      · exact nw 1
    · intro p hp hm
      have hq1 := hnews p hp
      simp only [List.mem_cons, List.not_mem_nil, or_false] at hm
      have dn : ∀ k, p.1 ≠ s.heap.objs.size + k := fun k e => Nat.ne_of_lt (Nat.lt_of_lt_of_le hq1 (Nat.le_add_right _ k)) e
      rcases hm with e | e | e | e
      · exact dn 4 e
      · exact dn 3 e
      · exact dn 0 e
      · exact dn 1 e
    · intro b hb q hq e
      have hq1 := hnews q hq
      simp only [List.mem_cons, List.not_mem_nil, or_false] at hb
      have gt : ∀ k, s.heap.objs.size + k ≠ q.1 := fun k e => Nat.ne_of_gt (Nat.lt_of_lt_of_le hq1 (Nat.le_add_right _ k)) e
      rcases hb with rfl | rfl | rfl | rfl | rfl | rfl | rfl
      · exact gt 4 e
      · exact gt 2 e
      · exact gt 3 e
      · exact gt 0 e
      · exact gt 1 e
      · exact hf1 q hq e.symm
      · exact hf2 q hq e.symm
  refine S xi xc body Q (fun i m nx => ∃ c, nx = Ld c ∧ Bnd m (ps c) ∧ (∀ z, stored.contains z = false → m z = m₀ z) ∧ P i c) ⟨c₀, rfl, hp, fun _ _ => rfl, hP⟩ ?_ ?_
  · rintro i a b va vb m₁ news₁ s₁ own ⟨hh', tk', rfl⟩ ha hb ⟨ta, rfl⟩ ⟨tb, rfl⟩ ⟨c, rfl, q1, q2, q3⟩ _ hsep F₁ N₁
    have em : lm stored (fun y => if y = xc then some (.int b tb) else if y = xi then some (.int a ta) else m₁ y) m₀ ((xc, .int b tb) :: (xi, .int a ta) :: ps c) = fun y => if y = xc then some (.int b tb) else if y = xi then some (.int a ta) else m₁ y := by
      refine lm_eq ?_ ?_
      · refine List.forall_mem_cons.mpr ⟨if_pos rfl, List.forall_mem_cons.mpr ⟨?_, fun p hp => ?_⟩⟩
        · show (if xi = xc then _ else if xi = xi then _ else _) = _
          rw [if_neg hx3, if_pos rfl]
        · obtain ⟨n1, n2⟩ := hps c p hp
          show (if p.1 = xc then _ else if p.1 = xi then _ else _) = _
          rw [if_neg n1, if_neg n2]
          exact q1.all p hp
      · intro z hz
        have z1 : z ≠ xc := by rintro rfl; rw [hx2] at hz; cases hz
        have z2 : z ≠ xi := by rintro rfl; rw [hx1] at hz; cases hz
        show (if z = xc then _ else if z = xi then _ else _) = _
        rw [if_neg z1, if_neg z2]; exact q2 z hz
    have N₂ : News h₀ env.locals hh' (Ld c ++ own) := fun p hp => N₁ p ((List.mem_append.mp hp).elim (fun h => List.mem_append.mpr (.inr h)) fun h => List.mem_append.mpr (.inl h))
    refine wpAny_mono (turn i c _ hh' tk' own a b ta tb ha hb q3 hsep (em ▸ F₁) N₂) (fun f s₃ h => ?_) fun _ _ e => e
    obtain ⟨rfl, h₃, tk₃, m₂, news₂, c', rfl, F₃, N₃, r1, r2, r3, r4, r5⟩ := h
    exact ⟨rfl, h₃, tk₃, m₂, Ld c', rfl, F₃, fun p hp => N₃ p ((List.mem_append.mp hp).elim (r2 p) (r1 p)), by rw [hmap c', hmap c], c', rfl, r3, r4, r5⟩
  · rintro h₃ tk₃ m₃ news₃ F₃ N₃ _ ⟨c, rfl, q1, q2, q3⟩
    have em : lm stored m₃ m₀ (ps c) = m₃ := lm_eq q1.all q2
    exact done c m₃ h₃ tk₃ q3 (em.symm ▸ F₃) N₃
end
end Mine
namespace Mine
structure ZS where
  ov : List Value
  oe : Nat
  sv : List Value
  se : Nat
  on : List Int
  sn : List Int
  sec : Int
  st : Tok
abbrev ZLd (a b c : Addr) (oa : Obj) (d e f g : Addr × Obj) (tl : Led) (x : ZS) : Led := (a, oa) :: (b, listOf x.ov.toArray x.oe) :: (c, listOf x.sv.toArray x.se) :: d :: e :: f :: g :: tl
structure ZInv (p : Int) (h : Nat) (R : List Int) (x : ZS) : Prop where
  ho : IntsAre x.ov x.on
  hs : IntsAre x.sv x.sn
  so : sorted x.on
  ss : sorted x.sn
  co : ∀ k, cntLt x.on k = cOt p h R k
  cs : ∀ k, cntLt x.sn k = cSq p h R k
  lo : x.on.length ≤ R.length
  ls : x.sn.length ≤ R.length
  sec : x.sec = (R.map (secs p h)).sum
abbrev zPs (x : ZS) : List (Str × Value) := [(Str.ofString "seconds", .int x.sec x.st)]
abbrev zSt : List Str := [Str.ofString "seconds", Str.ofString "rest", Str.ofString "figure", Str.ofString "hours", Str.ofString "minutes"]
section
variable {prog : Program} {w : World} {A : Around} {E : Value → Shared → Prop} {Q : Flow → Shared → Prop} {s : Shared} {env : Env} {h₀ : Heap} {body : List Stmt}
theorem inner_for {l1 l2 a b c : Addr} {n1 n2 oe se : Nat} {vs₁ vs₂ ov sv : List Value} {on sn ns fs R₀ : List Int} {sec : Int} {st : Tok} {oa : Obj} {x0 x2 d e f g : Addr × Obj} {tl own : Led} {q : Addr × Obj} {m₀ : Str → Option Value} (p : Int) (hd : Nat) (X : Prop)
    (hh : A.handled = none) (F : Fr h₀ env.locals s.heap m₀) (N : News h₀ env.locals s.heap (x0 :: (l2, listOf vs₂.toArray n2) :: x2 :: (l1, listOf vs₁.toArray n1) :: (a, oa) :: (b, listOf ov.toArray oe) :: (c, listOf sv.toArray se) :: d :: e :: f :: g :: tl))
    (hs : m₀ (Str.ofString "seconds") = some (.int sec st)) (hi1 : IntsAre vs₁ ns) (hi2 : IntsAre vs₂ fs) (htl : tl = tabLed (some q) ++ own) (hok : OkC q.2)
    (r1 : a < l1 ∧ b < l1 ∧ c < l1 ∧ d.1 < l1 ∧ e.1 < l1 ∧ f.1 < l1 ∧ g.1 < l1 ∧ X) (r2 : ∀ p ∈ own, p.1 < l1) (r3 : ∀ p ∈ x2 :: (l1, listOf vs₁.toArray n1) :: (a, oa) :: (b, listOf ov.toArray oe) :: (c, listOf sv.toArray se) :: d :: e :: f :: g :: tl, p.1 < l2)
    (h0 : ZInv p hd R₀ ⟨ov, oe, sv, se, on, sn, sec, st⟩)
    (turn : ∀ i (z : ZS) u h tk own' r t ta tb, ns[i]? = some r → fs[i]? = some t → ZInv p hd (R₀ ++ ns.take i) z → (∀ p ∈ own', ∀ q ∈ ZLd a b c oa d e f g tl ⟨ov, oe, sv, se, on, sn, sec, st⟩, p.1 ≠ q.1) → Fr h₀ env.locals h (lm zSt u m₀ ((Str.ofString "figure", .int t tb) :: (Str.ofString "rest", .int r ta) :: zPs z)) → News h₀ env.locals h (ZLd a b c oa d e f g tl z ++ own') →
      wpAny (model prog w) A (execs body env) (ZEnd h₀ env.locals s (ZLd a b c oa d e f g tl) zPs zSt m₀ (fun i z => ZInv p hd (R₀ ++ ns.take i) z) own' (i + 1)) E { s with heap := h, toks := tk })
    (done : ∀ (z : ZS) u h tk, ZInv p hd (R₀ ++ ns.take (ns.zip fs).length) z → Fr h₀ env.locals h (lm zSt u m₀ (zPs z)) → News h₀ env.locals h (ZLd a b c oa d e f g tl z) → Q .next { s with heap := h, toks := tk }) :
    wpAny (model prog w) A (call (.type "zip") [.ref l1, .ref l2]) (fun xv s₁ => wpAny (model prog w) A (pyIter xv) (fun it s₂ => PairAt3 prog w A h₀ env (Str.ofString "rest") (Str.ofString "figure") body Q E it s₂) E s₁) E s := by
  refine zip_for (ZLd a b c oa d e f g tl) zPs zSt (fun i z => ZInv p hd (R₀ ++ ns.take i) z) ⟨ov, oe, sv, se, on, sn, sec, st⟩ hh F N (.tail _ (.tail _ (.tail _ (.head _)))) (.tail _ (.head _)) (fun p hp => .tail _ (.tail _ (.tail _ (.tail _ hp)))) ?_ (fun p hp => Nat.ne_of_lt (r3 p (.tail _ (.tail _ hp)))) hi1 hi2 (fun _ => rfl) rfl rfl (by decide) ?_ (.cons hs .nil) ?_ turn done
  · obtain ⟨u1, u2, u3, u4, u5, u6, u7, _⟩ := r1
    intro p hp
    have hp' : p = (a, oa) ∨ p = (b, listOf ov.toArray oe) ∨ p = (c, listOf sv.toArray se) ∨ p = d ∨ p = e ∨ p = f ∨ p = g ∨ p ∈ tabLed (some q) ∨ p ∈ own := by
      subst htl
      simpa only [List.mem_cons, List.mem_append] using hp
    have hm1 : (l1, listOf vs₁.toArray n1) ∈ x0 :: (l2, listOf vs₂.toArray n2) :: x2 :: (l1, listOf vs₁.toArray n1) :: (a, oa) :: (b, listOf ov.toArray oe) :: (c, listOf sv.toArray se) :: d :: e :: f :: g :: tl := by simp
    have hpm : p ∈ x0 :: (l2, listOf vs₂.toArray n2) :: x2 :: (l1, listOf vs₁.toArray n1) :: (a, oa) :: (b, listOf ov.toArray oe) :: (c, listOf sv.toArray se) :: d :: e :: f :: g :: tl := .tail _ (.tail _ (.tail _ (.tail _ hp)))
    rcases hp' with rfl | rfl | rfl | rfl | rfl | rfl | rfl | h | h
    · exact Nat.ne_of_lt u1
    · exact Nat.ne_of_lt u2
    · exact Nat.ne_of_lt u3
    · exact Nat.ne_of_lt u4
    · exact Nat.ne_of_lt u5
    · exact Nat.ne_of_lt u6
    · exact Nat.ne_of_lt u7
    · exact (News.ne' N hm1 hpm (shp_ne (.inl ⟨_, _, rfl⟩) (tabLed_f (tb := some q) hok p h))).symm
    · exact Nat.ne_of_lt (r2 p h)
  · intro z p hp
    rw [List.mem_singleton.mp hp]
    exact ⟨(by decide : Str.ofString "seconds" ≠ Str.ofString "figure"), (by decide : Str.ofString "seconds" ≠ Str.ofString "rest")⟩
  · show ZInv p hd (R₀ ++ ns.take 0) _
    rw [List.take_zero, List.append_nil]; exact h0
end
theorem OInv.of_z {p m : Int} {h i : Nat} {ns fs : List Int} {cv vs : List Value} {ce : Nat} {z : ZS} {tb : Tab} (hn : comeN p m (i + 1) = comeN p m i ++ ns) (hc : IntsAre cv (comeN p m i)) (hv : IntsAre vs ns) (hl : fs.length = ns.length)
    (hz : ZInv p h (comeN p m i ++ ns.take (ns.zip fs).length) z) (ht : TabOk tb) : OInv p m h (i + 1) ⟨cv ++ vs, ce, z.ov, z.oe, z.sv, z.se, z.on, z.sn, z.sec, z.st, tb⟩ := by
  have e : ns.take (ns.zip fs).length = ns := by
    rw [List.length_zip, hl, Nat.min_self, List.take_length]
  rw [e, ← hn] at hz
  obtain ⟨a1, a2, a3, a4, a5, a6, a7, a8, a9⟩ := hz
  exact ⟨by rw [hn]; exact IntsAre.append hc hv, a1, a2, a3, a4, a5, a6, a7, a8, a9, ht⟩
theorem hc_new {a b c : Addr} {d e f g : Addr × Obj} {z z' : OS} {q : Addr × Obj} {own : Led} (hz : z'.tb = some q) (hne : ∀ p ∈ own, p.1 ≠ q.1) :
    ∀ p ∈ OLd a b c d e f g z', p.1 ∈ (OLd a b c d e f g z).map (·.1) ∨ p.2.cls ≠ .type "range_iterator" ∨ ∀ r ∈ own, r.1 ≠ p.1 := by
  intro p hp
  have h47 : (47 : Addr) ∈ (tabLed z.tb).map (·.1) := by
    cases z.tb with
    | none => exact .head _
    | some c => exact .head _
  have hp' : p = (a, listOf z'.cv.toArray z'.ce) ∨ p = (b, listOf z'.ov.toArray z'.oe) ∨ p = (c, listOf z'.sv.toArray z'.se) ∨ p = d ∨ p = e ∨ p = f ∨ p = g ∨ p ∈ tabLed z'.tb := by
    simpa only [List.mem_cons] using hp
  rw [hz] at hp'
  rcases hp' with rfl | rfl | rfl | rfl | rfl | rfl | rfl | h
  · left; simp
  · left; simp
  · left; simp
  · left; simp
  · left; simp
  · left; simp
  · left; simp
  · have h' : p = (47, tabHit q.1) ∨ p = q := by simpa [tabLed] using h
    rcases h' with rfl | rfl
    · left
      simp only [List.map_cons, List.mem_cons]
      simp [h47]
    · exact .inr (.inr hne)
theorem offx_if {x : Str} {stored : List Str} {u m m₀ : Str → Option Value} (h : ∀ z, z ≠ x → stored.contains z = false → m z = m₀ z) : ∀ z, z ≠ x → stored.contains z = false → (if stored.contains z = true then u z else m z) = m₀ z := by
  intro z hx hz
  rw [hz]; simpa using h z hx hz
theorem offx_lm2 {x : Str} {stored st2 : List Str} {u m₀ m₂ : Str → Option Value} (h0 : ∀ z, z ≠ x → stored.contains z = false → m₀ z = m₂ z) {ps : List (Str × Value)} (h1 : (ps.all fun p => stored.contains p.1) = true) (h2 : (st2.all fun p => stored.contains p) = true) : ∀ z, z ≠ x → stored.contains z = false → lm st2 u m₀ ps z = m₂ z := by
  intro z hx hz
  induction ps with
  | nil =>
    show (if st2.contains z = true then u z else m₀ z) = m₂ z
    cases h3 : st2.contains z with
    | false => simp; exact h0 z hx hz
    | true =>
      have := List.all_eq_true.mp h2 z (by simpa using h3)
      rw [this] at hz; cases hz
  | cons p r ih =>
    rw [List.all_cons, Bool.and_eq_true] at h1
    have : z ≠ p.1 := by rintro rfl; rw [h1.1] at hz; cases hz
    show (if z = p.1 then some p.2 else kstB (fun z => if st2.contains z then u z else m₀ z) r z) = m₂ z
    rw [if_neg this]; exact ih h1.2
end Mine
namespace Mine
theorem figs_get {p B : Int} {ns : List Int} {j : Nat} {r f : Int} (hr : ns[j]? = some r) (hf : (figs p B ns)[j]? = some f) : f = r * B / p := by
  unfold figs at hf
  rw [List.getElem?_map, hr] at hf
  exact (Option.some.inj hf).symm
theorem get_mem {ns : List Int} {j : Nat} {r : Int} (hr : ns[j]? = some r) : r ∈ ns := List.mem_of_getElem? hr
theorem p64 {hd : Nat} (h : hd ≤ 6) : (2 : Int) ^ hd ≤ 64 := by
  have : hd = 0 ∨ hd = 1 ∨ hd = 2 ∨ hd = 3 ∨ hd = 4 ∨ hd = 5 ∨ hd = 6 := by omega
  rcases this with h | h | h | h | h | h | h <;> subst h <;> decide
theorem hm_fact {p r : Int} {wd hd : Nat} (hp : 0 < p) (h0 : 0 ≤ r) (h1 : r < p) (hw : 12 ≤ wd) (hh : hd ≤ 6) :
    r * 2 ^ wd / p / 2 ^ ((wd : Int) - 2 * (hd : Int)).toNat / (1 * 2 ^ ((hd : Int)).toNat) = hrs p hd r ∧ r * 2 ^ wd / p / 2 ^ ((wd : Int) - 2 * (hd : Int)).toNat % (1 * 2 ^ ((hd : Int)).toNat) = mns p hd r ∧ 0 ≤ hrs p hd r ∧ hrs p hd r < 64 ∧ 0 ≤ mns p hd r ∧ mns p hd r < 64 := by
  have e1 : ((wd : Int) - 2 * (hd : Int)).toNat = wd - 2 * hd := by omega
  have hB := kbt_pos hd
  have h64 := p64 hh
  rw [e1, Int.one_mul, Int.toNat_natCast, fig_cut hp (by omega), fig_hours hp]
  refine ⟨rfl, rfl, ?_, ?_, ?_, ?_⟩
  · exact Int.ediv_nonneg (Int.mul_nonneg h0 (Int.le_of_lt hB)) (Int.le_of_lt hp)
  · have : r * 2 ^ hd / p < 2 ^ hd := by
      refine Int.ediv_lt_of_lt_mul hp ?_
      have : (r + 1) * 2 ^ hd ≤ p * 2 ^ hd := Int.mul_le_mul_of_nonneg_right (by omega) (Int.le_of_lt hB)
      rw [Int.add_mul] at this
      rw [Int.mul_comm (2 ^ hd) p]
      omega
    unfold hrs; omega
  · exact Int.emod_nonneg _ (Int.ne_of_gt hB)
  · have := Int.emod_lt_of_pos (r * 2 ^ (2 * hd) / p) hB
    unfold mns; omega
theorem sq_any {p r : Int} : ((List.map (fun k' => (k' * k').fmod p) (rangeKs 1 ((p + 1).fdiv 2 - 1).toNat)).any fun x => x == r) = decide (r ∈ sqL p) := by
  unfold sqL
  rw [Bool.eq_iff_iff, List.any_eq_true, decide_eq_true_eq]
  constructor
  · rintro ⟨x, hx, e⟩; exact (beq_iff_eq.mp e) ▸ hx
  · intro h; exact ⟨r, h, beq_self_eq_true r⟩
theorem dv_pre {x : Int} {hd : Nat} (hb : (Builtin.Int.intBits x : Int) ≤ 1000) : 0 < 1 * (2 : Int) ^ ((hd : Int)).toNat ∧ Builtin.divisionGoesByPylong x (1 * 2 ^ ((hd : Int)).toNat) = false := by
  have hB := kbt_pos ((hd : Int)).toNat
  refine ⟨by omega, no_py (n := (hd : Int) + 1) (by omega) ?_ (by omega)⟩
  rw [show ((hd : Int) + 1 - 1).toNat = ((hd : Int)).toNat by omega]
  omega
theorem fig_bits {p r : Int} {wd hd : Nat} (hp : 0 < p) (h0 : 0 ≤ r) (h1 : r < p) (hw : wd ≤ 611) : (Builtin.Int.intBits (r * 2 ^ wd / p / 2 ^ ((wd : Int) - 2 * (hd : Int)).toNat) : Int) ≤ 1000 := by
  have hB := kbt_pos wd
  have hC := kbt_pos ((wd : Int) - 2 * (hd : Int)).toNat
  have q0 : 0 ≤ r * 2 ^ wd / p := Int.ediv_nonneg (Int.mul_nonneg h0 (Int.le_of_lt hB)) (Int.le_of_lt hp)
  have q1 : r * 2 ^ wd / p < 2 ^ wd := by
    refine Int.ediv_lt_of_lt_mul hp ?_
    have : (r + 1) * 2 ^ wd ≤ p * 2 ^ wd := Int.mul_le_mul_of_nonneg_right (by omega) (Int.le_of_lt hB)
    rw [Int.add_mul] at this
    rw [Int.mul_comm (2 ^ wd) p]
    omega
  have q2 : 0 ≤ r * 2 ^ wd / p / 2 ^ ((wd : Int) - 2 * (hd : Int)).toNat := Int.ediv_nonneg q0 (Int.le_of_lt hC)
  have q3 : r * 2 ^ wd / p / 2 ^ ((wd : Int) - 2 * (hd : Int)).toNat ≤ r * 2 ^ wd / p := Int.ediv_le_self _ q0
  have := bits_of q2 (Int.lt_of_le_of_lt q3 q1)
  omega
end Mine
namespace Mine
theorem sorted_tail {a : Int} {l : List Int} (h : sorted (a :: l)) : sorted l := by
  intro i j hij hj
  have := h (i + 1) (j + 1) (by omega) (by simpa using hj)
  simpa using this
theorem sorted_head {a : Int} {l : List Int} (h : sorted (a :: l)) : ∀ j, j < l.length → a ≤ l.getD j 0 := by
  intro j hj
  have := h 0 (j + 1) (by omega) (by simpa using hj)
  simpa using this
theorem getD_mem {l : List Int} {y : Int} (h : y ∈ l) : ∃ j, j < l.length ∧ l.getD j 0 = y := by
  obtain ⟨j, hj, e⟩ := List.mem_iff_getElem.mp h
  exact ⟨j, hj, by rw [List.getD_eq_getElem?_getD, List.getElem?_eq_getElem hj]; exact e⟩
theorem cnt_split : ∀ {ns : List Int} {x : Int}, sorted ns → (∀ i, i < cntLt ns x → ns.getD i 0 < x) ∧ ∀ i, cntLt ns x ≤ i → i < ns.length → x ≤ ns.getD i 0
  | [], x, _ => ⟨fun i h => absurd h (Nat.not_lt_zero _), fun i _ h => absurd h (Nat.not_lt_zero _)⟩
  | a :: l, x, h => by
    have ih := cnt_split (ns := l) (x := x) (sorted_tail h)
    by_cases hax : a < x
    · have e : cntLt (a :: l) x = cntLt l x + 1 := by unfold cntLt; rw [List.countP_cons]; simp [hax]
      rw [e]
      refine ⟨fun i hi => ?_, fun i hi hl => ?_⟩
      · cases i with
        | zero => simpa using hax
        | succ i => simpa using ih.1 i (by omega)
      · cases i with
        | zero => omega
        | succ i => simpa using ih.2 i (by omega) (by simpa using hl)
    · have hz : cntLt l x = 0 := by
        unfold cntLt
        rw [List.countP_eq_zero]
        intro y hy
        obtain ⟨j, hj, rfl⟩ := getD_mem hy
        have := sorted_head h j hj
        simp only [decide_eq_true_eq]; omega
      have e : cntLt (a :: l) x = 0 := by
        have : cntLt (a :: l) x = cntLt l x := by unfold cntLt; rw [List.countP_cons]; simp [hax]
        rw [this, hz]
      rw [e]
      refine ⟨fun i hi => absurd hi (Nat.not_lt_zero _), fun i _ hl => ?_⟩
      cases i with
      | zero => simpa using Int.not_lt.mp hax
      | succ i =>
        have := sorted_head h i (by simpa using hl)
        simp only [List.getD_cons_succ]; omega
theorem insP_len (ns : List Int) (x : Int) : (insP ns x).length = ns.length + 1 := by
  have := cntLt_le ns x
  unfold insP
  simp only [List.length_append, List.length_take, List.length_cons, List.length_drop]
  omega
theorem insP_get (ns : List Int) (x : Int) (i : Nat) : (insP ns x).getD i 0 = if i < cntLt ns x then ns.getD i 0 else if i = cntLt ns x then x else ns.getD (i - 1) 0 := by
  have hc := cntLt_le ns x
  have hl : (ns.take (cntLt ns x)).length = cntLt ns x := by rw [List.length_take]; omega
  unfold insP
  simp only [List.getD_eq_getElem?_getD]
  by_cases h1 : i < cntLt ns x
  · rw [if_pos h1, List.getElem?_append_left (by omega), List.getElem?_take_of_lt h1]
  · rw [if_neg h1, List.getElem?_append_right (by omega), hl]
    by_cases h2 : i = cntLt ns x
    · rw [if_pos h2, h2, Nat.sub_self]; rfl
    · rw [if_neg h2]
      obtain ⟨k, hk⟩ : ∃ k, i - cntLt ns x = k + 1 := ⟨i - cntLt ns x - 1, by omega⟩
      rw [hk, List.getElem?_cons_succ, List.getElem?_drop]
      have : cntLt ns x + k = i - 1 := by omega
      rw [this]
theorem insP_sorted {ns : List Int} {x : Int} (h : sorted ns) : sorted (insP ns x) := by
  have hc := cntLt_le ns x
  obtain ⟨s1, s2⟩ := cnt_split (x := x) h
  intro i j hij hj
  rw [insP_len] at hj
  rw [insP_get, insP_get]
  generalize hcc : cntLt ns x = c at *
  by_cases i1 : i < c
  · rw [if_pos i1]
    by_cases j1 : j < c
    · rw [if_pos j1]; exact h i j hij (by omega)
    · rw [if_neg j1]
      by_cases j2 : j = c
      · rw [if_pos j2]; exact Int.le_of_lt (s1 i i1)
      · rw [if_neg j2]; exact h i (j - 1) (by omega) (by omega)
  · rw [if_neg i1, if_neg (by omega : ¬ j < c)]
    by_cases i2 : i = c
    · rw [if_pos i2]
      by_cases j2 : j = c
      · rw [if_pos j2]; exact Int.le_refl _
      · rw [if_neg j2]; exact s2 (j - 1) (by omega) (by omega)
    · rw [if_neg i2, if_neg (by omega : ¬ j = c)]
      exact h (i - 1) (j - 1) (by omega) (by omega)
theorem insP_cnt (ns : List Int) (x k : Int) : cntLt (insP ns x) k = cntLt ns k + if x < k then 1 else 0 := by
  unfold insP cntLt
  rw [List.countP_append, List.countP_cons]
  have h := congrArg (List.countP fun a => decide (a < k)) (List.take_append_drop (List.countP (fun a => decide (a < x)) ns) ns)
  rw [List.countP_append] at h
  by_cases hx : x < k <;> simp [hx] <;> omega
theorem cSq_app (p : Int) (h : Nat) (R : List Int) (r k : Int) : cSq p h (R ++ [r]) k = cSq p h R k + if r ∈ sqL p ∧ hrs p h r < k then 1 else 0 := by
  unfold cSq
  rw [List.countP_append, List.countP_cons, List.countP_nil]
  by_cases h1 : r ∈ sqL p <;> by_cases h2 : hrs p h r < k <;> simp [h1, h2]
theorem cOt_app (p : Int) (h : Nat) (R : List Int) (r k : Int) : cOt p h (R ++ [r]) k = cOt p h R k + if ¬ r ∈ sqL p ∧ hrs p h r < k then 1 else 0 := by
  unfold cOt
  rw [List.countP_append, List.countP_cons, List.countP_nil]
  by_cases h1 : r ∈ sqL p <;> by_cases h2 : hrs p h r < k <;> simp [h1, h2]
theorem take_one {ns : List Int} {j : Nat} {r : Int} (hr : ns[j]? = some r) : ns.take (j + 1) = ns.take j ++ [r] := by
  rw [List.take_add_one, hr]; rfl
theorem zinv_sq {p : Int} {h : Nat} {R : List Int} {z : ZS} {r : Int} {H M : Nat} {vs : List Value} {se : Nat} {sec : Int} {st : Tok} (q : ZInv p h R z) (hr : r ∈ sqL p) (hH : hrs p h r = H) (hM : mns p h r = M) (hv : IntsAre vs (insP z.sn (H : Int))) (hs : sec = z.sec + -(3600 * (H : Int) + 60 * (M : Int))) :
    ZInv p h (R ++ [r]) ⟨z.ov, z.oe, vs, se, z.on, insP z.sn (H : Int), sec, st⟩ := by
  obtain ⟨a1, a2, a3, a4, a5, a6, a7, a8, a9⟩ := q
  refine ⟨a1, hv, a3, insP_sorted a4, fun k => ?_, fun k => ?_, ?_, ?_, ?_⟩
  · show cntLt z.on k = _
    rw [cOt_app, a5 k]; simp [hr]
  · show cntLt (insP z.sn (H : Int)) k = _
    rw [cSq_app, insP_cnt, a6 k, hH]; simp [hr]
  · rw [List.length_append]; exact Nat.le_trans a7 (Nat.le_add_right _ _)
  · show (insP z.sn (H : Int)).length ≤ _
    rw [insP_len, List.length_append]; exact Nat.add_le_add_right a8 1
  · show sec = _
    rw [List.map_append, List.sum_append, hs, a9]
    simp only [List.map_cons, List.map_nil, List.sum_cons, List.sum_nil]
    unfold secs
    rw [if_pos hr, hH, hM]; omega
theorem zinv_ot {p : Int} {h : Nat} {R : List Int} {z : ZS} {r : Int} {H M : Nat} {vs : List Value} {oe : Nat} {sec : Int} {st : Tok} (q : ZInv p h R z) (hr : ¬ r ∈ sqL p) (hH : hrs p h r = H) (hM : mns p h r = M) (hv : IntsAre vs (insP z.on (H : Int))) (hs : sec = z.sec + (3600 * (H : Int) + 60 * (M : Int))) :
    ZInv p h (R ++ [r]) ⟨vs, oe, z.sv, z.se, insP z.on (H : Int), z.sn, sec, st⟩ := by
  obtain ⟨a1, a2, a3, a4, a5, a6, a7, a8, a9⟩ := q
  refine ⟨hv, a2, insP_sorted a3, a4, fun k => ?_, fun k => ?_, ?_, ?_, ?_⟩
  · show cntLt (insP z.on (H : Int)) k = _
    rw [cOt_app, insP_cnt, a5 k, hH]; simp [hr]
  · show cntLt z.sn k = _
    rw [cSq_app, a6 k]; simp [hr]
  · show (insP z.on (H : Int)).length ≤ _
    rw [insP_len, List.length_append]; exact Nat.add_le_add_right a7 1
  · rw [List.length_append]; exact Nat.le_trans a8 (Nat.le_add_right _ _)
  · show sec = _
    rw [List.map_append, List.sum_append, hs, a9]
    simp only [List.map_cons, List.map_nil, List.sum_cons, List.sum_nil]
    unfold secs
    rw [if_neg hr, hH, hM]; omega
theorem row_off {tl2 own3 tl3 : Led} {x : Addr} (h3 : tl3 = tl2 ++ own3) (ho : OwnOff tl2 [x]) (hs : ∀ p ∈ own3, p.1 ≠ x) : ∀ p ∈ tl3, p.1 ≠ x := by
  subst h3
  intro p hp
  rcases List.mem_append.mp hp with h | h
  · exact ho p h x (.head _)
  · exact hs p h
theorem zmemA {x1 x2 x3 x4 x5 x6 x7 : Addr × Obj} {tl2 own3 tl3 : Led} (h3 : tl3 = tl2 ++ own3) : (∀ p ∈ x1 :: x2 :: x3 :: x4 :: x5 :: x6 :: x7 :: tl2, p ∈ x3 :: x1 :: x2 :: x4 :: x5 :: x6 :: x7 :: tl3) ∧ ∀ p ∈ own3, p ∈ x3 :: x1 :: x2 :: x4 :: x5 :: x6 :: x7 :: tl3 := by
  subst h3
  refine ⟨fun p hp => ?_, fun p hp => by simp [hp]⟩
  simp only [List.mem_append, List.mem_cons] at hp ⊢
  rcases hp with hp | hp | hp | hp | hp | hp | hp | hp <;> simp [hp]
theorem zmemB {x1 x2 x3 x4 x5 x6 x7 : Addr × Obj} {tl2 own3 tl3 : Led} (h3 : tl3 = tl2 ++ own3) : (∀ p ∈ x1 :: x2 :: x3 :: x4 :: x5 :: x6 :: x7 :: tl2, p ∈ x2 :: x1 :: x3 :: x4 :: x5 :: x6 :: x7 :: tl3) ∧ ∀ p ∈ own3, p ∈ x2 :: x1 :: x3 :: x4 :: x5 :: x6 :: x7 :: tl3 := by
  subst h3
  refine ⟨fun p hp => ?_, fun p hp => by simp [hp]⟩
  simp only [List.mem_append, List.mem_cons] at hp ⊢
  rcases hp with hp | hp | hp | hp | hp | hp | hp | hp <;> simp [hp]
theorem swapA {h₀ h : Heap} {L : Addr} {x1 x2 x3 : Addr × Obj} {tl : Led} (N : News h₀ L h (x1 :: x2 :: x3 :: tl)) : News h₀ L h (x3 :: x1 :: x2 :: tl) := by
  refine cb_drop N fun p hp => ?_
  simp only [List.mem_cons] at hp ⊢
  rcases hp with hp | hp | hp | hp <;> simp [hp]
theorem swapB {h₀ h : Heap} {L : Addr} {x1 x2 : Addr × Obj} {tl : Led} (N : News h₀ L h (x1 :: x2 :: tl)) : News h₀ L h (x2 :: x1 :: tl) := by
  refine cb_drop N fun p hp => ?_
  simp only [List.mem_cons] at hp ⊢
  rcases hp with hp | hp | hp <;> simp [hp]
theorem hown6 {h₀ h : Heap} {L : Addr} {x a1 a2 a3 a4 a5 a6 : Addr × Obj} {tl : Led} (_ : News h₀ L h (x :: a1 :: a2 :: a3 :: a4 :: a5 :: a6 :: tl)) (h1 : a1.1 ≠ x.1) (h2 : a2.1 ≠ x.1) (h3 : a3.1 ≠ x.1) (h4 : a4.1 ≠ x.1) (h5 : a5.1 ≠ x.1) (h6 : a6.1 ≠ x.1) (ht : ∀ p ∈ tl, p.1 ≠ x.1) :
    ∀ p ∈ a1 :: a2 :: a3 :: a4 :: a5 :: a6 :: tl, p.1 ≠ x.1 :=
  List.forall_mem_cons.mpr ⟨h1, List.forall_mem_cons.mpr ⟨h2, List.forall_mem_cons.mpr ⟨h3, List.forall_mem_cons.mpr ⟨h4, List.forall_mem_cons.mpr ⟨h5, List.forall_mem_cons.mpr ⟨h6, ht⟩⟩⟩⟩⟩⟩
end Mine
namespace Mine
theorem more_succ (f : Int → Int) (i : Nat) : ((rangeKs 1 (i + 1)).map f).sum = ((rangeKs 1 i).map f).sum + f (1 + (i : Int)) := by
  unfold rangeKs
  rw [List.range_succ, List.map_append, List.map_append, List.sum_append]
  simp
section
variable {prog : Program} {w : World} {A : Around} {E : Value → Shared → Prop} {Q : Flow → Shared → Prop} {s : Shared} {env : Env} {h₀ : Heap} {x : Str} {body : List Stmt}
theorem tail_for {r : Addr} {b₀ : Int} {t₀ u₀ v₀ st : Tok} {n : Nat} {m₀ : Str → Option Value} {led : Led} (f : Int → Int)
    (hh : A.handled = none) (hr : IsRange s.heap r 1 b₀ 1 t₀ u₀ v₀) (hsmall : Builtin.Range.small 1 b₀ 1 = true) (hn : Builtin.Range.rangeSize 1 b₀ 1 = (n : Int))
    (F : Fr h₀ env.locals s.heap m₀) (N : News h₀ env.locals s.heap led) (hs : m₀ (Str.ofString "more") = some (.int 0 st))
    (turn : ∀ i (mo : Int) (tm : Tok) u h tk t own, i < n → mo = ((rangeKs 1 i).map f).sum → Fr h₀ env.locals h (fun y => if y = x then some (.int (1 + (i : Int)) t) else lm [Str.ofString "more"] u m₀ [(Str.ofString "more", .int mo tm)] y) → News h₀ env.locals h (led ++ own) →
      wpAny (model prog w) A (execs body env) (FEnd h₀ env.locals s x (fun _ : Int × Tok => led) (fun c => [(Str.ofString "more", .int c.1 c.2)]) [Str.ofString "more"] m₀ (fun i c => c.1 = ((rangeKs 1 i).map f).sum) own Q (i + 1) (mo, tm)) E { s with heap := h, toks := tk })
    (done : ∀ (mo : Int) (tm : Tok) u h tk, mo = ((rangeKs 1 n).map f).sum → Fr h₀ env.locals h (fun y => if y = x then u y else lm [Str.ofString "more"] u m₀ [(Str.ofString "more", .int mo tm)] y) → News h₀ env.locals h led → Q .next { s with heap := h, toks := tk }) :
    wpAny (model prog w) A (pyIter (.ref r)) (fun it s₂ => LoopAtV prog w A h₀ env x body Q E it s₂) E s :=
  for_range (σ := Int × Tok) (fun _ => led) (fun c => [(Str.ofString "more", .int c.1 c.2)]) [Str.ofString "more"] (fun i c => c.1 = ((rangeKs 1 i).map f).sum) (0, st) hh hr hsmall hn F N (fun _ hp => hp) (.cons hs .nil) rfl
    (fun i c u h tk t own hi hP _ F N => turn i c.1 c.2 u h tk t own hi hP F N) (fun c u h tk hP F N => done c.1 c.2 u h tk hP F N)
end
theorem pow1 (hd : Nat) (h : hd ≤ 6) : 1 * (2 : Int) ^ ((hd : Int)).toNat = ((2 ^ hd : Nat) : Int) ∧ (1 : Int) ≤ ((2 ^ hd : Nat) : Int) ∧ ((2 ^ hd : Nat) : Int) ≤ 64 := by
  rw [Int.one_mul, Int.toNat_natCast, kbt_cast]
  exact ⟨rfl, by have := kbt_pos hd; omega, p64 h⟩
theorem swapC {h₀ h : Heap} {L : Addr} {x1 x2 : Addr × Obj} {tl : Led} (N : News h₀ L h (x1 :: x2 :: tl)) : News h₀ L h (x2 :: x1 :: tl) := swapB N
theorem memC {x1 x2 x3 x4 x5 x6 x7 : Addr × Obj} {tl own tl2 : Led} (h : tl2 = tl ++ own) : (∀ p ∈ x1 :: x2 :: x3 :: x4 :: x5 :: x6 :: x7 :: tl, p ∈ x2 :: x3 :: x1 :: x4 :: x5 :: x6 :: x7 :: tl2) ∧ ∀ p ∈ own, p ∈ x2 :: x3 :: x1 :: x4 :: x5 :: x6 :: x7 :: tl2 := by
  subst h
  refine ⟨fun p hp => ?_, fun p hp => by simp [hp]⟩
  simp only [List.mem_append, List.mem_cons] at hp ⊢
  rcases hp with hp | hp | hp | hp | hp | hp | hp | hp <;> simp [hp]
theorem side_pos {p : Int} {hd : Nat} (hp : 0 < p) (h : ((List.map (fun k' => (k' * k').fmod p) (rangeKs 1 ((p + 1).fdiv 2 - 1).toNat)).any fun x => x == ((1 : Int) * 2 ^ ((hd : Int)).toNat).fmod p) = true) : sideOf p hd = 1 := by
  rw [sq_any, decide_eq_true_eq, Int.one_mul, Int.toNat_natCast, Int.fmod_eq_emod_of_nonneg _ (Int.le_of_lt hp)] at h
  unfold sideOf; rw [if_pos h]
theorem side_neg {p : Int} {hd : Nat} (hp : 0 < p) (h : ((List.map (fun k' => (k' * k').fmod p) (rangeKs 1 ((p + 1).fdiv 2 - 1).toNat)).any fun x => x == ((1 : Int) * 2 ^ ((hd : Int)).toNat).fmod p) = false) : sideOf p hd = -1 := by
  rw [sq_any, decide_eq_false_iff_not, Int.one_mul, Int.toNat_natCast, Int.fmod_eq_emod_of_nonneg _ (Int.le_of_lt hp)] at h
  unfold sideOf; rw [if_neg h]
theorem frm_b {p : Int} (hp : P7 p) : 0 ≤ frmN p 5 1 0 ∧ frmN p 5 1 0 ≤ 100 := by
  unfold P7 at hp
  rcases hp with rfl | rfl | rfl | rfl | rfl | rfl | rfl <;> decide +kernel
theorem end_fact {p m : Int} {hd : Nat} (hp : P7 p) (h1 : 1 ≤ m) (h2 : m < p) (hh1 : 1 ≤ hd) (hh2 : hd ≤ 6) {s : Int} (hs : sideOf p hd = s) {mo sec : Int} (hmo : mo = ((rangeKs 1 (2 ^ hd - 1)).map fun k => (cSq p hd (comeN p m (p - 1).toNat) k : Int) - (cOt p hd (comeN p m (p - 1).toNat) k : Int)).sum) (hsec : sec = ((comeN p m (p - 1).toNat).map (secs p hd)).sum) :
    mo = (((2 ^ hd : Nat) : Int) - s) * frmN p 5 1 0 ∧ sec = 60 * (60 + s) * ((((2 ^ hd : Nat) : Int) - s) * frmN p 5 1 0) := by
  have hpl := hp.le
  have hpm := (come_fact hp h1 h2).1
  rw [show p.toNat - 1 = (p - 1).toNat by omega] at hpm
  obtain ⟨a, b⟩ := fin_of_perm hp hh1 hh2 hpm
  have e : shareOf p hd = (((2 ^ hd : Nat) : Int) - s) * frmN p 5 1 0 := by unfold shareOf; rw [hs, kbt_cast]
  rw [e] at a b
  rw [hs] at b
  exact ⟨hmo.trans a, hsec.trans b⟩
end Mine
namespace Mine
local macro_rules | `(tactic| walk_at "call builtin:list.extend") => `(tactic| (k_here; k_dflt (refine' ext_S ?xF ?xN ?xb ?xU ?_ ?_; (case xF => k_asm); (case xN => k_asm); (case xb => k_mem); (case xU => k_upd)); intro h' F' N'))
local macro_rules | `(tactic| walk_at "subscriptTail Tuple") => `(tactic| (k_here; k_dflt (refine' item7 ?kt ?k0 ?k1 ?_ ?ks; (case kt => exact News.isTup (by k_asm) (by k_mem)); (case k0 => (rw [Int.fmod_eq_emod_of_nonneg _ (by decide)]; omega)); (case k1 => (rw [Int.fmod_eq_emod_of_nonneg _ (by decide)]; omega)); (case ks => with_unfolding_all rfl)); intro pp tpp hpp))
local macro_rules | `(tactic| walk_at "subscriptTail") => `(tactic| ((with_reducible show wpAny _ _ (subscriptTail (PySem.Expr.Call _ _ _ _) (PySem.Expr.Slice none none (some _) _) _ _) _ _ _); refine Stop.mk ?_))
local macro_rules | `(tactic| walk_at "subscriptTail Call") => `(tactic| ((with_reducible show wpAny _ _ (subscriptTail (PySem.Expr.Call _ _ _ _) (PySem.Expr.Slice none none (some _) _) _ _) _ _ _); refine Stop.mk ?_))
local macro_rules | `(tactic| walk_at "call type:zip") => `(tactic| (refine Stop.mk ?_))
set_option maxRecDepth 100000 in
set_option maxHeartbeats 8000000 in
theorem tt : PySem.Challenge.rw_xg0042_01.Holds := Mine.hd (by
  k_go0; (iterate 43 (first | (k_unfold; (try dsimp only)) | (k_end; wrow_close) | walk1 | (dsimp only; walk1) | (leave1; walk_say "STEP leave1"; try dsimp only) | fail "no step"))
  refine kba_turn (value' := PySem.Expr.Name (PySem.Str.ofString "_") ⟨0, 0, 0, 0⟩) (fun _ => rfl) ?_
  k_dflt (refine' kmk_slice_ints (ns := [3, 0, 2, -5]) ?F ?N ?l ?jp ?jq ?i (kmk_from ?i2 ?m) rfl ?_ ?s ?t ?z; (case F => k_asm); (case N => k_asm); (case l => kmk_list); (case jp => kmk_part); (case jq => kmk_part); (case i => exact .cons _ _ (.cons _ _ (.cons _ _ (.cons _ _ .nil)))); (case i2 => exact .cons _ _ (.cons _ _ (.cons _ _ (.cons _ _ .nil)))); (case m => omega); (case s => with_unfolding_all rfl); (case t => kmk_pure); (case z => exact Nat.le_of_ble_eq_true rfl))
  intro D' ws' h' F' N' l1 hI' hC' hL'; (try k_lt l1)
  walk1
  (rename IntsAre _ (List.take 4 _ ++ _) => hI4)
  obtain ⟨d0, d1, d2, d3, t0, t1, t2, t3, rfl⟩ := drawn4 hI4; clear hI4
  (iterate 58 (first | (k_unfold; (try dsimp only)) | (k_end; wrow_close) | walk1 | (dsimp only; walk1) | (leave1; walk_say "STEP leave1"; try dsimp only) | fail "no step"))
  (with_unfolding_all rename Fr _ _ _ _ => kF)
  (with_unfolding_all rename News _ _ _ _ => kN)
  replace kN := cb_drop kN (List.forall_mem_cons.mpr ⟨.tail _ (.head _), fun p hp => .tail _ (.tail _ (.tail _ (.tail _ (.tail _ (.tail _ hp)))))⟩)
  (rename (_ = Data.cell (some (Value.int (12 + _) _))) => dW)
  revert dW
  (rename (_ = Data.cell (some (Value.int _ _))) => dP)
  intro dW
  obtain ⟨width, hwd⟩ : ∃ x : Int, 12 + ([d0, d1, d2, d3].getD (Int.toNat 1) 0).fmod 600 = x := ⟨_, rfl⟩
  obtain ⟨head, hhd⟩ : ∃ x : Int, 1 + ([d0, d1, d2, d3].getD (Int.toNat 2) 0).fmod 6 = x := ⟨_, rfl⟩
  rw [hwd] at dW
  rw [hhd] at kF
  (rename P7 _ => hpp)
  obtain ⟨pp, epp⟩ := hpp.nm
  subst epp
  have hp0 := hpp.le.1
  have hp1 := hpp.le.2
  have wb : 12 ≤ width ∧ width ≤ 611 := by rw [← hwd, Int.fmod_eq_emod_of_nonneg _ (by decide)]; omega
  have hb : 1 ≤ head ∧ head ≤ 6 := by rw [← hhd, Int.fmod_eq_emod_of_nonneg _ (by decide)]; omega
  clear hwd hhd
  (iterate 18 (first | (k_unfold; (try dsimp only)) | (k_end; wrow_close) | walk1 | (dsimp only; walk1) | (leave1; walk_say "STEP leave1"; try dsimp only) | fail "no step"))
  · k_steps
  · (repeat' (first | (k_unfold; (try dsimp only)) | walk1 | (dsimp only; walk1) | (leave1; walk_say "STEP leave1"; try dsimp only) | fail "no step"))
    refine Stop.out ?_
    (with_unfolding_all rename Fr _ _ _ _ => kF)
    (with_unfolding_all rename News _ _ _ _ => kN)
    (rename IsRange _ _ _ _ _ _ _ _ => kR)
    (rename IntsAre _ (List.map _ _) => hSq)
    obtain ⟨hd, ehd⟩ : ∃ n : Nat, head = (n : Int) := Int.eq_ofNat_of_zero_le (by omega)
    obtain ⟨wd, ewd⟩ : ∃ n : Nat, width = (n : Int) := Int.eq_ofNat_of_zero_le (by omega)
    subst ehd
    subst ewd
    obtain ⟨mm, hmm⟩ : ∃ m : Int, m = 2 ^ wd % pp := ⟨_, rfl⟩
    have hm1 : 1 ≤ mm := by rw [hmm]; exact two_ne wd hpp
    have hm2 : mm < pp := by rw [hmm]; exact Int.emod_lt_of_pos _ (by omega)
    rename_i a57 a58 a59 a60 a61 a62 a63 a64 a65 a66 a67 a68 a69 a70 a71 a72 a73 s73 a74 a75 a76 a77 a78 a79 a80 s80 a81 a82 a83 a84 a85 a86 a87 a88 a89 a90 a91 a92 a93 a94 a95 a96 a97 a98 a99 a100 a101 a102 a103 a104 a105 a106 a107 s107 a108 a109 a110 a111 s111 a112 a113 a114 a115 a116 a117 a118 a119 a120 a121 a122 a123 a124
    replace a72 := a72.2.2.2.2
    clear a57 a58 a59 a62 a67 a68 a69 a93 a94 a95 a96 a98 a99 hC' l1
    with_unfolding_all
     refine' outer_for pp mm hd (by rfl) kR (small_one (by omega) (by omega) (by omega) (by omega)) (rangeSize_nat _ _) kF kN rfl ?_ ?_
    · rintro i ⟨cv, ce, ov, oe, sv, se, on, sn, sec, st, tb⟩ u h₁ tk₁ tq own hi ⟨qc, qo, qs, qso, qss, qco, qcs, qlo, qls, qsec, qtb⟩ hoff F₁ N₁
      dsimp only at qc qo qs qso qss qco qcs qlo qls qsec qtb
      dsimp only [OLd, oPs, List.map] at hoff F₁ N₁
      try k_fold
      clear kF kN
      have hMk := kstMark
      have hof := off3 N₁ qtb ⟨_, _, rfl⟩ ⟨_, _, rfl⟩ ⟨_, _, rfl⟩ hoff
      have hof1 := hof.1
      have hof2 := hof.2.1
      have hof3 := hof.2.2
      clear hof
      simp only [List.cons_append] at N₁
      obtain ⟨tl, htl⟩ : ∃ tl, tl = tabLed tb ++ own := ⟨_, rfl⟩
      rw [← htl] at N₁ hof1 hof2 hof3
      (repeat' (first | (k_unfold; (try dsimp only)) | walk1 | (dsimp only; walk1) | (leave1; walk_say "STEP leave1"; try dsimp only) | fail "no step"))
      · (rename (List.any _ _) = true => hin)
        subst htl
        (with_unfolding_all rename Fr _ _ _ _ => kF)
        (with_unfolding_all rename News _ _ _ _ => kN)
        with_unfolding_all
         refine' FEnd.intro ⟨cv, ce, ov, oe, sv, se, on, sn, sec, st, tb⟩ kF kN (fun p hp => by have hq := List.mem_append.mpr (Or.inl (b := p ∈ own) hp); exact hq) (fun p hp => by simp [hp]) (fun p hp => .inl (List.mem_map.mpr ⟨p, hp, rfl⟩)) (.cons rfl .nil) ?_ ?_
        · repeat' first | exact offx_lm rfl | refine' offx_upd rfl ?_ | refine' offx_x ?_
        · exact OInv.skip ⟨qc, qo, qs, qso, qss, qco, qcs, qlo, qls, qsec, qtb⟩ (come_in hin)
      · refine Stop.out ?_
        (rename (List.any _ _) = false => hnin)
        obtain ⟨hn1, hn2⟩ := come_out hnin
        have hcl := (come_fact hpp hm1 hm2).2 i (by omega) hn1
        rw [Int.add_comm] at hcl
        (with_unfolding_all rename Fr _ _ _ _ => kF)
        (with_unfolding_all rename News _ _ _ _ => kN)
        with_unfolding_all
         refine' rests_while pp mm (1 + (i : Int)) hcl kF kN ?_ ?_
        · intro n vs ns e u2 h₂ tk₂ hR F₂ N₂
          dsimp only [lm, kstB] at F₂
          clear kF kN
          try k_fold
          have hRi : IntsAre vs ns := hR.hi
          have hRl : 1 ≤ ns.length ∧ ns.length ≤ 47 := hR.lens
          have hRb := hR.last (by omega) (by omega) (by omega)
          have hRs := small_bits hRb.1 (by omega)
          rw [← last_idx hRl.1] at hRb hRs
          have hsz := sz_b (n := ns.length) wb.2 hRl.2
          (repeat' (first | (k_unfold; (try dsimp only)) | walk1 | (dsimp only; walk1) | (leave1; walk_say "STEP leave1"; try dsimp only) | fail "no step"))
          · exact Stop.out ⟨by omega, by omega⟩
          · exact Stop.out ⟨by omega, by omega⟩
          · (rename Int.fmod _ _ ≠ _ => hne)
            (with_unfolding_all rename Fr _ _ _ _ => kF)
            (with_unfolding_all rename News _ _ _ _ => kN)
            have hyy := y_eq (x := ns.getD (-1 + (ns.length : Int)).toNat 0) (p := pp) (wd := wd) (by omega)
            rw [← hmm] at hyy
            obtain ⟨k, hk, hR'⟩ := hR.more2 (last_idx hRl.1).symm hyy hne
            rw [push_ints] at kN
            with_unfolding_all
             refine' WEnd.intro (_, _, _) k kF kN (fun p hp => hp) .nil (fun z _ => rfl) ?_ (hR' _ _)
            omega
          · exact Stop.out ⟨hsz.1, by rw [one_bits]; omega⟩
          · exact Stop.out ⟨hsz.1, by rw [one_bits]; omega⟩
          · refine Stop.out ⟨hsz.1, ?_⟩
            have htb := tail_b ([d0, d1, d2, d3].getD (Int.toNat 3) 0) (↑wd * ↑ns.length : Int).toNat
            have := sh_pre (f := 1 + (i : Int)) (by omega) (by omega) htb.1 htb.2
            omega
          · refine Stop.out ?_
            (with_unfolding_all rename Fr _ _ _ _ => kF)
            (with_unfolding_all rename News _ _ _ _ => kN)
            (rename Int.fmod _ _ = _ => hclose)
            (rename _ ∧ _ ∧ _ ∧ _ ∧ _ ∧ _ ∧ _ ∧ AllLt _ tl => hL1)
            have hRo : ∀ p ∈ own, p.1 < _ := fun p hp => kst_ltOf hL1.2.2.2.2.2.2.2 p (by rw [htl]; exact List.mem_append.mpr (.inr hp))
            have hyy := y_eq (x := ns.getD (-1 + (ns.length : Int)).toNat 0) (p := pp) (wd := wd) (by omega)
            rw [← hmm] at hyy
            have hrst : ns = rst pp mm (1 + (i : Int)) := hR.full (last_idx hRl.1).symm hyy hclose
            obtain ⟨S, hS⟩ : ∃ S : Nat, (↑wd * ↑ns.length : Int).toNat = S := ⟨_, rfl⟩
            have hS1 : S = wd * ns.length := by rw [← hS]; exact Int.toNat_natCast (wd * ns.length)
            have hS2 : S ≤ 28717 := by omega
            have hTb := tail_b ([d0, d1, d2, d3].getD (Int.toNat 3) 0) S
            rw [hS] at kF ⊢
            obtain ⟨T, hT⟩ : ∃ T : Int, ([d0, d1, d2, d3].getD (Int.toNat 3) 0).fmod (1 * 2 ^ S) = T := ⟨_, rfl⟩
            rw [hT] at kF hTb ⊢
            obtain ⟨U, hU⟩ : ∃ U : Int, U = 1 * 2 ^ S + T := ⟨_, rfl⟩
            rw [← hU] at kF ⊢
            have hov := orb_val (p := pp) (B := 2 ^ wd) (m := mm) (f := 1 + (i : Int)) (by omega) hmm 46 (1 + (i : Int)) (by omega) (by omega) hcl
            have hov2 : (1 + (i : Int)) * 2 ^ S = valB (2 ^ wd) (figs pp (2 ^ wd) ns) * pp + (1 + (i : Int)) := by
              rw [hS1, Int.pow_mul, hrst]; exact hov
            obtain ⟨Qt, hQt⟩ : ∃ q : Int, valB (2 ^ wd) (figs pp (2 ^ wd) ns) = q := ⟨_, rfl⟩
            rw [hQt] at hov2
            obtain ⟨hdv, hmd⟩ := div_fact (by omega) (show 1 + (i : Int) < pp by omega) hTb.1 hTb.2 hU hov2
            obtain ⟨g1, g2, g3, g4, g5, g6, g7⟩ := call_pre hp0 hp1 (show (0 : Int) ≤ 1 + (i : Int) by omega) (show 1 + (i : Int) < pp by omega) hTb.1 hTb.2 hU hS2
            (k_dflt (refine' Tell.use (d2_all _ 16 ((1 + (i : Int)) * U * 2 ^ S + T) (pp * U) _ _ _ _ _ g1 g2 g3 g4 g5 g6 g7) ?kBc47 ?kFc47 ?kXc47 ?kNc47 ?kTc47 ?kKc47 ?kdc47 ?kuc47 ?kRc47; (case kBc47 => k_asm); (case kFc47 => k_asm); (case kXc47 => k_asm); (case kNc47 => k_asm); (case kTc47 => k_asm); (case kKc47 => first | exact rfl | assumption); (case kdc47 => ktr_room); (case kuc47 => ktr_units)))
            rintro r9 news9 h9 tk9 F9 N9 ⟨D9, t91, t92, c9, rfl, rfl, hlt9⟩
            rw [hdv, hmd] at N9
            clear kF kN g1 g2 g3 g4 g5 g6 g7 hdv hmd hov hov2 hyy
            (try dsimp only)
            (try k_fold)
            (repeat' (first | (k_unfold; (try dsimp only)) | walk1 | (dsimp only; walk1) | (leave1; walk_say "STEP leave1"; try dsimp only) | fail "no step"))
            refine Stop.out ?_
            (with_unfolding_all rename Fr _ _ _ _ => kF)
            (with_unfolding_all rename News _ _ _ _ => kN)
            obtain ⟨z1, z2, z3, z4⟩ := quot_fact (p := pp) (m := mm) (f := 1 + (i : Int)) (wd := wd) (ns := ns) (by omega) hp1 (by omega) (by omega) (by omega) hrst
            rw [hQt] at z1 z2 z3
            have kN2 := tab_swap kN htl
            have hsep := tab_sep kN2 qtb (List.forall_mem_cons.mpr ⟨.inl ⟨_, _, rfl⟩, List.forall_mem_cons.mpr ⟨.inl ⟨_, _, rfl⟩, List.forall_mem_cons.mpr ⟨.inl ⟨_, _, rfl⟩, List.forall_mem_cons.mpr ⟨.inl ⟨_, _, rfl⟩, List.forall_mem_cons.mpr ⟨.inl ⟨_, _, rfl⟩, List.forall_mem_cons.mpr ⟨.inl ⟨_, _, rfl⟩, List.forall_mem_cons.mpr ⟨.inr ⟨_, dW⟩, List.forall_mem_cons.mpr ⟨.inr ⟨_, dP⟩, fun _ hp => nomatch hp⟩⟩⟩⟩⟩⟩⟩⟩) (own_off hoff)
            clear kN hlt9
            (k_dflt (refine' Tell.use (i2dU _ Qt wd _ _ _ tb qtb hsep z1 (by omega) (by omega) (by rw [z2]; omega)) ?kBc48 ?kFc48 ?kXc48 ?kNc48 ?kTc48 ?kKc48 ?kdc48 ?kuc48 ?kRc48; (case kBc48 => k_asm); (case kFc48 => k_asm); (case kXc48 => k_asm); (case kNc48 => k_asm); (case kTc48 => k_asm); (case kKc48 => first | exact rfl | assumption); (case kdc48 => ktr_room); (case kuc48 => ktr_units)))
            rintro r8 news8 h8 tk8 F8 N8 ⟨D8, vs8, ep8, q8, rfl, hok8, hi8, rfl, hlt8, hne8⟩
            rw [z2, Int.toNat_natCast, Int.toNat_natCast] at hi8
            replace N8 := tab_back N8
            have hof' := tab_off3 (tb := some q8) N8 hok8 ⟨_, _, rfl⟩ ⟨_, _, rfl⟩ ⟨_, _, rfl⟩ hoff
            obtain ⟨tl2, htl2⟩ : ∃ tl2, tl2 = tabLed (some q8) ++ own := ⟨_, rfl⟩
            rw [← htl2] at N8 hof'
            clear kF kN2 hsep hof1 hof2 hof3 z1 z2
            have hof1 := hof'.1
            have hof2 := hof'.2.1
            have hof3 := hof'.2.2
            clear hof'
            (try dsimp only)
            (try k_fold)
            (repeat' (first | (k_unfold; (try dsimp only)) | walk1 | (dsimp only; walk1) | (leave1; walk_say "STEP leave1"; try dsimp only) | fail "no step"))
            refine Stop.out ?_

            (with_unfolding_all rename Fr _ _ _ _ => kF)
            (with_unfolding_all rename News _ _ _ _ => kN)
            k_dflt (refine' rev_S kF kN (.head _) (IsPart.int _ _) hi8 ?z ?_ ?s; (case z => (rw [show (digs Qt wd ns.length).length = ns.length from by simp [digs]]; omega)); (case s => with_unfolding_all rfl))
            rintro D7 vs7 h7 F7 N7 lt7 hi7
            rw [z3] at hi7
            clear kF kN
            (try dsimp only)
            (try k_fold)
            (repeat' (first | (k_unfold; (try dsimp only)) | walk1 | (dsimp only; walk1) | (leave1; walk_say "STEP leave1"; try dsimp only) | fail "no step"))
            · (rename (1 + (i : Int)) * U + T ≠ _ => hne)
              exact absurd rfl hne
            · (rename _ ∈ ns => hk)
              have hkb := z4 _ hk
              have := small_bits hkb.1 (by omega)
              exact Stop.out ⟨by omega, by omega⟩
            · refine Stop.out ?_
              (with_unfolding_all rename Fr _ _ _ _ => kF)
              (with_unfolding_all rename News _ _ _ _ => kN)
              with_unfolding_all
               refine' inner_for (R₀ := comeN pp mm i) pp hd _ (by rfl) kF kN rfl hRi hi7 htl2 hok8 hL1 hRo lt7 ⟨qo, qs, qso, qss, qco, qcs, qlo, qls, qsec⟩ ?_ ?_
              · rintro j ⟨ov2, oe2, sv2, se2, on2, sn2, sec2, st2⟩ u3 h3 tk3 own3 r3 f3 ta3 tb3 hr3 hf3 ⟨yo, ys3, yso, yss, yco, ycs, ylo, yls, ysec⟩ hsep3 F3 N3
                dsimp only at yo ys3 yso yss yco ycs ylo yls ysec
                dsimp only [ZLd] at hsep3 N3
                clear kF kN
                try k_fold
                simp only [List.cons_append] at N3
                obtain ⟨tl3, htl3⟩ : ∃ tl3, tl3 = tl2 ++ own3 := ⟨_, rfl⟩
                rw [← htl3] at N3
                obtain rfl := figs_get hr3 hf3
                have hrb := z4 _ (get_mem hr3)
                obtain ⟨b1, b2, b3, b4, b5, b6⟩ := hm_fact (wd := wd) (hd := hd) (show 0 < pp by omega) hrb.1 hrb.2 (by omega) (by omega)
                have hfb := fig_bits (wd := wd) (hd := hd) (show 0 < pp by omega) hrb.1 hrb.2 (by omega)
                (repeat' (first | (k_unfold; (try dsimp only)) | walk1 | (dsimp only; walk1) | (leave1; walk_say "STEP leave1"; try dsimp only) | fail "no step"))
                · exact Stop.out (by omega)
                · exact Stop.out ⟨by omega, by rw [one_bits]; omega⟩
                · refine Stop.out ?_
                  (with_unfolding_all rename Fr _ _ _ _ => kF)
                  (with_unfolding_all rename News _ _ _ _ => kN)
                  rw [b1, b2] at kF ⊢
                  obtain ⟨Hn, hHn⟩ := Int.eq_ofNat_of_zero_le b3
                  obtain ⟨Mn, hMn⟩ := Int.eq_ofNat_of_zero_le b5
                  rw [hHn, hMn] at kF ⊢
                  replace kN := cb_drop kN (fun p hp => .tail _ hp)
                  obtain ⟨sqb, hsq⟩ : ∃ b : Bool, ((List.map (fun k' => (k' * k').fmod pp) (rangeKs 1 ((pp + 1).fdiv 2 - 1).toNat)).any fun x => x == r3) = b := ⟨_, rfl⟩
                  rw [hsq]
                  (k_dflt (refine' Tell.use (zone_tell _ sqb r3 (Hn : Int) (Mn : Int) _ _ _ _ (by omega) (by omega) (by omega) (by omega)) ?kBc49 ?kFc49 ?kXc49 ?kNc49 ?kTc49 ?kKc49 ?kdc49 ?kuc49 ?kRc49; (case kBc49 => k_asm); (case kFc49 => k_asm); (case kXc49 => k_asm); (case kNc49 => k_asm); (case kTc49 => k_asm); (case kKc49 => first | exact rfl | assumption); (case kdc49 => ktr_room); (case kuc49 => ktr_units)))
                  rintro r9 news9 h9 tk9 F9 N9 ⟨t9, rfl, rfl⟩
                  clear kF kN
                  (try dsimp only)
                  (try k_fold)
                  (repeat' (first | (k_unfold; (try dsimp only)) | walk1 | (dsimp only; walk1) | (leave1; walk_say "STEP leave1"; try dsimp only) | fail "no step"))
                  refine Stop.out ?_
                  (k_dflt (refine' Tell.use (off_tell _ _ _ sqb r3 Hn Mn (by omega) (by omega)) ?kBc50 ?kFc50 ?kXc50 ?kNc50 ?kTc50 ?kKc50 ?kdc50 ?kuc50 ?kRc50; (case kBc50 => k_asm); (case kFc50 => k_asm); (case kXc50 => k_asm); (case kNc50 => k_asm); (case kTc50 => k_asm); (case kKc50 => first | exact rfl | assumption); (case kdc50 => ktr_room); (case kuc50 => ktr_units)))
                  rintro r8 news8 h8 tk8 F8 N8 ⟨t8, rfl, rfl⟩
                  clear F9 N9
                  (try dsimp only)
                  (try k_fold)
                  (repeat' (first | (k_unfold; (try dsimp only)) | walk1 | (dsimp only; walk1) | (leave1; walk_say "STEP leave1"; try dsimp only) | fail "no step"))
                  · refine Stop.out ?_
                    (with_unfolding_all rename Fr _ _ _ _ => kF)
                    (with_unfolding_all rename News _ _ _ _ => kN)
                    (rename (List.any _ _) = true => hin)
                    obtain rfl : sqb = true := hsq.symm.trans hin
                    have hmem : r3 ∈ sqL pp := by rw [sq_any] at hin; exact of_decide_eq_true hin
                    have hcl2 := come_len hpp hm1 hm2 (i := i) (by omega)
                    have hln : sn2.length < 2 ^ 20 := by
                      have := yls
                      rw [List.length_append, List.length_take] at this
                      omega
                    have kN2 := swapA kN
                    clear kN
                    have hq3 : ∀ p ∈ own3, p.1 ≠ _ := fun p hp => hsep3 p hp _ (.tail _ (.tail _ (.head _)))
                    have hown := hown6 kN2 (by k_ne) (by k_ne) (by k_ne) (by k_ne) (by k_ne) (by k_ne) (row_off htl3 hof3 hq3)
                    (k_dflt (refine' Tell.use (ins_tell _ _ sv2 sn2 se2 (Hn : Int) _ _ ys3 hln yss hown) ?kBc51 ?kFc51 ?kXc51 ?kNc51 ?kTc51 ?kKc51 ?kdc51 ?kuc51 ?kRc51; (case kBc51 => k_asm); (case kFc51 => k_asm); (case kXc51 => k_asm); (case kNc51 => k_asm); (case kTc51 => k_asm); (case kKc51 => first | exact rfl | assumption); (case kdc51 => ktr_room); (case kuc51 => ktr_units)))
                    rintro r7 news7 h7 tk7 F7 N7 ⟨rfl, vs7, ep7, hi7, rfl⟩
                    clear kF kN2
                    (try dsimp only)
                    (try k_fold)
                    (repeat' (first | (k_unfold; (try dsimp only)) | walk1 | (dsimp only; walk1) | (leave1; walk_say "STEP leave1"; try dsimp only) | fail "no step"))
                    (with_unfolding_all rename Fr _ _ _ _ => kF)
                    (with_unfolding_all rename News _ _ _ _ => kN)
                    with_unfolding_all
                     refine' ZEnd.intro ⟨ov2, oe2, vs7, ep7, on2, insP sn2 Hn, sec2 + -(3600 * (Hn : Int) + 60 * (Mn : Int)), tk8⟩ kF kN ?_ ?_ ?_ ?_ ?_
                    · exact (zmemA htl3).1
                    · exact (zmemA htl3).2
                    · with_unfolding_all exact .cons rfl .nil
                    · repeat' first | exact off_lm rfl | refine' off_upd rfl ?_
                    · have hzi := zinv_sq (se := ep7) (st := tk8) (z := ⟨ov2, oe2, sv2, se2, on2, sn2, sec2, st2⟩) ⟨yo, ys3, yso, yss, yco, ycs, ylo, yls, ysec⟩ hmem hHn hMn hi7 rfl
                      rw [List.append_assoc, ← take_one hr3] at hzi
                      exact hzi
                  · refine Stop.out ?_
                    (with_unfolding_all rename Fr _ _ _ _ => kF)
                    (with_unfolding_all rename News _ _ _ _ => kN)
                    (rename (List.any _ _) = false => hin)
                    obtain rfl : sqb = false := hsq.symm.trans hin
                    have hmem : ¬ r3 ∈ sqL pp := by rw [sq_any] at hin; exact of_decide_eq_false hin
                    have hcl2 := come_len hpp hm1 hm2 (i := i) (by omega)
                    have hln : on2.length < 2 ^ 20 := by
                      have := ylo
                      rw [List.length_append, List.length_take] at this
                      omega
                    have kN2 := swapB kN
                    clear kN
                    have hq3 : ∀ p ∈ own3, p.1 ≠ _ := fun p hp => hsep3 p hp _ (.tail _ (.head _))
                    have hown := hown6 kN2 (by k_ne) (by k_ne) (by k_ne) (by k_ne) (by k_ne) (by k_ne) (row_off htl3 hof2 hq3)
                    (k_dflt (refine' Tell.use (ins_tell _ _ ov2 on2 oe2 (Hn : Int) _ _ yo hln yso hown) ?kBc52 ?kFc52 ?kXc52 ?kNc52 ?kTc52 ?kKc52 ?kdc52 ?kuc52 ?kRc52; (case kBc52 => k_asm); (case kFc52 => k_asm); (case kXc52 => k_asm); (case kNc52 => k_asm); (case kTc52 => k_asm); (case kKc52 => first | exact rfl | assumption); (case kdc52 => ktr_room); (case kuc52 => ktr_units)))
                    rintro r7 news7 h7 tk7 F7 N7 ⟨rfl, vs7, ep7, hi7, rfl⟩
                    clear kF kN2
                    (try dsimp only)
                    (try k_fold)
                    (repeat' (first | (k_unfold; (try dsimp only)) | walk1 | (dsimp only; walk1) | (leave1; walk_say "STEP leave1"; try dsimp only) | fail "no step"))
                    (with_unfolding_all rename Fr _ _ _ _ => kF)
                    (with_unfolding_all rename News _ _ _ _ => kN)
                    with_unfolding_all
                     refine' ZEnd.intro ⟨vs7, ep7, sv2, se2, insP on2 Hn, sn2, sec2 + (3600 * (Hn : Int) + 60 * (Mn : Int)), tk8⟩ kF kN ?_ ?_ ?_ ?_ ?_
                    · exact (zmemB htl3).1
                    · exact (zmemB htl3).2
                    · with_unfolding_all exact .cons rfl .nil
                    · repeat' first | exact off_lm rfl | refine' off_upd rfl ?_
                    · have hzi := zinv_ot (oe := ep7) (st := tk8) (z := ⟨ov2, oe2, sv2, se2, on2, sn2, sec2, st2⟩) ⟨yo, ys3, yso, yss, yco, ycs, ylo, yls, ysec⟩ hmem hHn hMn hi7 rfl
                      rw [List.append_assoc, ← take_one hr3] at hzi
                      exact hzi
                · exact Stop.out (dv_pre hfb)
              · rintro ⟨ov2, oe2, sv2, se2, on2, sn2, sec2, st2⟩ u3 h3 tk3 ⟨yo, ys3, yso, yss, yco, ycs, ylo, yls, ysec⟩ F3 N3
                dsimp only at yo ys3 yso yss yco ycs ylo yls ysec
                dsimp only [ZLd] at N3
                clear kF kN
                try k_fold
                (repeat' (first | (k_unfold; (try dsimp only)) | walk1 | (dsimp only; walk1) | (leave1; walk_say "STEP leave1"; try dsimp only) | fail "no step"))
                have hfl : (figs pp (2 ^ wd) ns).length = ns.length := List.length_map ..
                rw [← hrst] at hn2
                subst htl2
                with_unfolding_all
                 refine' FEnd.intro ⟨cv ++ vs, ce + 1, ov2, oe2, sv2, se2, on2, sn2, sec2, st2, some q8⟩ F3 N3 (fun p hp => by have hq := List.mem_append.mpr (Or.inl (b := p ∈ own) hp); exact hq) (fun p hp => by simp [hp]) ?_ ?_ ?_ ?_
                · exact hc_new rfl fun p hp => hne8 p (.tail _ (.tail _ (.tail _ (.tail _ (.tail _ (.tail _ (.tail _ (.tail _ hp))))))))
                · with_unfolding_all exact .cons rfl .nil
                · repeat' first | exact offx_lm rfl | refine' offx_upd rfl ?_ | refine' offx_x ?_ | exact offx_if (fun _ _ _ => rfl) | refine' offx_lm2 ?_ rfl rfl
                · exact OInv.of_z (z := ⟨ov2, oe2, sv2, se2, on2, sn2, sec2, st2⟩) hn2 qc hRi hfl ⟨yo, ys3, yso, yss, yco, ycs, ylo, yls, ysec⟩ hok8
            · (rename ¬ figs _ _ _ = _ => hne)
              exact absurd (figs_eq (by omega)) hne
          · refine Stop.out ⟨?_, ?_⟩
            · have := hRi.length; omega
            · have := hRi.length
              have := qc.length
              have := come_len hpp hm1 hm2 (i := i) (by omega)
              omega
        · unfold ek
          passes_own
    · rintro ⟨cv, ce, ov, oe, sv, se, on, sn, sec, st, tb⟩ u h₁ tk₁ ⟨qc, qo, qs, qso, qss, qco, qcs, qlo, qls, qsec, qtb⟩ F₁ N₁
      dsimp only at qc qo qs qso qss qco qcs qlo qls qsec qtb
      dsimp only [OLd, oPs] at F₁ N₁
      try k_fold
      clear kF kN
      have hMk := kstMark
      obtain ⟨tl, htl⟩ : ∃ tl, tl = tabLed tb := ⟨_, rfl⟩
      rw [← htl] at N₁
      (repeat' (first | (k_unfold; (try dsimp only)) | walk1 | (dsimp only; walk1) | (leave1; walk_say "STEP leave1"; try dsimp only) | fail "no step"))
      · exact Stop.out ⟨by omega, by rw [one_bits]; omega⟩
      · refine Stop.out ?_
        (with_unfolding_all rename Fr _ _ _ _ => kF)
        (with_unfolding_all rename News _ _ _ _ => kN)
        (rename IsRange _ _ _ _ _ _ _ _ => kR2)
        obtain ⟨w1, w2, w3⟩ := pow1 hd (by omega)
        rw [w1] at kR2
        with_unfolding_all
         refine' tail_for (n := 2 ^ hd - 1) (fun k => (cSq pp hd (comeN pp mm (pp - 1).toNat) k : Int) - (cOt pp hd (comeN pp mm (pp - 1).toNat) k : Int)) (by rfl) kR2 (small_one (by omega) (by omega) (by omega) (by omega)) ?_ kF kN rfl ?_ ?_
        · rw [rangeSize_nat]; omega
        · intro k mo tm u2 h₂ tk₂ tk3 own2 hk hmo F₂ N₂
          clear kF kN
          try k_fold
          simp only [List.cons_append] at N₂
          obtain ⟨tl2, htl2⟩ : ∃ tl2, tl2 = tl ++ own2 := ⟨_, rfl⟩
          rw [← htl2] at N₂
          (repeat' (first | (k_unfold; (try dsimp only)) | walk1 | (dsimp only; walk1) | (leave1; walk_say "STEP leave1"; try dsimp only) | fail "no step"))
          refine Stop.out ?_
          (with_unfolding_all rename Fr _ _ _ _ => kF)
          (with_unfolding_all rename News _ _ _ _ => kN)
          have hcl2 := come_len hpp hm1 hm2 (i := (pp - 1).toNat) (by omega)
          have kN2 := swapA kN
          clear kN
          (k_dflt (refine' Tell.use (bis_tell _ _ sv sn se (1 + (k : Int)) tk3 _ qs (by omega) qss _ (.inl rfl)) ?kBc53 ?kFc53 ?kXc53 ?kNc53 ?kTc53 ?kKc53 ?kdc53 ?kuc53 ?kRc53; (case kBc53 => k_asm); (case kFc53 => k_asm); (case kXc53 => k_asm); (case kNc53 => k_asm); (case kTc53 => k_asm); (case kKc53 => first | exact rfl | assumption); (case kdc53 => ktr_room); (case kuc53 => ktr_units)))
          rintro r9 news9 h9 tk9 F9 N9 ⟨t9, rfl, rfl⟩
          clear kF kN2
          (try dsimp only)
          (try k_fold)
          (repeat' (first | (k_unfold; (try dsimp only)) | walk1 | (dsimp only; walk1) | (leave1; walk_say "STEP leave1"; try dsimp only) | fail "no step"))
          refine Stop.out ?_
          (with_unfolding_all rename Fr _ _ _ _ => kF)
          (with_unfolding_all rename News _ _ _ _ => kN)
          have kN2 := swapA kN
          clear kN
          (k_dflt (refine' Tell.use (bis_tell _ _ ov on oe (1 + (k : Int)) tk3 _ qo (by omega) qso _ (.inl rfl)) ?kBc54 ?kFc54 ?kXc54 ?kNc54 ?kTc54 ?kKc54 ?kdc54 ?kuc54 ?kRc54; (case kBc54 => k_asm); (case kFc54 => k_asm); (case kXc54 => k_asm); (case kNc54 => k_asm); (case kTc54 => k_asm); (case kKc54 => first | exact rfl | assumption); (case kdc54 => ktr_room); (case kuc54 => ktr_units)))
          rintro r8 news8 h8 tk8 F8 N8 ⟨t8, rfl, rfl⟩
          clear kF kN2
          (try dsimp only)
          (try k_fold)
          (repeat' (first | (k_unfold; (try dsimp only)) | walk1 | (dsimp only; walk1) | (leave1; walk_say "STEP leave1"; try dsimp only) | fail "no step"))
          (with_unfolding_all rename Fr _ _ _ _ => kF)
          (with_unfolding_all rename News _ _ _ _ => kN)
          with_unfolding_all
           refine' FEnd.intro (mo + ((cntLt sn (1 + (k : Int)) : Int) - (cntLt on (1 + (k : Int)) : Int)), _) kF kN (memC htl2).1 (memC htl2).2 (fun p hp => .inl (List.mem_map.mpr ⟨p, hp, rfl⟩)) (.cons rfl .nil) ?_ ?_
          · repeat' first | exact offx_lm rfl | refine' offx_upd rfl ?_ | refine' offx_x ?_
          · dsimp only
            rw [more_succ, ← hmo, qcs, qco]
        · intro mo tm u2 h₂ tk₂ hmo F₂ N₂
          clear kF kN
          try k_fold
          (repeat' (first | (k_unfold; (try dsimp only)) | walk1 | (dsimp only; walk1) | (leave1; walk_say "STEP leave1"; try dsimp only) | fail "no step"))
          · exact Stop.out ⟨by omega, by rw [one_bits]; omega⟩
          · exact Stop.out ⟨by omega, by rw [one_bits]; omega⟩
          · refine Stop.out ?_
            (with_unfolding_all rename Fr _ _ _ _ => kF)
            (with_unfolding_all rename News _ _ _ _ => kN)
            (rename (List.any _ _) = true => hin)
            have hsd := side_pos (by omega) hin
            have hfr := frm_b hpp
            obtain ⟨e1, e2⟩ := end_fact hpp hm1 hm2 (by omega) (by omega) hsd hmo qsec
            rw [w1]
            obtain ⟨P2, hP2⟩ : ∃ z : Int, ((2 ^ hd : Nat) : Int) = z := ⟨_, rfl⟩
            rw [hP2] at w2 w3 e1 e2 ⊢
            obtain ⟨FN, hFN⟩ : ∃ z : Int, frmN pp 5 1 0 = z := ⟨_, rfl⟩
            rw [hFN] at hfr e1 e2
            (k_dflt (refine' Tell.use (forms_tell _ pp _ _ (by omega) (by omega)) ?kBc55 ?kFc55 ?kXc55 ?kNc55 ?kTc55 ?kKc55 ?kdc55 ?kuc55 ?kRc55; (case kBc55 => k_asm); (case kFc55 => k_asm); (case kXc55 => k_asm); (case kNc55 => k_asm); (case kTc55 => k_asm); (case kKc55 => first | exact rfl | assumption); (case kdc55 => ktr_room); (case kuc55 => ktr_units)))
            rintro r9 news9 h9 tk9 F9 N9 ⟨t9, rfl, rfl⟩
            clear kF kN
            rw [hFN]
            (try dsimp only)
            (try k_fold)
            (iterate 4 (first | (k_unfold; (try dsimp only)) | (k_end; wrow_close) | walk1 | (dsimp only; walk1) | (leave1; walk_say "STEP leave1"; try dsimp only) | fail "no step"))
            (with_unfolding_all rename Fr _ _ _ _ => kF)
            obtain ⟨sh, hsh⟩ : ∃ z : Int, (P2 - 1) * FN = z := ⟨_, rfl⟩
            have hshb : 0 ≤ sh ∧ sh ≤ 6400 := by
              rw [← hsh]
              refine ⟨Int.mul_nonneg (by omega) hfr.1, ?_⟩
              exact Int.le_trans (Int.mul_le_mul (show P2 - 1 ≤ 64 by omega) hfr.2 hfr.1 (by omega)) (by omega)
            rw [hsh] at kF e1 e2
            rw [e1] at kF
            rw [e2] at kF
            (iterate 9 (first | (k_unfold; (try dsimp only)) | (k_end; wrow_close) | walk1 | (dsimp only; walk1) | (leave1; walk_say "STEP leave1"; try dsimp only) | fail "no step"))
            · (iterate 15 (first | (k_unfold; (try dsimp only)) | (k_end; wrow_close) | walk1 | (dsimp only; walk1) | (leave1; walk_say "STEP leave1"; try dsimp only) | fail "no step"))
              · (with_unfolding_all rename Fr _ _ _ _ => kF)
                (rename _ = #[] => hgens)
                rw [show (60 * (60 + 1) * sh == 60 * (60 + 1) * sh) = true from beq_self_eq_true _]
                with_unfolding_all
                 refine' goodW_bool kF hgens ?_ ?_
                · intro cls; with_unfolding_all rfl
                · with_unfolding_all rfl
              · (with_unfolding_all rename News _ _ _ _ => kN)
                subst htl
                cases tb with
                | none => exact ⟨GrownAt.of kN (.tail _ (.tail _ (.tail _ (.tail _ (.tail _ (.tail _ (.tail _ (.head _)))))))), trivial⟩
                | some q => exact ⟨GrownAt.of kN (.tail _ (.tail _ (.tail _ (.tail _ (.tail _ (.tail _ (.tail _ (.head _)))))))), trivial⟩
            · (rename sh ≠ sh => hne)
              exact absurd rfl hne
          · exact Stop.out ⟨by omega, by rw [one_bits]; omega⟩
          · refine Stop.out ?_
            (with_unfolding_all rename Fr _ _ _ _ => kF)
            (with_unfolding_all rename News _ _ _ _ => kN)
            (rename (List.any _ _) = false => hin)
            have hsd := side_neg (by omega) hin
            have hfr := frm_b hpp
            obtain ⟨e1, e2⟩ := end_fact hpp hm1 hm2 (by omega) (by omega) hsd hmo qsec
            rw [w1]
            obtain ⟨P2, hP2⟩ : ∃ z : Int, ((2 ^ hd : Nat) : Int) = z := ⟨_, rfl⟩
            rw [hP2] at w2 w3 e1 e2 ⊢
            obtain ⟨FN, hFN⟩ : ∃ z : Int, frmN pp 5 1 0 = z := ⟨_, rfl⟩
            rw [hFN] at hfr e1 e2
            (k_dflt (refine' Tell.use (forms_tell _ pp _ _ (by omega) (by omega)) ?kBc56 ?kFc56 ?kXc56 ?kNc56 ?kTc56 ?kKc56 ?kdc56 ?kuc56 ?kRc56; (case kBc56 => k_asm); (case kFc56 => k_asm); (case kXc56 => k_asm); (case kNc56 => k_asm); (case kTc56 => k_asm); (case kKc56 => first | exact rfl | assumption); (case kdc56 => ktr_room); (case kuc56 => ktr_units)))
            rintro r9 news9 h9 tk9 F9 N9 ⟨t9, rfl, rfl⟩
            clear kF kN
            rw [hFN]
            (try dsimp only)
            (try k_fold)
            (iterate 4 (first | (k_unfold; (try dsimp only)) | (k_end; wrow_close) | walk1 | (dsimp only; walk1) | (leave1; walk_say "STEP leave1"; try dsimp only) | fail "no step"))
            (with_unfolding_all rename Fr _ _ _ _ => kF)
            obtain ⟨sh, hsh⟩ : ∃ z : Int, (P2 - -1) * FN = z := ⟨_, rfl⟩
            have hshb : 0 ≤ sh ∧ sh ≤ 6500 := by
              rw [← hsh]
              refine ⟨Int.mul_nonneg (by omega) hfr.1, ?_⟩
              exact Int.le_trans (Int.mul_le_mul (show P2 - -1 ≤ 65 by omega) hfr.2 hfr.1 (by omega)) (by omega)
            rw [hsh] at kF e1 e2
            rw [e1] at kF
            rw [e2] at kF
            (iterate 9 (first | (k_unfold; (try dsimp only)) | (k_end; wrow_close) | walk1 | (dsimp only; walk1) | (leave1; walk_say "STEP leave1"; try dsimp only) | fail "no step"))
            · (iterate 15 (first | (k_unfold; (try dsimp only)) | (k_end; wrow_close) | walk1 | (dsimp only; walk1) | (leave1; walk_say "STEP leave1"; try dsimp only) | fail "no step"))
              · (with_unfolding_all rename Fr _ _ _ _ => kF)
                (rename _ = #[] => hgens)
                rw [show (60 * (60 + -1) * sh == 60 * (60 + -1) * sh) = true from beq_self_eq_true _]
                with_unfolding_all
                 refine' goodW_bool kF hgens ?_ ?_
                · intro cls; with_unfolding_all rfl
                · with_unfolding_all rfl
              · (with_unfolding_all rename News _ _ _ _ => kN)
                subst htl
                cases tb with
                | none => exact ⟨GrownAt.of kN (.tail _ (.tail _ (.tail _ (.tail _ (.tail _ (.tail _ (.tail _ (.head _)))))))), trivial⟩
                | some q => exact ⟨GrownAt.of kN (.tail _ (.tail _ (.tail _ (.tail _ (.tail _ (.tail _ (.tail _ (.head _)))))))), trivial⟩
            · (rename sh ≠ sh => hne)
              exact absurd rfl hne)
end Mine
theorem PySem.Challenge.cw_xg0042_01_holds : PySem.Challenge.rw_xg0042_01.Holds :=
  Mine.tt
