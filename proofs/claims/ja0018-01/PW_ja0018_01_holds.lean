import PyProof.Rows.All
import Wide.All
import OpenK.AllK
import Wide.FinOn
import PySem.Challenge.RW_ja0018_01
open PySem PySem.W PyProof.Rows PySem.Calls
set_option Elab.async false
set_option maxRecDepth 100000
set_option linter.unusedVariables false
set_option compiler.extract_closed false
namespace Mine
set_option synthInstance.maxSize 1 in
set_option maxHeartbeats 8000000 in
open_top hd for PySem.Challenge.rw_ja0018_01
theorem fillT (w : World) (h : Heap) : PySem.Challenge.rw_ja0018_01.Holds → (Mine.hd.heap_39 w.params).In h → True := by
  k_fill
  intros; trivial

abbrev RetI (x : Int) (P : Int → Prop) (h₀ : Heap) (L : Addr) (m : Str → Option Value) (news : List (Addr × Obj)) (s : Shared) (Q : Value → Shared → Prop) : Prop :=
  ∀ (t : Tok) (h' : Heap) (tk' : Nat) (z : Int), Fr h₀ L h' m → News h₀ L h' news → z = x → P z → Q (.int z t) { s with heap := h', toks := tk' }
abbrev RetB (x : Bool) (h₀ : Heap) (L : Addr) (m : Str → Option Value) (news : List (Addr × Obj)) (s : Shared) (Q : Value → Shared → Prop) : Prop :=
  ∀ (h' : Heap) (tk' : Nat), Fr h₀ L h' m → News h₀ L h' news → Q (.bool x) { s with heap := h', toks := tk' }
abbrev tup3 (x y z : Int) (t1 t2 t3 : Tok) (c : Nat) : Obj := { cls := .type "tuple", data := .seq #[.int x t1, .int y t2, .int z t3] c }
abbrev tup2 (x y : Int) (t1 t2 : Tok) (c : Nat) : Obj := { cls := .type "tuple", data := .seq #[.int x t1, .int y t2] c }
abbrev RetT3 (x y z : Int) (h₀ : Heap) (L : Addr) (m : Str → Option Value) (news : List (Addr × Obj)) (s : Shared) (Q : Value → Shared → Prop) : Prop :=
  ∀ (D : Addr) (t1 t2 t3 : Tok) (c : Nat) (h' : Heap) (tk' : Nat) (x' y' z' : Int), Fr h₀ L h' m → News h₀ L h' ((D, tup3 x' y' z' t1 t2 t3 c) :: news) → x' = x → y' = y → z' = z → Q (.ref D) { s with heap := h', toks := tk' }
abbrev RetT2 (x y : Int) (h₀ : Heap) (L : Addr) (m : Str → Option Value) (news : List (Addr × Obj)) (s : Shared) (Q : Value → Shared → Prop) : Prop :=
  ∀ (D : Addr) (t1 t2 : Tok) (c : Nat) (h' : Heap) (tk' : Nat) (x' y' : Int), Fr h₀ L h' m → News h₀ L h' ((D, tup2 x' y' t1 t2 c) :: news) → x' = x → y' = y → Q (.ref D) { s with heap := h', toks := tk' }

abbrev Cl (w : World) (p : Program) (loose : List Str) (mean : ExcName → Option Value) (mg mb : Str → Option Value) (k : Nat) (f : Addr) (news : List (Addr × Obj)) (vs : List Value)
    (R : Heap → Addr → (Str → Option Value) → List (Addr × Obj) → Shared → (Value → Shared → Prop) → Prop) : Prop :=
  ∀ (dp un : Nat) (gd : Option (List Code)) (cn : Str) (cs : Scope) (a : Addr) (ccd : Value) (cl : List (Str × Addr)) (outer : List Env) (A₀ : Around) (base h₀ : Heap) (L : Addr) (m : Str → Option Value) (s : Shared) (Q E : Value → Shared → Prop),
    Below A₀ base outer h₀ → Fr h₀ L s.heap m → (Mine.hd.heap_39 w.params).In h₀ → News h₀ L s.heap news → Top p loose mean mg mb h₀ → cs.kind = .function →
    dp + k < recursionLimit → un + 8 * k < cLine → R h₀ L m news s Q →
      wpAny (model PySem.Challenge.rw_ja0018_01.row.prog w) (ktrTop dp un gd cn cs L a ccd cl outer) (call (.ref f) vs) Q E s

section
variable {h₀ h' : Heap} {L : Addr} {m : Str → Option Value} {news news' : List (Addr × Obj)} {s : Shared} {Q : Value → Shared → Prop} {t : Tok} {tk' : Nat}
theorem endI {x y : Int} {P : Int → Prop} (hret : RetI x P h₀ L m news s Q) (hp : P x) (e : y = x) (F : Fr h₀ L h' m) (N : News h₀ L h' news') (hn : ∀ p ∈ news, p ∈ news') : Q (.int y t) { s with heap := h', toks := tk' } := by
  subst e; exact hret t h' tk' y F (fun p hp => N p (hn p hp)) rfl hp
theorem endB {x y : Bool} (hret : RetB x h₀ L m news s Q) (e : y = x) (F : Fr h₀ L h' m) (N : News h₀ L h' news') (hn : ∀ p ∈ news, p ∈ news') : Q (.bool y) { s with heap := h', toks := tk' } := by
  subst e; exact hret h' tk' F (fun p hp => N p (hn p hp))
theorem endT3 {x y z x' y' z' : Int} {D : Addr} {t1 t2 t3 : Tok} {c : Nat} (hret : RetT3 x y z h₀ L m news s Q) (ex : x' = x) (ey : y' = y) (ez : z' = z) (F : Fr h₀ L h' m) (N : News h₀ L h' news') (hd : (D, tup3 x' y' z' t1 t2 t3 c) ∈ news') (hn : ∀ p ∈ news, p ∈ news') : Q (.ref D) { s with heap := h', toks := tk' } := by
  subst ex ey ez
  exact hret D t1 t2 t3 c h' tk' _ _ _ F (fun p hp => by
    rcases List.mem_cons.mp hp with rfl | hp
    · exact N _ hd
    · exact N p (hn p hp)) rfl rfl rfl
theorem endT2 {x y x' y' : Int} {D : Addr} {t1 t2 : Tok} {c : Nat} (hret : RetT2 x y h₀ L m news s Q) (ex : x' = x) (ey : y' = y) (F : Fr h₀ L h' m) (N : News h₀ L h' news') (hd : (D, tup2 x' y' t1 t2 c) ∈ news') (hn : ∀ p ∈ news, p ∈ news') : Q (.ref D) { s with heap := h', toks := tk' } := by
  subst ex ey
  exact hret D t1 t2 c h' tk' _ _ F (fun p hp => by
    rcases List.mem_cons.mp hp with rfl | hp
    · exact N _ hd
    · exact N p (hn p hp)) rfl rfl
end
theorem subR {news : List (Addr × Obj)} : ∀ p ∈ news, p ∈ news := fun _ h => h
theorem subC {news news' : List (Addr × Obj)} {q : Addr × Obj} (h : ∀ p ∈ news, p ∈ news') : ∀ p ∈ news, p ∈ q :: news' := fun p hp => .tail _ (h p hp)

section
variable {w : World} {p : Program} {loose : List Str} {mean : ExcName → Option Value} {mg mb : Str → Option Value}
theorem use {k : Nat} {f : Addr} {news : List (Addr × Obj)} {vs : List Value} {R : Heap → Addr → (Str → Option Value) → List (Addr × Obj) → Shared → (Value → Shared → Prop) → Prop}
    (C : Cl w p loose mean mg mb k f news vs R) {dp un : Nat} {gd : Option (List Code)} {cn : Str} {cs : Scope} {a : Addr} {ccd : Value} {cl : List (Str × Addr)} {outer : List Env} {A₀ : Around} {base h₀ : Heap} {L : Addr} {m : Str → Option Value} {s : Shared} {Q E : Value → Shared → Prop}
    (B : Below A₀ base outer h₀) (F : Fr h₀ L s.heap m) (X : (Mine.hd.heap_39 w.params).In h₀) (N : News h₀ L s.heap news) (T : Top p loose mean mg mb h₀) (hk : cs.kind = .function)
    (hd : dp + k < recursionLimit) (hu : un + 8 * k < cLine) (ret : R h₀ L m news s Q) :
      wpAny (model PySem.Challenge.rw_ja0018_01.row.prog w) (ktrTop dp un gd cn cs L a ccd cl outer) (call (.ref f) vs) Q E s := C _ _ _ _ _ _ _ _ _ _ _ _ _ _ _ _ _ B F X N T hk hd hu ret

/-- what is asked of the row of equinoxes -/
structure RowC (w : World) (p : Program) (loose : List Str) (mean : ExcName → Option Value) (mg mb : Str → Option Value) (part : Int) (r : Addr) (O : List (Addr × Obj)) : Prop where
  fn : ∃ c d fd sl, (r, (⟨c, d, .func fd, sl⟩ : Obj)) ∈ O
  call : ∀ (news : List (Addr × Obj)) (y : Int) (ty : Tok), (∀ p ∈ O, p ∈ news) → -6000 ≤ y ∧ y ≤ 12000 → Cl w p loose mean mg mb 3 r news [.int y ty] (RetI (1948321 + (36524219878 * (y - 622) + part) / 100000000) (fun _ => True))
theorem rowFn {part : Int} {r : Addr} {O news : List (Addr × Obj)} {h₀ h : Heap} {L : Addr} (HR : RowC w p loose mean mg mb part r O) (hO : ∀ p ∈ O, p ∈ news) (N : News h₀ L h news) : FnAt r h := by
  obtain ⟨c, d, fd, sl, hm⟩ := HR.fn
  exact FnAt.of N (hO _ hm)
theorem rowUse {part : Int} {r : Addr} {O news : List (Addr × Obj)} {y : Int} {ty : Tok} (HR : RowC w p loose mean mg mb part r O) (hO : ∀ p ∈ O, p ∈ news) (hy : -6000 ≤ y ∧ y ≤ 12000) :
    Cl w p loose mean mg mb 3 r news [.int y ty] (RetI (1948321 + (36524219878 * (y - 622) + part) / 100000000) (fun _ => True)) := HR.call news y ty hO hy

theorem in_topTup {prog : Program} {A : Around} {K : Frag} {h₀ : Heap} {L l : Addr} {m : Str → Option Value} {s : Shared} {E : Value → Shared → Prop} {items : Array Value} {d : Option Addr} {n : Nat} {sl : Array (Option Value)} {ns : List Int} {k : Int} {t : Tok} {Q : Value → Shared → Prop}
    (F : Fr h₀ L s.heap m) (X : K.In h₀) (hl : K.lookup l = some ⟨.type "tuple", d, .seq items n, sl⟩) (hi : IntsAre items.toList ns) (h : Q (.bool (ns.any (· == k))) s) :
    wpAny (model prog w) A (compareOp .In (.int k t) (.ref l)) Q E s :=
  PySem.SeqAt.in_tupleAt (isInt k) ⟨_, F.keep _ _ (X _ _ hl), rfl, _, rfl⟩ (fun y hy => (eq_isInt k t hi y (by simpa using hy)).at _ _)
    (by rw [← Array.any_toList, any_isInt k hi]; exact h)
end

theorem any4 {k a b c d : Int} : [a, b, c, d].any (· == k) = decide (k = a ∨ k = b ∨ k = c ∨ k = d) := by
  simp [Bool.decide_or, eq_comm, Bool.beq_eq_decide_eq]
theorem any5 {k a b c d e : Int} : [a, b, c, d, e].any (· == k) = decide (k = a ∨ k = b ∨ k = c ∨ k = d ∨ k = e) := by
  simp [Bool.decide_or, eq_comm, Bool.beq_eq_decide_eq]
theorem any6 {k a b c d e f : Int} : [a, b, c, d, e, f].any (· == k) = decide (k = a ∨ k = b ∨ k = c ∨ k = d ∨ k = e ∨ k = f) := by
  simp [Bool.decide_or, eq_comm, Bool.beq_eq_decide_eq]
theorem any4' {Q : Value → Shared → Prop} {s : Shared} {k a b c d : Int} (h : Q (.bool (decide (k = a ∨ k = b ∨ k = c ∨ k = d))) s) : Q (.bool ([a, b, c, d].any (· == k))) s := by rw [any4]; exact h
theorem any5' {Q : Value → Shared → Prop} {s : Shared} {k a b c d e : Int} (h : Q (.bool (decide (k = a ∨ k = b ∨ k = c ∨ k = d ∨ k = e))) s) : Q (.bool ([a, b, c, d, e].any (· == k))) s := by rw [any5]; exact h
theorem any6' {Q : Value → Shared → Prop} {s : Shared} {k a b c d e f : Int} (h : Q (.bool (decide (k = a ∨ k = b ∨ k = c ∨ k = d ∨ k = e ∨ k = f))) s) : Q (.bool ([a, b, c, d, e, f].any (· == k))) s := by rw [any6]; exact h
section
variable {prog : Program} {w : World} {A : Around} {K : Frag} {h₀ : Heap} {L l : Addr} {m : Str → Option Value} {s : Shared} {E : Value → Shared → Prop} {dd : Option Addr} {n : Nat} {sl : Array (Option Value)} {k : Int} {t : Tok} {Q : Value → Shared → Prop}
theorem in_top4 {a b c d : Int} {ta tb tc td : Tok} (F : Fr h₀ L s.heap m) (X : K.In h₀) (hl : K.lookup l = some ⟨.type "tuple", dd, .seq #[.int a ta, .int b tb, .int c tc, .int d td] n, sl⟩) (h : Q (.bool (decide (k = a ∨ k = b ∨ k = c ∨ k = d))) s) :
    wpAny (model prog w) A (compareOp .In (.int k t) (.ref l)) Q E s := in_topTup (ns := [a, b, c, d]) F X hl (by repeat constructor) (any4' h)
theorem in_top5 {a b c d e : Int} {ta tb tc td te : Tok} (F : Fr h₀ L s.heap m) (X : K.In h₀) (hl : K.lookup l = some ⟨.type "tuple", dd, .seq #[.int a ta, .int b tb, .int c tc, .int d td, .int e te] n, sl⟩) (h : Q (.bool (decide (k = a ∨ k = b ∨ k = c ∨ k = d ∨ k = e))) s) :
    wpAny (model prog w) A (compareOp .In (.int k t) (.ref l)) Q E s := in_topTup (ns := [a, b, c, d, e]) F X hl (by repeat constructor) (any5' h)
theorem in_top6 {a b c d e f : Int} {ta tb tc td te tf : Tok} (F : Fr h₀ L s.heap m) (X : K.In h₀) (hl : K.lookup l = some ⟨.type "tuple", dd, .seq #[.int a ta, .int b tb, .int c tc, .int d td, .int e te, .int f tf] n, sl⟩) (h : Q (.bool (decide (k = a ∨ k = b ∨ k = c ∨ k = d ∨ k = e ∨ k = f))) s) :
    wpAny (model prog w) A (compareOp .In (.int k t) (.ref l)) Q E s := in_topTup (ns := [a, b, c, d, e, f]) F X hl (by repeat constructor) (any6' h)
end

/-- the Gregorian year is long -/
abbrev leapP (y : Int) : Prop := y % 4 = 0 ∧ (y % 100 ≠ 0 ∨ y % 400 = 0)
def ladj0 (y m : Int) : Int := if m ≤ 2 then 0 else if leapP y then -1 else -2
def gjd (y m d : Int) : Int := 1721425 + 365 * (y - 1) + (y - 1) / 4 - (y - 1) / 100 + (y - 1) / 400 + ((367 * m - 362) / 12 + ladj0 y m + d)
abbrev legalP (y m d : Int) : Prop := 0 < d ∧ (d ≤ 28 ∨ (m = 2 ∧ (y % 4 = 0 ∧ (y % 100 ≠ 0 ∨ y % 400 = 0)) ∧ d ≤ 29) ∨ (m ≠ 2 ∧ d ≤ 30) ∨ (m ≠ 2 ∧ m ≠ 4 ∧ m ≠ 6 ∧ m ≠ 9 ∧ m ≠ 11 ∧ d ≤ 31))

local macro_rules | `(tactic| walk_at "eval Call") => `(tactic| (k_here; refine Call_ ?_))
section
variable {w : World} {p : Program} {loose : List Str} {mean : ExcName → Option Value} {mg mb : Str → Option Value}
set_option maxHeartbeats 4000000 in
theorem c_isleap (news : List (Addr × Obj)) (y : Int) (ty : Tok) : Cl w p loose mean mg mb 1 21 news [.int y ty] (RetB (decide (y % 4 = 0 ∧ (y % 100 ≠ 0 ∨ y % 400 = 0)))) := by
  intro dp un gd cn cs a ccd cl outer A₀ base h₀ L m s Q E B F X N T hk hd hu hret
  refine wpAny_call ?_
  k_dflt cell_enter
  (repeat' (first
      | (with_reducible ((with_reducible show wpAny _ _ (compareOp CmpOp.In (Value.int _ _) (Value.ref _)) _ _ _); (k_here; k_dflt (first
  | (refine' in_top4 ?F ?X ?l ?_; (case F => k_asm); (case X => k_asm); (case l => k_is); k_whole)
  | (refine' in_top5 ?F ?X ?l ?_; (case F => k_asm); (case X => k_asm); (case l => k_is); k_whole)
  | (refine' in_top6 ?F ?X ?l ?_; (case F => k_asm); (case X => k_asm); (case l => k_is); k_whole)))))
      | (k_unfold; (try dsimp only)) | (k_end; kc_close) | walk1 | (dsimp only; walk1) | (leave1; (try dsimp only)) | fail "no step"))
  all_goals (refine endB (Q := Q) (s := s) hret ?_ (by k_asm) (by k_asm) subR)
  all_goals (law_fm; rw [Bool.eq_iff_iff]; simp only [bne_iff_ne, ne_eq, beq_iff_eq, decide_eq_true_eq]; omega)


set_option maxHeartbeats 4000000 in
theorem c_legal (news : List (Addr × Obj)) (y mo d : Int) (ty tm td : Tok) (h : legalP y mo d) : Cl w p loose mean mg mb 2 41 news [.int y ty, .int mo tm, .int d td] (RetB true) := by
  obtain ⟨h1, h2⟩ := h
  intro dp un gd cn cs a ccd cl outer A₀ base h₀ L m s Q E B F X N T hk hd hu hret
  refine wpAny_call ?_
  k_dflt cell_enter
  (repeat' (first
      | ((with_reducible show wpAny _ _ (call (Value.ref _) _) _ _ _); first
        | (with_reducible ((with_reducible show wpAny _ _ (call (Value.ref 21) _) _ _ _); (k_here; k_dflt (refine' use (c_isleap _ _ _) ?k1 ?k2 ?k3 ?k4 ?k5 ?kK ?kd ?ku ?_; (case k1 => k_asm); (case k2 => k_asm); (case k3 => k_asm); (case k4 => k_asm); (case k5 => k_asm); (case kK => first | exact rfl | assumption); (case kd => ktr_room); (case ku => ktr_units); intro h9 tk9 F9 N9; (try dsimp only); (try k_fold)))))
        )
      | (with_reducible ((with_reducible show wpAny _ _ (compareOp CmpOp.In (Value.int _ _) (Value.ref _)) _ _ _); (k_here; k_dflt (first
  | (refine' in_top4 ?F ?X ?l ?_; (case F => k_asm); (case X => k_asm); (case l => k_is); k_whole)
  | (refine' in_top5 ?F ?X ?l ?_; (case F => k_asm); (case X => k_asm); (case l => k_is); k_whole)
  | (refine' in_top6 ?F ?X ?l ?_; (case F => k_asm); (case X => k_asm); (case l => k_is); k_whole)))))
      | (k_unfold; (try dsimp only)) | (k_end; kc_close) | walk1 | (dsimp only; walk1) | (leave1; (try dsimp only)) | fail "no step"))
  all_goals exact endB (Q := Q) (s := s) hret rfl (by k_asm) (by k_asm) subR


theorem gjd_bd {y mo d : Int} (hy : -6000 ≤ y ∧ y ≤ 12000) (hm : -1000000 ≤ mo ∧ mo ≤ 1000000) (hl : legalP y mo d) : -10000000 + 367 * mo / 12 ≤ gjd y mo d ∧ gjd y mo d ≤ 10000000 + 367 * mo / 12 := by
  obtain ⟨h1, h2⟩ := hl
  have h3 : d ≤ 31 := by omega
  unfold gjd ladj0
  split
  · omega
  · split <;> omega

set_option maxHeartbeats 4000000 in
theorem c_gjd (news : List (Addr × Obj)) (y mo d : Int) (ty tm td : Tok) (hy : -6000 ≤ y ∧ y ≤ 12000) (hm : -1000000 ≤ mo ∧ mo ≤ 1000000) (hl : legalP y mo d) : Cl w p loose mean mg mb 3 48 news [.int y ty, .int mo tm, .int d td] (RetI (gjd y mo d) (fun z => -10000000 + 367 * mo / 12 ≤ z ∧ z ≤ 10000000 + 367 * mo / 12)) := by
  intro dp un gd cn cs a ccd cl outer A₀ base h₀ L m s Q E B F X N T hk hd hu hret
  refine wpAny_call ?_
  k_dflt cell_enter
  (repeat' (first
      | ((with_reducible show wpAny _ _ (call (Value.ref _) _) _ _ _); first
        | (with_reducible ((with_reducible show wpAny _ _ (call (Value.ref 41) _) _ _ _); (k_here; k_dflt (refine' use (c_legal _ _ _ _ _ _ _ ?kp) ?k1 ?k2 ?k3 ?k4 ?k5 ?kK ?kd ?ku ?_; (case kp => first | assumption | omega | ((try law_fm); omega)); (case k1 => k_asm); (case k2 => k_asm); (case k3 => k_asm); (case k4 => k_asm); (case k5 => k_asm); (case kK => first | exact rfl | assumption); (case kd => ktr_room); (case ku => ktr_units); intro h9 tk9 F9 N9; (try dsimp only); (try k_fold)))))
        | (with_reducible ((with_reducible show wpAny _ _ (call (Value.ref 21) _) _ _ _); (k_here; k_dflt (refine' use (c_isleap _ _ _) ?k1 ?k2 ?k3 ?k4 ?k5 ?kK ?kd ?ku ?_; (case k1 => k_asm); (case k2 => k_asm); (case k3 => k_asm); (case k4 => k_asm); (case k5 => k_asm); (case kK => first | exact rfl | assumption); (case kd => ktr_room); (case ku => ktr_units); intro h9 tk9 F9 N9; (try dsimp only); (try k_fold)))))
        )
      | (with_reducible ((with_reducible show wpAny _ _ (compareOp CmpOp.In (Value.int _ _) (Value.ref _)) _ _ _); (k_here; k_dflt (first
  | (refine' in_top4 ?F ?X ?l ?_; (case F => k_asm); (case X => k_asm); (case l => k_is); k_whole)
  | (refine' in_top5 ?F ?X ?l ?_; (case F => k_asm); (case X => k_asm); (case l => k_is); k_whole)
  | (refine' in_top6 ?F ?X ?l ?_; (case F => k_asm); (case X => k_asm); (case l => k_is); k_whole)))))
      | (k_unfold; (try dsimp only)) | (k_end; kc_close) | walk1 | (dsimp only; walk1) | (leave1; (try dsimp only)) | fail "no step"))
  all_goals (refine endI (Q := Q) (s := s) hret (gjd_bd hy hm hl) ?_ (by k_asm) (by k_asm) subR)
  all_goals (clear hret; (simp (disch := omega) only [Int.fdiv_eq_ediv_of_nonneg]); unfold gjd ladj0; split <;> first | omega | (split <;> omega))

end

def gcyc (jd : Int) : Int := (jd - 1721426) % 146097
def gdc (jd : Int) : Int := gcyc jd % 36524
def gdq (jd : Int) : Int := gdc jd % 1461
def gyear (jd : Int) : Int :=
  (jd - 1721426) / 146097 * 400 + gcyc jd / 36524 * 100 + gdc jd / 1461 * 4 + gdq jd / 365 + (if gcyc jd / 36524 = 4 ∨ gdq jd / 365 = 4 then 0 else 1)
def gyday (jd : Int) : Int := jd - gjd (gyear jd) 1 1
def gadj (jd : Int) : Int := if leapP (gyear jd) then (if gyday jd < 59 then 0 else 1) else (if gyday jd < 58 then 0 else 2)
def gmonth (jd : Int) : Int := ((gyday jd + gadj jd) * 12 + 373) / 367
def gday (jd : Int) : Int := jd - gjd (gyear jd) (gmonth jd) 1 + 1
theorem gyA (jd : Int) (h : (jd - 1721426) % 146097 / 36524 = 4 ∨ (jd - 1721426) % 146097 % 36524 % 1461 / 365 = 4) : (jd - 1721426) / 146097 * 400 + (jd - 1721426) % 146097 / 36524 * 100 + (jd - 1721426) % 146097 % 36524 / 1461 * 4 + (jd - 1721426) % 146097 % 36524 % 1461 / 365 = gyear jd := by
  unfold gyear gdq gdc gcyc; rw [if_pos h]; omega
theorem gyB (jd : Int) (h : (jd - 1721426) % 146097 / 36524 ≠ 4) (h' : (jd - 1721426) % 146097 % 36524 % 1461 / 365 ≠ 4) : (jd - 1721426) / 146097 * 400 + (jd - 1721426) % 146097 / 36524 * 100 + (jd - 1721426) % 146097 % 36524 / 1461 * 4 + (jd - 1721426) % 146097 % 36524 % 1461 / 365 + 1 = gyear jd := by
  unfold gyear gdq gdc gcyc; rw [if_neg (by omega)]
theorem gyl (jd : Int) (h : (jd - 1721426) % 146097 / 36524 = 4 ∨ (jd - 1721426) % 146097 % 36524 % 1461 / 365 = 4) : leapP (gyear jd) := by
  unfold leapP gyear gdq gdc gcyc; rw [if_pos h]; omega
theorem gmA (jd z : Int) (hz : z = gjd (gyear jd) 1 1) (k : Int) (hk : k = gadj jd) : ((jd - z + k) * 12 + 373) / 367 = gmonth jd := by
  unfold gmonth gyday; subst hz hk; rfl
theorem gd0 (jd z : Int) (hz : z = gjd (gyear jd) 1 1) (h : jd - z < 58 + if leapP (gyear jd) then 1 else 0) : 0 = gadj jd := by
  unfold gadj gyday; subst hz
  split at h <;> (rename_i q; first | rw [if_pos q, if_pos (by omega)] | rw [if_neg q, if_pos (by omega)])
theorem gd1 (jd z : Int) (hz : z = gjd (gyear jd) 1 1) (h : ¬ jd - z < 58 + if leapP (gyear jd) then 1 else 0) (q : leapP (gyear jd)) : 1 = gadj jd := by
  unfold gadj gyday; subst hz
  rw [if_pos q] at h ⊢; rw [if_neg (by omega)]
theorem gd2 (jd z : Int) (hz : z = gjd (gyear jd) 1 1) (h : ¬ jd - z < 58 + if leapP (gyear jd) then 1 else 0) (q : ¬ leapP (gyear jd)) : 2 = gadj jd := by
  unfold gadj gyday; subst hz
  rw [if_neg q] at h ⊢; rw [if_neg (by omega)]
section
variable {w : World} {p : Program} {loose : List Str} {mean : ExcName → Option Value} {mg mb : Str → Option Value}

set_option maxHeartbeats 4000000 in
theorem c_fromg (news : List (Addr × Obj)) (jd : Int) (tj : Tok) (hj : 0 ≤ jd ∧ jd ≤ 6000000) : Cl w p loose mean mg mb 4 55 news [.int jd tj] (RetT3 (gyear jd) (gmonth jd) (gday jd)) := by
  intro dp un gd cn cs a ccd cl outer A₀ base h₀ L m s Q E B F X N T hk hd hu hret
  refine wpAny_call ?_
  k_dflt cell_enter
  (repeat' (first
      | ((with_reducible show wpAny _ _ (call (Value.ref _) _) _ _ _); first
        | (with_reducible ((with_reducible show wpAny _ _ (call (Value.ref 48) _) _ _ _); (k_here; k_dflt (refine' use (c_gjd _ _ _ _ _ _ _ ?kp ?kq ?kr) ?k1 ?k2 ?k3 ?k4 ?k5 ?kK ?kd ?ku ?_; (case kp => first | assumption | omega | ((simp (disch := omega) only [Int.fmod_eq_emod_of_nonneg, Int.fdiv_eq_ediv_of_nonneg]); omega) | ((try law_fm); omega)); (case kq => first | assumption | omega | ((simp (disch := omega) only [Int.fmod_eq_emod_of_nonneg, Int.fdiv_eq_ediv_of_nonneg]); omega) | ((try law_fm); omega)); (case kr => first | assumption | omega | ((simp (disch := omega) only [Int.fmod_eq_emod_of_nonneg, Int.fdiv_eq_ediv_of_nonneg]); omega) | ((try law_fm); omega)); (case k1 => k_asm); (case k2 => k_asm); (case k3 => k_asm); (case k4 => k_asm); (case k5 => k_asm); (case kK => first | exact rfl | assumption); (case kd => ktr_room); (case ku => ktr_units); intro t9 h9 tk9 z9 F9 N9 e9 P9; (try dsimp only); (try k_fold)))))
        | (with_reducible ((with_reducible show wpAny _ _ (call (Value.ref 41) _) _ _ _); (k_here; k_dflt (refine' use (c_legal _ _ _ _ _ _ _ ?kp) ?k1 ?k2 ?k3 ?k4 ?k5 ?kK ?kd ?ku ?_; (case kp => first | assumption | omega | ((simp (disch := omega) only [Int.fmod_eq_emod_of_nonneg, Int.fdiv_eq_ediv_of_nonneg]); omega) | ((try law_fm); omega)); (case k1 => k_asm); (case k2 => k_asm); (case k3 => k_asm); (case k4 => k_asm); (case k5 => k_asm); (case kK => first | exact rfl | assumption); (case kd => ktr_room); (case ku => ktr_units); intro h9 tk9 F9 N9; (try dsimp only); (try k_fold)))))
        | (with_reducible ((with_reducible show wpAny _ _ (call (Value.ref 21) _) _ _ _); (k_here; k_dflt (refine' use (c_isleap _ _ _) ?k1 ?k2 ?k3 ?k4 ?k5 ?kK ?kd ?ku ?_; (case k1 => k_asm); (case k2 => k_asm); (case k3 => k_asm); (case k4 => k_asm); (case k5 => k_asm); (case kK => first | exact rfl | assumption); (case kd => ktr_room); (case ku => ktr_units); intro h9 tk9 F9 N9; (try dsimp only); (try k_fold)))))
        )
      | (with_reducible ((with_reducible show wpAny _ _ (compareOp CmpOp.In (Value.int _ _) (Value.ref _)) _ _ _); (k_here; k_dflt (first
  | (refine' in_top4 ?F ?X ?l ?_; (case F => k_asm); (case X => k_asm); (case l => k_is); k_whole)
  | (refine' in_top5 ?F ?X ?l ?_; (case F => k_asm); (case X => k_asm); (case l => k_is); k_whole)
  | (refine' in_top6 ?F ?X ?l ?_; (case F => k_asm); (case X => k_asm); (case l => k_is); k_whole)))))
      | (k_unfold; (try dsimp only)) | (k_end; kc_close) | walk1 | (dsimp only; walk1) | (leave1; (try dsimp only)) | fail "no step"))
  all_goals (refine endT3 (Q := Q) (s := s) hret ?_ ?_ ?_ (by k_asm) (by k_asm) (by k_mem) (subC subR))
  all_goals clear hret
  all_goals law_clear
  all_goals (simp (disch := omega) only [Int.fmod_eq_emod_of_nonneg, Int.fdiv_eq_ediv_of_nonneg, decide_eq_true_eq] at *)
  all_goals (first | (have hY := gyA jd (.inl (by assumption))) | (have hY := gyA jd (.inr (by assumption))) | (have hY := gyB jd (by assumption) (by assumption)))
  all_goals (first | exact hY | skip)
  all_goals (simp only [hY] at *)
  all_goals (first
    | (have hM := gmA jd _ (by assumption) _ (gd0 jd _ (by assumption) (by assumption)))
    | (have hM := gmA jd _ (by assumption) _ (gd1 jd _ (by assumption) (by assumption) (by first | assumption | exact gyl jd (.inl (by assumption)) | exact gyl jd (.inr (by assumption)))))
    | (have hM := gmA jd _ (by assumption) _ (gd2 jd _ (by assumption) (by assumption) (by assumption))))
  all_goals (first | exact hM | (simp only [hM] at *; (rename _ = gjd (gyear jd) (gmonth jd) 1 => e); unfold gday; rw [e]))
end

theorem jan1 (y : Int) : gjd y 1 1 = 1721426 + 365 * (y - 1) + (y - 1) / 4 - (y - 1) / 100 + (y - 1) / 400 := by
  unfold gjd ladj0; rw [if_pos (by omega)]; omega
theorem lg_split (jd : Int) : ∃ q c1 c2 c3 r3 : Int, jd - 1721426 = 146097 * q + 36524 * c1 + 1461 * c2 + 365 * c3 + r3 ∧ (0 ≤ c1 ∧ c1 ≤ 3) ∧ (0 ≤ c2 ∧ c2 ≤ 24) ∧ (0 ≤ c3 ∧ c3 ≤ 3) ∧ (0 ≤ r3 ∧ r3 ≤ 365) ∧
    (c1 = 3 ∨ 1461 * c2 + 365 * c3 + r3 < 36524) ∧ (1461 * c2 + 365 * c3 + r3 ≤ 36524) ∧ 365 * c3 + r3 < 1461 ∧ (c3 = 3 ∨ r3 < 365) ∧ gyear jd = 400 * q + 1 + 100 * c1 + 4 * c2 + c3 ∧ gyday jd = r3 := by
  have key : ∀ q c1 c2 c3 r3 : Int, jd - 1721426 = 146097 * q + 36524 * c1 + 1461 * c2 + 365 * c3 + r3 → (0 ≤ c1 ∧ c1 ≤ 3) → (0 ≤ c2 ∧ c2 ≤ 24) → (0 ≤ c3 ∧ c3 ≤ 3) → gyear jd = 400 * q + 1 + 100 * c1 + 4 * c2 + c3 → gyday jd = r3 := by
    intro q c1 c2 c3 r3 h h1 h2 h3 hy
    unfold gyday
    rw [jan1, hy]
    have e1 : (400 * q + 1 + 100 * c1 + 4 * c2 + c3 - 1) / 4 = 100 * q + 25 * c1 + c2 := by omega
    have e2 : (400 * q + 1 + 100 * c1 + 4 * c2 + c3 - 1) / 100 = 4 * q + c1 := by omega
    have e3 : (400 * q + 1 + 100 * c1 + 4 * c2 + c3 - 1) / 400 = q := by omega
    rw [e1, e2, e3]; omega
  generalize hq : (jd - 1721426) / 146097 = q
  generalize hc : (jd - 1721426) % 146097 = c
  have h0 : jd - 1721426 = 146097 * q + c := by omega
  have h1 : 0 ≤ c ∧ c < 146097 := by omega
  have hy : gyear jd = q * 400 + c / 36524 * 100 + c % 36524 / 1461 * 4 + c % 36524 % 1461 / 365 + (if c / 36524 = 4 ∨ c % 36524 % 1461 / 365 = 4 then 0 else 1) := by
    unfold gyear gdq gdc gcyc; rw [hq, hc]
  generalize hce : c / 36524 = ce at hy
  generalize hd : c % 36524 = d at hy
  generalize hqu : d / 1461 = qu at hy
  generalize hdq : d % 1461 = e at hy
  generalize hyi : e / 365 = yi at hy
  by_cases g1 : ce = 4
  · rw [if_pos (.inl g1)] at hy
    have y1 : gyear jd = 400 * q + 1 + 100 * 3 + 4 * 24 + 3 := by omega
    have y2 : jd - 1721426 = 146097 * q + 36524 * 3 + 1461 * 24 + 365 * 3 + 365 := by omega
    exact ⟨q, 3, 24, 3, 365, y2, by omega, by omega, by omega, by omega, by omega, by omega, by omega, by omega, y1, key q 3 24 3 365 y2 (by omega) (by omega) (by omega) y1⟩
  · by_cases g2 : yi = 4
    · rw [if_pos (.inr g2)] at hy
      have y1 : gyear jd = 400 * q + 1 + 100 * ce + 4 * qu + 3 := by omega
      have y2 : jd - 1721426 = 146097 * q + 36524 * ce + 1461 * qu + 365 * 3 + 365 := by omega
      exact ⟨q, ce, qu, 3, 365, y2, by omega, by omega, by omega, by omega, by omega, by omega, by omega, by omega, y1, key q ce qu 3 365 y2 (by omega) (by omega) (by omega) y1⟩
    · rw [if_neg (by omega)] at hy
      have y1 : gyear jd = 400 * q + 1 + 100 * ce + 4 * qu + yi := by omega
      have y2 : jd - 1721426 = 146097 * q + 36524 * ce + 1461 * qu + 365 * yi + (e - 365 * yi) := by omega
      exact ⟨q, ce, qu, yi, e - 365 * yi, y2, by omega, by omega, by omega, by omega, by omega, by omega, by omega, by omega, y1, key q ce qu yi _ y2 (by omega) (by omega) (by omega) y1⟩
/-- the month and the day by the day of the year -/
theorem gyear_le (jd : Int) : gjd (gyear jd) 1 1 ≤ jd ∧ jd < gjd (gyear jd + 1) 1 1 := by
  obtain ⟨q, c1, c2, c3, r3, hn, h1, h2, h3, h4, h5, h6, h7, h8, hY, hyd⟩ := lg_split jd
  have e : jd - gjd (gyear jd) 1 1 = r3 := hyd
  refine ⟨by omega, ?_⟩
  clear e hyd
  rw [jan1, hY]
  clear hY
  have e0 : 400 * q + 1 + 100 * c1 + 4 * c2 + c3 + 1 - 1 = 4 * (100 * q + 25 * c1 + c2) + (c3 + 1) := by omega
  have e1 : 400 * q + 1 + 100 * c1 + 4 * c2 + c3 + 1 - 1 = 100 * (4 * q + c1) + (4 * c2 + c3 + 1) := by omega
  have e2 : 400 * q + 1 + 100 * c1 + 4 * c2 + c3 + 1 - 1 = 400 * q + (100 * c1 + 4 * c2 + c3 + 1) := by omega
  generalize 400 * q + 1 + 100 * c1 + 4 * c2 + c3 + 1 - 1 = Y at e0 e1 e2 ⊢
  by_cases g3 : c3 = 3
  · have z4 : Y / 4 = 100 * q + 25 * c1 + c2 + 1 := by clear e1 e2 hn h5 h6 h7 h8; omega
    by_cases g2 : c2 = 24
    · have z1 : Y / 100 = 4 * q + c1 + 1 := by clear e0 e2 hn h5 h6 h7 h8; omega
      by_cases g1 : c1 = 3
      · have z0 : Y / 400 = q + 1 := by clear e0 e1 hn h5 h6 h7 h8; omega
        rw [z4, z1, z0]; omega
      · have z0 : Y / 400 = q := by clear e0 e1 hn h5 h6 h7 h8; omega
        rw [z4, z1, z0]; omega
    · have z1 : Y / 100 = 4 * q + c1 := by clear e0 e2 hn h5 h6 h7 h8; omega
      have z0 : Y / 400 = q := by clear e0 e1 hn h5 h6 h7 h8; omega
      rw [z4, z1, z0]; omega
  · have z4 : Y / 4 = 100 * q + 25 * c1 + c2 := by clear e1 e2 hn h5 h6 h7 h8; omega
    have z1 : Y / 100 = 4 * q + c1 := by clear e0 e2 hn h5 h6 h7 h8; omega
    have z0 : Y / 400 = q := by clear e0 e1 hn h5 h6 h7 h8; omega
    rw [z4, z1, z0]; omega

theorem gyear_near (jd y part : Int) (hy : -3500 ≤ y ∧ y ≤ 8500) (hp : 0 ≤ part ∧ part < 100000000)
    (h1 : 1948321 + (36524219878 * (y - 622) + part) / 100000000 ≤ jd) (h2 : jd < 1948321 + (36524219878 * (y + 1 - 622) + part) / 100000000) : gyear jd = y ∨ gyear jd = y + 1 := by
  have h := gyear_le jd
  rw [jan1, jan1] at h
  generalize gyear jd = g at h ⊢
  obtain ⟨a, b⟩ := h
  have c1 : ¬ g ≤ y - 1 := by
    intro c
    omega
  have c2 : ¬ y + 2 ≤ g := by
    intro c
    omega
  omega


/-- a day's last equinox: the year is a letter -/
abbrev RetL (jd part : Int) (h₀ : Heap) (L : Addr) (m : Str → Option Value) (news : List (Addr × Obj)) (s : Shared) (Q : Value → Shared → Prop) : Prop :=
  ∀ (t : Tok) (h' : Heap) (tk' : Nat) (y z : Int), Fr h₀ L h' m → News h₀ L h' news → -3500 ≤ y ∧ y ≤ 8500 → (1948321 + (36524219878 * (y - 622) + part) / 100000000) ≤ jd → jd < (1948321 + (36524219878 * (y + 1 - 622) + part) / 100000000) → z = (1948321 + (36524219878 * (y - 622) + part) / 100000000) - 1 → Q (.int z t) { s with heap := h', toks := tk' }
/-- a day's Persian year and its equinox -/
abbrev RetP (jd part : Int) (h₀ : Heap) (L : Addr) (m : Str → Option Value) (news : List (Addr × Obj)) (s : Shared) (Q : Value → Shared → Prop) : Prop :=
  ∀ (D : Addr) (t1 t2 : Tok) (c : Nat) (h' : Heap) (tk' : Nat) (y x' y' : Int), Fr h₀ L h' m → News h₀ L h' ((D, tup2 x' y' t1 t2 c) :: news) → -3500 ≤ y ∧ y ≤ 8500 → (1948321 + (36524219878 * (y - 622) + part) / 100000000) ≤ jd → jd < (1948321 + (36524219878 * (y + 1 - 622) + part) / 100000000) → x' = y - 621 → y' = (1948321 + (36524219878 * (y - 622) + part) / 100000000) - 1 → Q (.ref D) { s with heap := h', toks := tk' }
theorem year_of (jd part : Int) (hp : 0 ≤ part ∧ part < 100000000) (hj : 443500 ≤ jd ∧ jd ≤ 4825000) : ∃ y : Int, (-3500 ≤ y ∧ y ≤ 8500) ∧ (1948321 + (36524219878 * (y - 622) + part) / 100000000) ≤ jd ∧ jd < (1948321 + (36524219878 * (y + 1 - 622) + part) / 100000000) := by
  refine ⟨622 + ((jd - 1948321 + 1) * 100000000 - part - 1) / 36524219878, ?_, ?_, ?_⟩ <;> omega
section
variable {w : World} {p : Program} {loose : List Str} {mean : ExcName → Option Value} {mg mb : Str → Option Value}

set_option maxHeartbeats 4000000 in
theorem c_dayof (news : List (Addr × Obj)) (y part : Int) (ty tp : Tok) (hy : -6000 ≤ y ∧ y ≤ 12000) (hp : 0 ≤ part ∧ part < 100000000) : Cl w p loose mean mg mb 1 155 news [.int y ty, .int part tp] (RetI (1948321 + (36524219878 * (y - 622) + part) / 100000000) (fun _ => True)) := by
  intro dp un gd cn cs a ccd cl outer A₀ base h₀ L m s Q E B F X N T hk hd hu hret
  refine wpAny_call ?_
  k_dflt cell_enter
  (repeat' (first
      | ((with_reducible show wpAny _ _ (call (Value.ref _) _) _ _ _); first
        | (with_reducible ((first | (with_reducible show wpAny _ _ (call (Value.ref _) [Value.int _ _]) _ _ _) | (k_dflt show wpAny _ _ (call (Value.ref _) [Value.int _ _]) _ _ _)); (k_here; k_dflt (refine' use (rowUse ?kR ?kO ?kp) ?k1 ?k2 ?k3 ?k4 ?k5 ?kK ?kd ?ku ?_; (case kR => assumption); (case k1 => k_asm); (case k2 => k_asm); (case k3 => k_asm); (case k4 => k_asm); (case kO => (repeat (first | assumption | (refine subC ?_)))); (case k5 => k_asm); (case kK => first | exact rfl | assumption); (case kd => ktr_room); (case ku => ktr_units); (case kp => first | assumption | omega | (law_clear; (try law_fm); omega) | ((simp (disch := omega) only [Int.fmod_eq_emod_of_nonneg, Int.fdiv_eq_ediv_of_nonneg]); omega)); intro t9 h9 tk9 z9 F9 N9 e9 P9; (try dsimp only); (try k_fold)))))
        | (with_reducible ((with_reducible show wpAny _ _ (call (Value.ref 55) _) _ _ _); (k_here; k_dflt (refine' use (c_fromg _ _ _ ?kp) ?k1 ?k2 ?k3 ?k4 ?k5 ?kK ?kd ?ku ?_; (case kp => first | assumption | omega | (law_clear; (try law_fm); omega) | ((simp (disch := omega) only [Int.fmod_eq_emod_of_nonneg, Int.fdiv_eq_ediv_of_nonneg]); omega)); (case k1 => k_asm); (case k2 => k_asm); (case k3 => k_asm); (case k4 => k_asm); (case k5 => k_asm); (case kK => first | exact rfl | assumption); (case kd => ktr_room); (case ku => ktr_units); intro D9 t91 t92 t93 c9 h9 tk9 x9 y9 z9 F9 N9 e91 e92 e93; (try dsimp only); (try k_fold)))))
        | (with_reducible ((with_reducible show wpAny _ _ (call (Value.ref 21) _) _ _ _); (k_here; k_dflt (refine' use (c_isleap _ _ _) ?k1 ?k2 ?k3 ?k4 ?k5 ?kK ?kd ?ku ?_; (case k1 => k_asm); (case k2 => k_asm); (case k3 => k_asm); (case k4 => k_asm); (case k5 => k_asm); (case kK => first | exact rfl | assumption); (case kd => ktr_room); (case ku => ktr_units); intro h9 tk9 F9 N9; (try dsimp only); (try k_fold)))))
        )
      | (with_reducible (k_here; first
  | (refine WhlIf.yes (by (law_clear; (try law_fm); (try simp only [decide_eq_true_eq, Bool.not_eq_true', decide_eq_false_iff_not, Bool.not_eq_eq_eq_not, Bool.not_true, Bool.not_false] at *); omega)) ?_)
  | (refine WhlIf.no (by (law_clear; (try law_fm); (try simp only [decide_eq_true_eq, Bool.not_eq_true', decide_eq_false_iff_not, Bool.not_eq_eq_eq_not, Bool.not_true, Bool.not_false] at *); omega)) ?_)))
      | (with_reducible ((with_reducible show wpAny _ _ (exec (PySem.Stmt.While _ _ _ _) _) _ _ _); (k_here; k_dflt (refine whl_start 100 ?_))))
      | (with_reducible ((with_reducible show wpAny _ _ (exec (PySem.Stmt.While _ _ _ _) _) _ _ _); (k_here; k_dflt (refine whl_start 100 ?_))))
      | (with_reducible ((with_reducible show wpAny _ _ (callWith _ (Value.ref _) _ _ _) _ _ _); (k_here; k_dflt (refine' callWith_F ?k1 ?_; (case k1 => (refine' rowFn ?kR ?kO ?kN; (case kR => assumption); (case kN => k_asm); (case kO => (repeat (first | assumption | (refine subC ?_)))))); k_whole))))
      | (with_reducible ((with_reducible show FnAt _ _); (k_here; k_dflt (refine' rowFn ?kR ?kO ?kN; (case kR => assumption); (case kN => k_asm); (case kO => (repeat (first | assumption | (refine subC ?_))))))))
      | (with_reducible ((with_reducible show wpAny _ _ (compareOp CmpOp.In (Value.int _ _) (Value.ref _)) _ _ _); (k_here; k_dflt (first
  | (refine' in_top4 ?F ?X ?l ?_; (case F => k_asm); (case X => k_asm); (case l => k_is); k_whole)
  | (refine' in_top5 ?F ?X ?l ?_; (case F => k_asm); (case X => k_asm); (case l => k_is); k_whole)
  | (refine' in_top6 ?F ?X ?l ?_; (case F => k_asm); (case X => k_asm); (case l => k_is); k_whole)))))
      | (k_unfold; (try dsimp only)) | (k_end; kc_close) | walk1 | (dsimp only; walk1) | (leave1; (try dsimp only)) | fail "no step"))
  all_goals (refine endI (Q := Q) (s := s) hret trivial ?_ (by k_asm) (by k_asm) subR)
  all_goals (clear hret; (simp (disch := omega) only [Int.fdiv_eq_ediv_of_nonneg]))

set_option maxHeartbeats 8000000 in
theorem c_lasteq0 (news O : List (Addr × Obj)) (jd y part : Int) (tj : Tok) (r : Addr) (HR : RowC w p loose mean mg mb part r O) (hO : ∀ p ∈ O, p ∈ news) (hy : -3500 ≤ y ∧ y ≤ 8500) (hp : 0 ≤ part ∧ part < 100000000)
    (h1 : 1948321 + (36524219878 * (y - 622) + part) / 100000000 ≤ jd) (h2 : jd < 1948321 + (36524219878 * (y + 1 - 622) + part) / 100000000) (hg : gyear jd = y) : Cl w p loose mean mg mb 6 71 news [.int jd tj, .ref r] (RetI (1948321 + (36524219878 * (y - 622) + part) / 100000000 - 1) (fun _ => True)) := by
  intro dp un gd cn cs a ccd cl outer A₀ base h₀ L m s Q E B F X N T hk hd hu hret
  refine wpAny_call ?_
  k_dflt cell_enter
  (repeat' (first
      | ((with_reducible show wpAny _ _ (call (Value.ref _) _) _ _ _); first
        | (with_reducible ((first | (with_reducible show wpAny _ _ (call (Value.ref _) [Value.int _ _]) _ _ _) | (k_dflt show wpAny _ _ (call (Value.ref _) [Value.int _ _]) _ _ _)); (k_here; k_dflt (refine' use (rowUse ?kR ?kO ?kp) ?k1 ?k2 ?k3 ?k4 ?k5 ?kK ?kd ?ku ?_; (case kR => assumption); (case k1 => k_asm); (case k2 => k_asm); (case k3 => k_asm); (case k4 => k_asm); (case kO => (repeat (first | assumption | (refine subC ?_)))); (case k5 => k_asm); (case kK => first | exact rfl | assumption); (case kd => ktr_room); (case ku => ktr_units); (case kp => first | assumption | omega | (law_clear; (try law_fm); omega) | ((simp (disch := omega) only [Int.fmod_eq_emod_of_nonneg, Int.fdiv_eq_ediv_of_nonneg]); omega)); intro t9 h9 tk9 z9 F9 N9 e9 P9; (try dsimp only); (try k_fold)))))
        | (with_reducible ((with_reducible show wpAny _ _ (call (Value.ref 55) _) _ _ _); (k_here; k_dflt (refine' use (c_fromg _ _ _ ?kp) ?k1 ?k2 ?k3 ?k4 ?k5 ?kK ?kd ?ku ?_; (case kp => first | assumption | omega | (law_clear; (try law_fm); omega) | ((simp (disch := omega) only [Int.fmod_eq_emod_of_nonneg, Int.fdiv_eq_ediv_of_nonneg]); omega)); (case k1 => k_asm); (case k2 => k_asm); (case k3 => k_asm); (case k4 => k_asm); (case k5 => k_asm); (case kK => first | exact rfl | assumption); (case kd => ktr_room); (case ku => ktr_units); intro D9 t91 t92 t93 c9 h9 tk9 x9 y9 z9 F9 N9 e91 e92 e93; (try dsimp only); (try k_fold)))))
        | (with_reducible ((with_reducible show wpAny _ _ (call (Value.ref 21) _) _ _ _); (k_here; k_dflt (refine' use (c_isleap _ _ _) ?k1 ?k2 ?k3 ?k4 ?k5 ?kK ?kd ?ku ?_; (case k1 => k_asm); (case k2 => k_asm); (case k3 => k_asm); (case k4 => k_asm); (case k5 => k_asm); (case kK => first | exact rfl | assumption); (case kd => ktr_room); (case ku => ktr_units); intro h9 tk9 F9 N9; (try dsimp only); (try k_fold)))))
        )
      | (with_reducible (k_here; first
  | (refine WhlIf.yes (by (law_clear; (try law_fm); (try simp only [decide_eq_true_eq, Bool.not_eq_true', decide_eq_false_iff_not, Bool.not_eq_eq_eq_not, Bool.not_true, Bool.not_false] at *); omega)) ?_)
  | (refine WhlIf.no (by (law_clear; (try law_fm); (try simp only [decide_eq_true_eq, Bool.not_eq_true', decide_eq_false_iff_not, Bool.not_eq_eq_eq_not, Bool.not_true, Bool.not_false] at *); omega)) ?_)))
      | (with_reducible ((with_reducible show wpAny _ _ (exec (PySem.Stmt.While _ _ _ _) _) _ _ _); (k_here; k_dflt (refine whl_start 100 ?_))))
      | (with_reducible ((with_reducible show wpAny _ _ (exec (PySem.Stmt.While _ _ _ _) _) _ _ _); (k_here; k_dflt (refine whl_start 100 ?_))))
      | (with_reducible ((with_reducible show wpAny _ _ (callWith _ (Value.ref _) _ _ _) _ _ _); (k_here; k_dflt (refine' callWith_F ?k1 ?_; (case k1 => (refine' rowFn ?kR ?kO ?kN; (case kR => assumption); (case kN => k_asm); (case kO => (repeat (first | assumption | (refine subC ?_)))))); k_whole))))
      | (with_reducible ((with_reducible show FnAt _ _); (k_here; k_dflt (refine' rowFn ?kR ?kO ?kN; (case kR => assumption); (case kN => k_asm); (case kO => (repeat (first | assumption | (refine subC ?_))))))))
      | (with_reducible ((with_reducible show wpAny _ _ (compareOp CmpOp.In (Value.int _ _) (Value.ref _)) _ _ _); (k_here; k_dflt (first
  | (refine' in_top4 ?F ?X ?l ?_; (case F => k_asm); (case X => k_asm); (case l => k_is); k_whole)
  | (refine' in_top5 ?F ?X ?l ?_; (case F => k_asm); (case X => k_asm); (case l => k_is); k_whole)
  | (refine' in_top6 ?F ?X ?l ?_; (case F => k_asm); (case X => k_asm); (case l => k_is); k_whole)))))
      | (k_unfold; (try dsimp only)) | (k_end; kc_close) | walk1 | (dsimp only; walk1) | (leave1; (try dsimp only)) | fail "no step"))
  all_goals (refine endI (Q := Q) (s := s) hret trivial ?_ (by k_asm) (by k_asm) (subC subR))
  all_goals (clear hret; law_clear; omega)

set_option maxHeartbeats 8000000 in
theorem c_lasteq1 (news O : List (Addr × Obj)) (jd y part : Int) (tj : Tok) (r : Addr) (HR : RowC w p loose mean mg mb part r O) (hO : ∀ p ∈ O, p ∈ news) (hy : -3500 ≤ y ∧ y ≤ 8500) (hp : 0 ≤ part ∧ part < 100000000)
    (h1 : 1948321 + (36524219878 * (y - 622) + part) / 100000000 ≤ jd) (h2 : jd < 1948321 + (36524219878 * (y + 1 - 622) + part) / 100000000) (hg : gyear jd = y + 1) : Cl w p loose mean mg mb 6 71 news [.int jd tj, .ref r] (RetI (1948321 + (36524219878 * (y - 622) + part) / 100000000 - 1) (fun _ => True)) := by
  intro dp un gd cn cs a ccd cl outer A₀ base h₀ L m s Q E B F X N T hk hd hu hret
  refine wpAny_call ?_
  k_dflt cell_enter
  (repeat' (first
      | ((with_reducible show wpAny _ _ (call (Value.ref _) _) _ _ _); first
        | (with_reducible ((first | (with_reducible show wpAny _ _ (call (Value.ref _) [Value.int _ _]) _ _ _) | (k_dflt show wpAny _ _ (call (Value.ref _) [Value.int _ _]) _ _ _)); (k_here; k_dflt (refine' use (rowUse ?kR ?kO ?kp) ?k1 ?k2 ?k3 ?k4 ?k5 ?kK ?kd ?ku ?_; (case kR => assumption); (case k1 => k_asm); (case k2 => k_asm); (case k3 => k_asm); (case k4 => k_asm); (case kO => (repeat (first | assumption | (refine subC ?_)))); (case k5 => k_asm); (case kK => first | exact rfl | assumption); (case kd => ktr_room); (case ku => ktr_units); (case kp => first | assumption | omega | (law_clear; (try law_fm); omega) | ((simp (disch := omega) only [Int.fmod_eq_emod_of_nonneg, Int.fdiv_eq_ediv_of_nonneg]); omega)); intro t9 h9 tk9 z9 F9 N9 e9 P9; (try dsimp only); (try k_fold)))))
        | (with_reducible ((with_reducible show wpAny _ _ (call (Value.ref 55) _) _ _ _); (k_here; k_dflt (refine' use (c_fromg _ _ _ ?kp) ?k1 ?k2 ?k3 ?k4 ?k5 ?kK ?kd ?ku ?_; (case kp => first | assumption | omega | (law_clear; (try law_fm); omega) | ((simp (disch := omega) only [Int.fmod_eq_emod_of_nonneg, Int.fdiv_eq_ediv_of_nonneg]); omega)); (case k1 => k_asm); (case k2 => k_asm); (case k3 => k_asm); (case k4 => k_asm); (case k5 => k_asm); (case kK => first | exact rfl | assumption); (case kd => ktr_room); (case ku => ktr_units); intro D9 t91 t92 t93 c9 h9 tk9 x9 y9 z9 F9 N9 e91 e92 e93; (try dsimp only); (try k_fold)))))
        | (with_reducible ((with_reducible show wpAny _ _ (call (Value.ref 21) _) _ _ _); (k_here; k_dflt (refine' use (c_isleap _ _ _) ?k1 ?k2 ?k3 ?k4 ?k5 ?kK ?kd ?ku ?_; (case k1 => k_asm); (case k2 => k_asm); (case k3 => k_asm); (case k4 => k_asm); (case k5 => k_asm); (case kK => first | exact rfl | assumption); (case kd => ktr_room); (case ku => ktr_units); intro h9 tk9 F9 N9; (try dsimp only); (try k_fold)))))
        )
      | (with_reducible (k_here; first
  | (refine WhlIf.yes (by (law_clear; (try law_fm); (try simp only [decide_eq_true_eq, Bool.not_eq_true', decide_eq_false_iff_not, Bool.not_eq_eq_eq_not, Bool.not_true, Bool.not_false] at *); omega)) ?_)
  | (refine WhlIf.no (by (law_clear; (try law_fm); (try simp only [decide_eq_true_eq, Bool.not_eq_true', decide_eq_false_iff_not, Bool.not_eq_eq_eq_not, Bool.not_true, Bool.not_false] at *); omega)) ?_)))
      | (with_reducible ((with_reducible show wpAny _ _ (exec (PySem.Stmt.While _ _ _ _) _) _ _ _); (k_here; k_dflt (refine whl_start 100 ?_))))
      | (with_reducible ((with_reducible show wpAny _ _ (exec (PySem.Stmt.While _ _ _ _) _) _ _ _); (k_here; k_dflt (refine whl_start 100 ?_))))
      | (with_reducible ((with_reducible show wpAny _ _ (callWith _ (Value.ref _) _ _ _) _ _ _); (k_here; k_dflt (refine' callWith_F ?k1 ?_; (case k1 => (refine' rowFn ?kR ?kO ?kN; (case kR => assumption); (case kN => k_asm); (case kO => (repeat (first | assumption | (refine subC ?_)))))); k_whole))))
      | (with_reducible ((with_reducible show FnAt _ _); (k_here; k_dflt (refine' rowFn ?kR ?kO ?kN; (case kR => assumption); (case kN => k_asm); (case kO => (repeat (first | assumption | (refine subC ?_))))))))
      | (with_reducible ((with_reducible show wpAny _ _ (compareOp CmpOp.In (Value.int _ _) (Value.ref _)) _ _ _); (k_here; k_dflt (first
  | (refine' in_top4 ?F ?X ?l ?_; (case F => k_asm); (case X => k_asm); (case l => k_is); k_whole)
  | (refine' in_top5 ?F ?X ?l ?_; (case F => k_asm); (case X => k_asm); (case l => k_is); k_whole)
  | (refine' in_top6 ?F ?X ?l ?_; (case F => k_asm); (case X => k_asm); (case l => k_is); k_whole)))))
      | (k_unfold; (try dsimp only)) | (k_end; kc_close) | walk1 | (dsimp only; walk1) | (leave1; (try dsimp only)) | fail "no step"))
  all_goals (refine endI (Q := Q) (s := s) hret trivial ?_ (by k_asm) (by k_asm) (subC subR))
  all_goals (clear hret; law_clear; omega)

theorem c_lasteq (news O : List (Addr × Obj)) (jd part : Int) (tj : Tok) (r : Addr) (HR : RowC w p loose mean mg mb part r O) (hO : ∀ p ∈ O, p ∈ news) (hp : 0 ≤ part ∧ part < 100000000) (hj : 443500 ≤ jd ∧ jd ≤ 4825000) :
    Cl w p loose mean mg mb 6 71 news [.int jd tj, .ref r] (RetL jd part) := by
  obtain ⟨y, hy, h1, h2⟩ := year_of jd part hp hj
  have hc : Cl w p loose mean mg mb 6 71 news [.int jd tj, .ref r] (RetI (1948321 + (36524219878 * (y - 622) + part) / 100000000 - 1) (fun _ => True)) := by
    rcases gyear_near jd y part hy hp h1 h2 with hg | hg
    · exact c_lasteq0 news O jd y part tj r HR hO hy hp h1 h2 hg
    · exact c_lasteq1 news O jd y part tj r HR hO hy hp h1 h2 hg
  intro dp un gd cn cs a ccd cl outer A₀ base h₀ L m s Q E B F X N T hk hd hu hret
  exact hc dp un gd cn cs a ccd cl outer A₀ base h₀ L m s Q E B F X N T hk hd hu (fun t h' tk' z F' N' e _ => hret t h' tk' y z F' N' hy h1 h2 e)
end


abbrev RetV (P : Int → Prop) (h₀ : Heap) (L : Addr) (m : Str → Option Value) (news : List (Addr × Obj)) (s : Shared) (Q : Value → Shared → Prop) : Prop :=
  ∀ (t : Tok) (h' : Heap) (tk' : Nat) (z : Int), Fr h₀ L h' m → News h₀ L h' news → P z → Q (.int z t) { s with heap := h', toks := tk' }
theorem endV {y : Int} {P : Int → Prop} {h₀ h' : Heap} {L : Addr} {m : Str → Option Value} {news news' : List (Addr × Obj)} {s : Shared} {Q : Value → Shared → Prop} {t : Tok} {tk' : Nat} (hret : RetV P h₀ L m news s Q) (hp : P y) (F : Fr h₀ L h' m) (N : News h₀ L h' news') (hn : ∀ p ∈ news, p ∈ news') : Q (.int y t) { s with heap := h', toks := tk' } :=
  hret t h' tk' y F (fun p h => N p (hn p h)) hp
theorem endP {jd part : Int} {h₀ h' : Heap} {L : Addr} {m : Str → Option Value} {news news' : List (Addr × Obj)} {s : Shared} {Q : Value → Shared → Prop} {tk' : Nat} {D : Addr} {t1 t2 : Tok} {c : Nat} {y x' y' : Int}
    (hret : RetP jd part h₀ L m news s Q) (b1 : -3500 ≤ y ∧ y ≤ 8500) (b2 : (1948321 + (36524219878 * (y - 622) + part) / 100000000) ≤ jd) (b3 : jd < (1948321 + (36524219878 * (y + 1 - 622) + part) / 100000000)) (e2 : y' = (1948321 + (36524219878 * (y - 622) + part) / 100000000) - 1) (e1 : x' = y - 621)
    (F : Fr h₀ L h' m) (N : News h₀ L h' news') (hd : (D, tup2 x' y' t1 t2 c) ∈ news') (hn : ∀ p ∈ news, p ∈ news') : Q (.ref D) { s with heap := h', toks := tk' } :=
  hret D t1 t2 c h' tk' y x' y' F (fun p hp => by
    rcases List.mem_cons.mp hp with rfl | hp
    · exact N _ hd
    · exact N p (hn p hp)) b1 b2 b3 e1 e2
section
variable {w : World} {p : Program} {loose : List Str} {mean : ExcName → Option Value} {mg mb : Str → Option Value}

set_option maxHeartbeats 4000000 in
theorem c_pyear (news O : List (Addr × Obj)) (jd part : Int) (tj : Tok) (r : Addr) (HR : RowC w p loose mean mg mb part r O) (hO : ∀ p ∈ O, p ∈ news) (hp : 0 ≤ part ∧ part < 100000000) (hj : 443500 ≤ jd ∧ jd ≤ 4825000) :
    Cl w p loose mean mg mb 7 78 news [.int jd tj, .ref r] (RetP jd part) := by
  intro dp un gd cn cs a ccd cl outer A₀ base h₀ L m s Q E B F X N T hk hd hu hret
  refine wpAny_call ?_
  k_dflt cell_enter
  (repeat' (first
      | ((with_reducible show wpAny _ _ (call (Value.ref _) _) _ _ _); first
        | (with_reducible ((with_reducible show wpAny _ _ (call (Value.ref 71) _) _ _ _); (k_here; k_dflt (refine' use (c_lasteq _ _ _ _ _ _ ?kR ?kO ?kp ?kq) ?k1 ?k2 ?k3 ?k4 ?k5 ?kK ?kd ?ku ?_; (case kR => assumption); (case k1 => k_asm); (case k2 => k_asm); (case k3 => k_asm); (case k4 => k_asm); (case k5 => k_asm); (case kO => (repeat (first | assumption | (refine subC ?_)))); (case kK => first | exact rfl | assumption); (case kd => ktr_room); (case ku => ktr_units); (case kp => assumption); (case kq => first | assumption | omega | (law_clear; (try law_fm); omega) | ((simp (disch := omega) only [Int.fmod_eq_emod_of_nonneg, Int.fdiv_eq_ediv_of_nonneg]); omega)); intro t9 h9 tk9 y9 z9 F9 N9 b91 b92 b93 e9; (try dsimp only); (try k_fold)))))
        )
      | (with_reducible (k_here; first
  | (refine WhlIf.yes (by (law_clear; (try law_fm); (try simp only [decide_eq_true_eq, Bool.not_eq_true', decide_eq_false_iff_not, Bool.not_eq_eq_eq_not, Bool.not_true, Bool.not_false] at *); omega)) ?_)
  | (refine WhlIf.no (by (law_clear; (try law_fm); (try simp only [decide_eq_true_eq, Bool.not_eq_true', decide_eq_false_iff_not, Bool.not_eq_eq_eq_not, Bool.not_true, Bool.not_false] at *); omega)) ?_)))
      | (with_reducible ((with_reducible show wpAny _ _ (exec (PySem.Stmt.While _ _ _ _) _) _ _ _); (k_here; k_dflt (refine whl_start 100 ?_))))
      | (with_reducible ((with_reducible show wpAny _ _ (exec (PySem.Stmt.While _ _ _ _) _) _ _ _); (k_here; k_dflt (refine whl_start 100 ?_))))
      | (with_reducible ((with_reducible show wpAny _ _ (compareOp CmpOp.In (Value.int _ _) (Value.ref _)) _ _ _); (k_here; k_dflt (first
  | (refine' in_top4 ?F ?X ?l ?_; (case F => k_asm); (case X => k_asm); (case l => k_is); k_whole)
  | (refine' in_top5 ?F ?X ?l ?_; (case F => k_asm); (case X => k_asm); (case l => k_is); k_whole)
  | (refine' in_top6 ?F ?X ?l ?_; (case F => k_asm); (case X => k_asm); (case l => k_is); k_whole)))))
      | (k_unfold; (try dsimp only)) | (k_end; kc_close) | walk1 | (dsimp only; walk1) | (leave1; (try dsimp only)) | fail "no step"))
  all_goals (refine endP (Q := Q) (s := s) hret (by assumption) (by assumption) (by assumption) (by assumption) ?_ (by k_asm) (by k_asm) (by k_mem) (subC subR))
  all_goals (clear hret; law_clear; (simp (disch := omega) only [Int.fdiv_eq_ediv_of_nonneg, Int.reduceMul]); omega)


set_option maxHeartbeats 8000000 in
theorem c_tojdp (news O : List (Addr × Obj)) (Y mo d part : Int) (tY tm td : Tok) (r : Addr) (HR : RowC w p loose mean mg mb part r O) (hO : ∀ p ∈ O, p ∈ news) (hp : 0 ≤ part ∧ part < 100000000) (hY : -3630 ≤ Y ∧ Y ≤ 7400) (hm : 1 ≤ mo ∧ mo ≤ 12) :
    Cl w p loose mean mg mb 8 85 news [.int Y tY, .int mo tm, .int d td, .ref r] (RetV (fun z => (mo ≤ 7 ∧ z = (1948321 + (36524219878 * (Y + 621 - 622) + part) / 100000000) - 1 + (mo - 1) * 31 + d) ∨ (7 < mo ∧ z = (1948321 + (36524219878 * (Y + 621 - 622) + part) / 100000000) - 1 + (mo - 1) * 30 + 6 + d))) := by
  intro dp un gd cn cs a ccd cl outer A₀ base h₀ L m s Q E B F X N T hk hd hu hret
  refine wpAny_call ?_
  k_dflt cell_enter
  (repeat' (first
      | ((with_reducible show wpAny _ _ (call (Value.ref _) _) _ _ _); first
        | (with_reducible ((with_reducible show wpAny _ _ (call (Value.ref 78) _) _ _ _); (k_here; k_dflt (refine' use (c_pyear _ _ _ _ _ _ ?kR ?kO ?kp ?kq) ?k1 ?k2 ?k3 ?k4 ?k5 ?kK ?kd ?ku ?_; (case kR => assumption); (case k1 => k_asm); (case k2 => k_asm); (case k3 => k_asm); (case k4 => k_asm); (case k5 => k_asm); (case kO => (repeat (first | assumption | (refine subC ?_)))); (case kK => first | exact rfl | assumption); (case kd => ktr_room); (case ku => ktr_units); (case kp => assumption); (case kq => first | assumption | omega | (law_clear; (try law_fm); omega) | ((simp (disch := omega) only [Int.fmod_eq_emod_of_nonneg, Int.fdiv_eq_ediv_of_nonneg]); omega)); intro D9 t91 t92 c9 h9 tk9 y9 x9 z9 F9 N9 b91 b92 b93 e91 e92; (try dsimp only); (try k_fold)))))
        | (with_reducible ((with_reducible show wpAny _ _ (call (Value.ref 71) _) _ _ _); (k_here; k_dflt (refine' use (c_lasteq _ _ _ _ _ _ ?kR ?kO ?kp ?kq) ?k1 ?k2 ?k3 ?k4 ?k5 ?kK ?kd ?ku ?_; (case kR => assumption); (case k1 => k_asm); (case k2 => k_asm); (case k3 => k_asm); (case k4 => k_asm); (case k5 => k_asm); (case kO => (repeat (first | assumption | (refine subC ?_)))); (case kK => first | exact rfl | assumption); (case kd => ktr_room); (case ku => ktr_units); (case kp => assumption); (case kq => first | assumption | omega | (law_clear; (try law_fm); omega) | ((simp (disch := omega) only [Int.fmod_eq_emod_of_nonneg, Int.fdiv_eq_ediv_of_nonneg]); omega)); intro t9 h9 tk9 y9 z9 F9 N9 b91 b92 b93 e9; (try dsimp only); (try k_fold)))))
        )
      | (with_reducible (k_here; first
  | (refine WhlIf.yes (by (law_clear; (try law_fm); (try simp only [decide_eq_true_eq, Bool.not_eq_true', decide_eq_false_iff_not, Bool.not_eq_eq_eq_not, Bool.not_true, Bool.not_false] at *); omega)) ?_)
  | (refine WhlIf.no (by (law_clear; (try law_fm); (try simp only [decide_eq_true_eq, Bool.not_eq_true', decide_eq_false_iff_not, Bool.not_eq_eq_eq_not, Bool.not_true, Bool.not_false] at *); omega)) ?_)))
      | (with_reducible ((with_reducible show wpAny _ _ (exec (PySem.Stmt.While _ _ _ _) _) _ _ _); (k_here; k_dflt (refine whl_start 100 ?_))))
      | (with_reducible ((with_reducible show wpAny _ _ (exec (PySem.Stmt.While _ _ _ _) _) _ _ _); (k_here; k_dflt (refine whl_start 100 ?_))))
      | (with_reducible ((with_reducible show wpAny _ _ (compareOp CmpOp.In (Value.int _ _) (Value.ref _)) _ _ _); (k_here; k_dflt (first
  | (refine' in_top4 ?F ?X ?l ?_; (case F => k_asm); (case X => k_asm); (case l => k_is); k_whole)
  | (refine' in_top5 ?F ?X ?l ?_; (case F => k_asm); (case X => k_asm); (case l => k_is); k_whole)
  | (refine' in_top6 ?F ?X ?l ?_; (case F => k_asm); (case X => k_asm); (case l => k_is); k_whole)))))
      | (k_unfold; (try dsimp only)) | (k_end; kc_close) | walk1 | (dsimp only; walk1) | (leave1; (try dsimp only)) | fail "no step"))
  all_goals (refine endV (Q := Q) (s := s) hret ?_ (by k_asm) (by k_asm) (subC (subC (subC (subC subR)))))
  all_goals (clear hret; law_clear; (simp (disch := omega) only [Int.fdiv_eq_ediv_of_nonneg, Int.reduceDiv] at *); omega)
end

theorem gjd_day (y mo d : Int) : gjd y mo d = gjd y mo 1 + d - 1 := by unfold gjd; omega
theorem gyday_bd (jd : Int) : 0 ≤ gyday jd ∧ (leapP (gyear jd) → gyday jd < 366) ∧ (¬ leapP (gyear jd) → gyday jd < 365) := by
  obtain ⟨a, b⟩ := gyear_le jd
  unfold gyday
  generalize gyear jd = g at *
  rw [jan1] at a b
  rw [jan1]
  refine ⟨by omega, fun h => ?_, fun h => ?_⟩
  · have h4 := h.1
    have e4 : (g + 1 - 1) / 4 = (g - 1) / 4 + 1 := by omega
    rcases h.2 with h100 | h400
    · have e1 : (g + 1 - 1) / 100 = (g - 1) / 100 := by omega
      have e2 : (g + 1 - 1) / 400 = (g - 1) / 400 := by omega
      omega
    · have e1 : (g + 1 - 1) / 100 = (g - 1) / 100 + 1 := by omega
      have e2 : (g + 1 - 1) / 400 = (g - 1) / 400 + 1 := by omega
      omega
  · by_cases h4 : g % 4 = 0
    · have e4 : (g + 1 - 1) / 4 = (g - 1) / 4 + 1 := by omega
      have h5 : g % 100 = 0 ∧ g % 400 ≠ 0 := by
        constructor
        · by_cases q : g % 100 = 0
          · exact q
          · exact absurd ⟨h4, .inl q⟩ h
        · intro q; exact h ⟨h4, .inr q⟩
      have e1 : (g + 1 - 1) / 100 = (g - 1) / 100 + 1 := by omega
      have e2 : (g + 1 - 1) / 400 = (g - 1) / 400 := by omega
      omega
    · have e4 : (g + 1 - 1) / 4 = (g - 1) / 4 := by omega
      have e1 : (g + 1 - 1) / 100 = (g - 1) / 100 := by omega
      have e2 : (g + 1 - 1) / 400 = (g - 1) / 400 := by omega
      omega
/-- the month and the day out of the day of the year -/
theorem gmonth_bd (jd : Int) : 1 ≤ gmonth jd ∧ gmonth jd ≤ 12 := by
  obtain ⟨a, b, c⟩ := gyday_bd jd
  unfold gmonth gadj
  by_cases h : leapP (gyear jd)
  · have b := b h
    rw [if_pos h]; split <;> omega
  · have c := c h
    rw [if_neg h]; split <;> omega
theorem gday_eq (jd : Int) : gday jd = gyday jd - ((367 * gmonth jd - 362) / 12 + ladj0 (gyear jd) (gmonth jd)) + 1 := by
  unfold gday gyday
  rw [jan1]
  unfold gjd
  omega
theorem g_legal (jd : Int) : legalP (gyear jd) (gmonth jd) (gday jd) := by
  obtain ⟨a, b, c⟩ := gyday_bd jd
  obtain ⟨m1, m2⟩ := gmonth_bd jd
  have hd := gday_eq jd
  have hm : gmonth jd = ((gyday jd + gadj jd) * 12 + 373) / 367 := rfl
  have ha : gadj jd = if leapP (gyear jd) then (if gyday jd < 59 then 0 else 1) else (if gyday jd < 58 then 0 else 2) := rfl
  generalize gday jd = dd at *
  generalize gmonth jd = mo at *
  generalize gyday jd = yd at *
  generalize gadj jd = ad at *
  unfold ladj0 at hd
  unfold legalP
  by_cases h : leapP (gyear jd)
  · have b := b h
    rw [if_pos h] at ha
    rw [if_pos h] at hd
    split at ha <;> split at hd <;> (refine ⟨by omega, ?_⟩; unfold leapP at h; omega)
  · have c := c h
    rw [if_neg h] at ha
    rw [if_neg h] at hd
    split at ha <;> split at hd <;> (refine ⟨by omega, ?_⟩; clear h; omega)
theorem gjd_back (jd : Int) : gjd (gyear jd) (gmonth jd) (gday jd) = jd := by
  rw [gjd_day]; unfold gday; omega


abbrev RetV3 (P : Int → Int → Int → Prop) (h₀ : Heap) (L : Addr) (m : Str → Option Value) (news : List (Addr × Obj)) (s : Shared) (Q : Value → Shared → Prop) : Prop :=
  ∀ (D : Addr) (t1 t2 t3 : Tok) (c : Nat) (h' : Heap) (tk' : Nat) (x' y' z' : Int), Fr h₀ L h' m → News h₀ L h' ((D, tup3 x' y' z' t1 t2 t3 c) :: news) → P x' y' z' → Q (.ref D) { s with heap := h', toks := tk' }
theorem endV3 {P : Int → Int → Int → Prop} {h₀ h' : Heap} {L : Addr} {m : Str → Option Value} {news news' : List (Addr × Obj)} {s : Shared} {Q : Value → Shared → Prop} {tk' : Nat} {x y z : Int} {D : Addr} {t1 t2 t3 : Tok} {c : Nat}
    (hret : RetV3 P h₀ L m news s Q) (hP : P x y z) (F : Fr h₀ L h' m) (N : News h₀ L h' news') (hd : (D, tup3 x y z t1 t2 t3 c) ∈ news') (hn : ∀ p ∈ news, p ∈ news') : Q (.ref D) { s with heap := h', toks := tk' } :=
  hret D t1 t2 t3 c h' tk' x y z F (fun p hp => by
    rcases List.mem_cons.mp hp with rfl | hp
    · exact N _ hd
    · exact N p (hn p hp)) hP
theorem len_bd (Y part : Int) : 365 ≤ (1948321 + (36524219878 * (Y + 622 - 622) + part) / 100000000) - (1948321 + (36524219878 * (Y + 621 - 622) + part) / 100000000) ∧ (1948321 + (36524219878 * (Y + 622 - 622) + part) / 100000000) - (1948321 + (36524219878 * (Y + 621 - 622) + part) / 100000000) ≤ 366 := by
  have e : 36524219878 * (Y + 622 - 622) + part = (36524219878 * (Y + 621 - 622) + part) + 36524219878 := by omega
  rw [e]
  generalize 36524219878 * (Y + 621 - 622) + part = a
  omega
/-- a mark: the day at hand -/
def GoJ (_ : Int) : Prop := True
abbrev PJ (part JD x mo d : Int) : Prop := (∃ n : Int, (-3500 ≤ n ∧ n ≤ 8500) ∧ (1948321 + (36524219878 * (n - 622) + part) / 100000000) ≤ JD ∧ JD < (1948321 + (36524219878 * (n + 1 - 622) + part) / 100000000) ∧ x = n - 621 ∧ ((JD - (1948321 + (36524219878 * (n - 622) + part) / 100000000) < 186 ∧ mo = (JD - (1948321 + (36524219878 * (n - 622) + part) / 100000000)) / 31 + 1 ∧ d = (JD - (1948321 + (36524219878 * (n - 622) + part) / 100000000)) % 31 + 1) ∨ (186 ≤ JD - (1948321 + (36524219878 * (n - 622) + part) / 100000000) ∧ mo = (JD - (1948321 + (36524219878 * (n - 622) + part) / 100000000) - 186) / 30 + 7 ∧ d = (JD - (1948321 + (36524219878 * (n - 622) + part) / 100000000) - 186) % 30 + 1)))
section
variable {w : World} {p : Program} {loose : List Str} {mean : ExcName → Option Value} {mg mb : Str → Option Value}

set_option maxHeartbeats 8000000 in
theorem c_fromjdp (news O : List (Addr × Obj)) (jd part : Int) (tj : Tok) (r : Addr) (HR : RowC w p loose mean mg mb part r O) (hO : ∀ p ∈ O, p ∈ news) (hp : 0 ≤ part ∧ part < 100000000) (hj : 443500 ≤ jd ∧ jd ≤ 4825000) :
    Cl w p loose mean mg mb 7 92 news [.int jd tj, .ref r] (RetV3 (fun x mo d => GoJ jd ∧ PJ part jd x mo d)) := by
  intro dp un gd cn cs a ccd cl outer A₀ base h₀ L m s Q E B F X N T hk hd hu hret
  refine wpAny_call ?_
  k_dflt cell_enter
  (repeat' (first
      | ((with_reducible show wpAny _ _ (call (Value.ref _) _) _ _ _); first
        | (with_reducible ((with_reducible show wpAny _ _ (call (Value.ref 85) _) _ _ _); (k_here; k_dflt (refine' use (c_tojdp _ _ _ _ _ _ _ _ _ _ ?kR ?kO ?kp ?kq ?kr) ?k1 ?k2 ?k3 ?k4 ?k5 ?kK ?kd ?ku ?_; (case kR => assumption); (case k1 => k_asm); (case k2 => k_asm); (case k3 => k_asm); (case k4 => k_asm); (case k5 => k_asm); (case kO => (repeat (first | assumption | (refine subC ?_)))); (case kK => first | exact rfl | assumption); (case kd => ktr_room); (case ku => ktr_units); (case kp => assumption); (case kq => first | assumption | omega | (law_clear; (try law_fm); omega) | ((simp (disch := omega) only [Int.fmod_eq_emod_of_nonneg, Int.fdiv_eq_ediv_of_nonneg]); omega)); (case kr => first | assumption | omega | (law_clear; (try law_fm); omega) | ((simp (disch := omega) only [Int.fmod_eq_emod_of_nonneg, Int.fdiv_eq_ediv_of_nonneg]); omega)); intro t9 h9 tk9 z9 F9 N9 P9; (try dsimp only); (try k_fold)))))
        | (with_reducible ((with_reducible show wpAny _ _ (call (Value.ref 71) _) _ _ _); (k_here; k_dflt (refine' use (c_lasteq _ _ _ _ _ _ ?kR ?kO ?kp ?kq) ?k1 ?k2 ?k3 ?k4 ?k5 ?kK ?kd ?ku ?_; (case kR => assumption); (case k1 => k_asm); (case k2 => k_asm); (case k3 => k_asm); (case k4 => k_asm); (case k5 => k_asm); (case kO => (repeat (first | assumption | (refine subC ?_)))); (case kK => first | exact rfl | assumption); (case kd => ktr_room); (case ku => ktr_units); (case kp => assumption); (case kq => first | assumption | omega | (law_clear; (try law_fm); omega) | ((simp (disch := omega) only [Int.fmod_eq_emod_of_nonneg, Int.fdiv_eq_ediv_of_nonneg]); omega)); intro t9 h9 tk9 y9 z9 F9 N9 b91 b92 b93 e9; (try dsimp only); (try k_fold)))))
        | (with_reducible ((with_reducible show wpAny _ _ (call (Value.ref 55) _) _ _ _); (k_here; k_dflt (refine' use (c_fromg _ _ _ ?kp) ?k1 ?k2 ?k3 ?k4 ?k5 ?kK ?kd ?ku ?_; (case kp => first | assumption | omega | (law_clear; (try law_fm); omega) | ((simp (disch := omega) only [Int.fmod_eq_emod_of_nonneg, Int.fdiv_eq_ediv_of_nonneg]); omega)); (case k1 => k_asm); (case k2 => k_asm); (case k3 => k_asm); (case k4 => k_asm); (case k5 => k_asm); (case kK => first | exact rfl | assumption); (case kd => ktr_room); (case ku => ktr_units); intro D9 t91 t92 t93 c9 h9 tk9 x9 y9 z9 F9 N9 e91 e92 e93; (try dsimp only); (try k_fold)))))
        | (with_reducible ((with_reducible show wpAny _ _ (call (Value.ref 48) _) _ _ _); (k_here; k_dflt (refine' use (c_gjd _ _ _ _ _ _ _ ?kp ?kq ?kr) ?k1 ?k2 ?k3 ?k4 ?k5 ?kK ?kd ?ku ?_; (case kp => first | assumption | omega | (law_clear; (try law_fm); omega) | ((simp (disch := omega) only [Int.fmod_eq_emod_of_nonneg, Int.fdiv_eq_ediv_of_nonneg]); omega)); (case kq => first | assumption | omega | (law_clear; (try law_fm); omega) | ((simp (disch := omega) only [Int.fmod_eq_emod_of_nonneg, Int.fdiv_eq_ediv_of_nonneg]); omega)); (case kr => first | assumption | omega | (law_clear; (try law_fm); omega) | ((simp (disch := omega) only [Int.fmod_eq_emod_of_nonneg, Int.fdiv_eq_ediv_of_nonneg]); omega)); (case k1 => k_asm); (case k2 => k_asm); (case k3 => k_asm); (case k4 => k_asm); (case k5 => k_asm); (case kK => first | exact rfl | assumption); (case kd => ktr_room); (case ku => ktr_units); intro t9 h9 tk9 z9 F9 N9 e9 P9; (try dsimp only); (try k_fold)))))
        )
      | (with_reducible ((with_reducible show wpAny _ _ (compareOp CmpOp.In (Value.int _ _) (Value.ref _)) _ _ _); (k_here; k_dflt (first
  | (refine' in_top4 ?F ?X ?l ?_; (case F => k_asm); (case X => k_asm); (case l => k_is); k_whole)
  | (refine' in_top5 ?F ?X ?l ?_; (case F => k_asm); (case X => k_asm); (case l => k_is); k_whole)
  | (refine' in_top6 ?F ?X ?l ?_; (case F => k_asm); (case X => k_asm); (case l => k_is); k_whole)))))
      | (k_unfold; (try dsimp only)) | (k_end; kc_close) | walk1 | (dsimp only; walk1) | (leave1; (try dsimp only)) | fail "no step"))
  all_goals (refine endV3 (Q := Q) (s := s) hret ⟨trivial, _, by assumption, by assumption, by assumption, ?_, ?_⟩ (by k_asm) (by k_asm) (by k_mem) (subC subR))
  all_goals (clear hret; law_clear; (simp (disch := omega) only [Int.fdiv_eq_ediv_of_nonneg, Int.reduceMul]); omega)

set_option maxHeartbeats 8000000 in
theorem c_leap (news O : List (Addr × Obj)) (Y part : Int) (tY : Tok) (r : Addr) (HR : RowC w p loose mean mg mb part r O) (hO : ∀ p ∈ O, p ∈ news) (hp : 0 ≤ part ∧ part < 100000000) (hY : -3630 ≤ Y ∧ Y ≤ 7399) :
    Cl w p loose mean mg mb 9 64 news [.int Y tY, .ref r] (RetB (decide ((1948321 + (36524219878 * (Y + 622 - 622) + part) / 100000000) - (1948321 + (36524219878 * (Y + 621 - 622) + part) / 100000000) > 365))) := by
  intro dp un gd cn cs a ccd cl outer A₀ base h₀ L m s Q E B F X N T hk hd hu hret
  refine wpAny_call ?_
  k_dflt cell_enter
  (repeat' (first
      | ((with_reducible show wpAny _ _ (call (Value.ref _) _) _ _ _); first
        | (with_reducible ((with_reducible show wpAny _ _ (call (Value.ref 85) _) _ _ _); (k_here; k_dflt (refine' use (c_tojdp _ _ _ _ _ _ _ _ _ _ ?kR ?kO ?kp ?kq ?kr) ?k1 ?k2 ?k3 ?k4 ?k5 ?kK ?kd ?ku ?_; (case kR => assumption); (case k1 => k_asm); (case k2 => k_asm); (case k3 => k_asm); (case k4 => k_asm); (case k5 => k_asm); (case kO => (repeat (first | assumption | (refine subC ?_)))); (case kK => first | exact rfl | assumption); (case kd => ktr_room); (case ku => ktr_units); (case kp => assumption); (case kq => first | assumption | omega | (law_clear; (try law_fm); omega) | ((simp (disch := omega) only [Int.fmod_eq_emod_of_nonneg, Int.fdiv_eq_ediv_of_nonneg]); omega)); (case kr => first | assumption | omega | (law_clear; (try law_fm); omega) | ((simp (disch := omega) only [Int.fmod_eq_emod_of_nonneg, Int.fdiv_eq_ediv_of_nonneg]); omega)); intro t9 h9 tk9 z9 F9 N9 P9; (try dsimp only); (try k_fold)))))
        | (with_reducible ((with_reducible show wpAny _ _ (call (Value.ref 71) _) _ _ _); (k_here; k_dflt (refine' use (c_lasteq _ _ _ _ _ _ ?kR ?kO ?kp ?kq) ?k1 ?k2 ?k3 ?k4 ?k5 ?kK ?kd ?ku ?_; (case kR => assumption); (case k1 => k_asm); (case k2 => k_asm); (case k3 => k_asm); (case k4 => k_asm); (case k5 => k_asm); (case kO => (repeat (first | assumption | (refine subC ?_)))); (case kK => first | exact rfl | assumption); (case kd => ktr_room); (case ku => ktr_units); (case kp => assumption); (case kq => first | assumption | omega | (law_clear; (try law_fm); omega) | ((simp (disch := omega) only [Int.fmod_eq_emod_of_nonneg, Int.fdiv_eq_ediv_of_nonneg]); omega)); intro t9 h9 tk9 y9 z9 F9 N9 b91 b92 b93 e9; (try dsimp only); (try k_fold)))))
        | (with_reducible ((with_reducible show wpAny _ _ (call (Value.ref 55) _) _ _ _); (k_here; k_dflt (refine' use (c_fromg _ _ _ ?kp) ?k1 ?k2 ?k3 ?k4 ?k5 ?kK ?kd ?ku ?_; (case kp => first | assumption | omega | (law_clear; (try law_fm); omega) | ((simp (disch := omega) only [Int.fmod_eq_emod_of_nonneg, Int.fdiv_eq_ediv_of_nonneg]); omega)); (case k1 => k_asm); (case k2 => k_asm); (case k3 => k_asm); (case k4 => k_asm); (case k5 => k_asm); (case kK => first | exact rfl | assumption); (case kd => ktr_room); (case ku => ktr_units); intro D9 t91 t92 t93 c9 h9 tk9 x9 y9 z9 F9 N9 e91 e92 e93; (try dsimp only); (try k_fold)))))
        | (with_reducible ((with_reducible show wpAny _ _ (call (Value.ref 48) _) _ _ _); (k_here; k_dflt (refine' use (c_gjd _ _ _ _ _ _ _ ?kp ?kq ?kr) ?k1 ?k2 ?k3 ?k4 ?k5 ?kK ?kd ?ku ?_; (case kp => first | assumption | omega | (law_clear; (try law_fm); omega) | ((simp (disch := omega) only [Int.fmod_eq_emod_of_nonneg, Int.fdiv_eq_ediv_of_nonneg]); omega)); (case kq => first | assumption | omega | (law_clear; (try law_fm); omega) | ((simp (disch := omega) only [Int.fmod_eq_emod_of_nonneg, Int.fdiv_eq_ediv_of_nonneg]); omega)); (case kr => first | assumption | omega | (law_clear; (try law_fm); omega) | ((simp (disch := omega) only [Int.fmod_eq_emod_of_nonneg, Int.fdiv_eq_ediv_of_nonneg]); omega)); (case k1 => k_asm); (case k2 => k_asm); (case k3 => k_asm); (case k4 => k_asm); (case k5 => k_asm); (case kK => first | exact rfl | assumption); (case kd => ktr_room); (case ku => ktr_units); intro t9 h9 tk9 z9 F9 N9 e9 P9; (try dsimp only); (try k_fold)))))
        )
      | (with_reducible ((with_reducible show wpAny _ _ (compareOp CmpOp.In (Value.int _ _) (Value.ref _)) _ _ _); (k_here; k_dflt (first
  | (refine' in_top4 ?F ?X ?l ?_; (case F => k_asm); (case X => k_asm); (case l => k_is); k_whole)
  | (refine' in_top5 ?F ?X ?l ?_; (case F => k_asm); (case X => k_asm); (case l => k_is); k_whole)
  | (refine' in_top6 ?F ?X ?l ?_; (case F => k_asm); (case X => k_asm); (case l => k_is); k_whole)))))
      | (k_unfold; (try dsimp only)) | (k_end; kc_close) | walk1 | (dsimp only; walk1) | (leave1; (try dsimp only)) | fail "no step"))
  all_goals (refine endB (Q := Q) (s := s) hret ?_ (by k_asm) (by k_asm) subR)
  all_goals (clear hret; law_clear; exact decide_eq_decide.mpr (by omega))


set_option maxHeartbeats 8000000 in
theorem c_fromgreg (news O : List (Addr × Obj)) (J y mo d part : Int) (ty tm td : Tok) (r : Addr) (HR : RowC w p loose mean mg mb part r O) (hO : ∀ p ∈ O, p ∈ news) (hp : 0 ≤ part ∧ part < 100000000) (hG : GoJ J) (ey : y = gyear J) (em : mo = gmonth J) (ed : d = gday J) (hj : 443500 ≤ J ∧ J ≤ 4825000) :
    Cl w p loose mean mg mb 8 99 news [.int y ty, .int mo tm, .int d td, .ref r] (RetV3 (fun x mo d => PJ part J x mo d)) := by
  have hl : legalP y mo d := by rw [ey, em, ed]; exact g_legal J
  have hm : -1000000 ≤ mo ∧ mo ≤ 1000000 := by have := gmonth_bd J; omega
  have hyb : -6000 ≤ y ∧ y ≤ 12000 := by have := gyear_le J; rw [jan1, jan1] at this; omega
  have hb : gjd y mo d = J := by rw [ey, em, ed]; exact gjd_back J
  intro dp un gd cn cs a ccd cl outer A₀ base h₀ L m s Q E B F X N T hk hd hu hret
  refine wpAny_call ?_
  k_dflt cell_enter
  (repeat' (first
      | ((with_reducible show wpAny _ _ (call (Value.ref _) _) _ _ _); first
        | (with_reducible ((with_reducible show wpAny _ _ (call (Value.ref 64) _) _ _ _); (k_here; k_dflt (refine' use (c_leap _ _ _ _ _ _ ?kR ?kO ?kp ?kq) ?k1 ?k2 ?k3 ?k4 ?k5 ?kK ?kd ?ku ?_; (case kR => assumption); (case k1 => k_asm); (case k2 => k_asm); (case k3 => k_asm); (case k4 => k_asm); (case k5 => k_asm); (case kO => (repeat (first | assumption | (refine subC ?_)))); (case kK => first | exact rfl | assumption); (case kd => ktr_room); (case ku => ktr_units); (case kp => assumption); (case kq => first | assumption | omega | (law_clear; (try law_fm); omega) | ((simp (disch := omega) only [Int.fmod_eq_emod_of_nonneg, Int.fdiv_eq_ediv_of_nonneg]); omega)); intro h9 tk9 F9 N9; (try dsimp only); (try k_fold)))))
        | (with_reducible ((with_reducible show wpAny _ _ (call (Value.ref 92) _) _ _ _); (k_here; k_dflt (refine' use (c_fromjdp _ _ _ _ _ _ ?kR ?kO ?kp ?kq) ?k1 ?k2 ?k3 ?k4 ?k5 ?kK ?kd ?ku ?_; (case kR => assumption); (case k1 => k_asm); (case k2 => k_asm); (case k3 => k_asm); (case k4 => k_asm); (case k5 => k_asm); (case kO => (repeat (first | assumption | (refine subC ?_)))); (case kK => first | exact rfl | assumption); (case kd => ktr_room); (case ku => ktr_units); (case kp => assumption); (case kq => first | assumption | omega | (law_clear; (try law_fm); omega) | ((simp (disch := omega) only [Int.fmod_eq_emod_of_nonneg, Int.fdiv_eq_ediv_of_nonneg]); omega)); intro D9 t91 t92 t93 c9 h9 tk9 x9 y9 z9 F9 N9 P9; (try dsimp only); (try k_fold)))))
        | (with_reducible ((with_reducible show wpAny _ _ (call (Value.ref 85) _) _ _ _); (k_here; k_dflt (refine' use (c_tojdp _ _ _ _ _ _ _ _ _ _ ?kR ?kO ?kp ?kq ?kr) ?k1 ?k2 ?k3 ?k4 ?k5 ?kK ?kd ?ku ?_; (case kR => assumption); (case k1 => k_asm); (case k2 => k_asm); (case k3 => k_asm); (case k4 => k_asm); (case k5 => k_asm); (case kO => (repeat (first | assumption | (refine subC ?_)))); (case kK => first | exact rfl | assumption); (case kd => ktr_room); (case ku => ktr_units); (case kp => assumption); (case kq => first | assumption | omega | (law_clear; (try law_fm); omega) | ((simp (disch := omega) only [Int.fmod_eq_emod_of_nonneg, Int.fdiv_eq_ediv_of_nonneg]); omega)); (case kr => first | assumption | omega | (law_clear; (try law_fm); omega) | ((simp (disch := omega) only [Int.fmod_eq_emod_of_nonneg, Int.fdiv_eq_ediv_of_nonneg]); omega)); intro t9 h9 tk9 z9 F9 N9 P9; (try dsimp only); (try k_fold)))))
        | (with_reducible ((with_reducible show wpAny _ _ (call (Value.ref 71) _) _ _ _); (k_here; k_dflt (refine' use (c_lasteq _ _ _ _ _ _ ?kR ?kO ?kp ?kq) ?k1 ?k2 ?k3 ?k4 ?k5 ?kK ?kd ?ku ?_; (case kR => assumption); (case k1 => k_asm); (case k2 => k_asm); (case k3 => k_asm); (case k4 => k_asm); (case k5 => k_asm); (case kO => (repeat (first | assumption | (refine subC ?_)))); (case kK => first | exact rfl | assumption); (case kd => ktr_room); (case ku => ktr_units); (case kp => assumption); (case kq => first | assumption | omega | (law_clear; (try law_fm); omega) | ((simp (disch := omega) only [Int.fmod_eq_emod_of_nonneg, Int.fdiv_eq_ediv_of_nonneg]); omega)); intro t9 h9 tk9 y9 z9 F9 N9 b91 b92 b93 e9; (try dsimp only); (try k_fold)))))
        | (with_reducible ((with_reducible show wpAny _ _ (call (Value.ref 55) _) _ _ _); (k_here; k_dflt (refine' use (c_fromg _ _ _ ?kp) ?k1 ?k2 ?k3 ?k4 ?k5 ?kK ?kd ?ku ?_; (case kp => first | assumption | omega | (law_clear; (try law_fm); omega) | ((simp (disch := omega) only [Int.fmod_eq_emod_of_nonneg, Int.fdiv_eq_ediv_of_nonneg]); omega)); (case k1 => k_asm); (case k2 => k_asm); (case k3 => k_asm); (case k4 => k_asm); (case k5 => k_asm); (case kK => first | exact rfl | assumption); (case kd => ktr_room); (case ku => ktr_units); intro D9 t91 t92 t93 c9 h9 tk9 x9 y9 z9 F9 N9 e91 e92 e93; (try dsimp only); (try k_fold)))))
        | (with_reducible ((with_reducible show wpAny _ _ (call (Value.ref 48) _) _ _ _); (k_here; k_dflt (refine' use (c_gjd _ _ _ _ _ _ _ ?kp ?kq ?kr) ?k1 ?k2 ?k3 ?k4 ?k5 ?kK ?kd ?ku ?_; (case kp => first | assumption | omega | (law_clear; (try law_fm); omega) | ((simp (disch := omega) only [Int.fmod_eq_emod_of_nonneg, Int.fdiv_eq_ediv_of_nonneg]); omega)); (case kq => first | assumption | omega | (law_clear; (try law_fm); omega) | ((simp (disch := omega) only [Int.fmod_eq_emod_of_nonneg, Int.fdiv_eq_ediv_of_nonneg]); omega)); (case kr => first | assumption | omega | (law_clear; (try law_fm); omega) | ((simp (disch := omega) only [Int.fmod_eq_emod_of_nonneg, Int.fdiv_eq_ediv_of_nonneg]); omega)); (case k1 => k_asm); (case k2 => k_asm); (case k3 => k_asm); (case k4 => k_asm); (case k5 => k_asm); (case kK => first | exact rfl | assumption); (case kd => ktr_room); (case ku => ktr_units); intro t9 h9 tk9 z9 F9 N9 e9 P9; (try dsimp only); (try k_fold)))))
        )
      | (with_reducible ((with_reducible show wpAny _ _ (compareOp CmpOp.In (Value.int _ _) (Value.ref _)) _ _ _); (k_here; k_dflt (first
  | (refine' in_top4 ?F ?X ?l ?_; (case F => k_asm); (case X => k_asm); (case l => k_is); k_whole)
  | (refine' in_top5 ?F ?X ?l ?_; (case F => k_asm); (case X => k_asm); (case l => k_is); k_whole)
  | (refine' in_top6 ?F ?X ?l ?_; (case F => k_asm); (case X => k_asm); (case l => k_is); k_whole)))))
      | (k_unfold; (try dsimp only)) | (k_end; kc_close) | walk1 | (dsimp only; walk1) | (leave1; (try dsimp only)) | fail "no step"))
  all_goals (obtain ⟨_, hP⟩ := ‹GoJ _ ∧ _›)
  all_goals (refine endV3 (Q := Q) (s := s) hret ?_ (by k_asm) (by k_asm) (by k_mem) (subC subR))
  all_goals (rename _ = gjd _ _ _ => e; rw [e, hb] at hP; exact hP)

set_option maxHeartbeats 8000000 in
theorem c_togreg (news O : List (Addr × Obj)) (J Y mo d part : Int) (tY tm td : Tok) (r : Addr) (HR : RowC w p loose mean mg mb part r O) (hO : ∀ p ∈ O, p ∈ news) (hp : 0 ≤ part ∧ part < 100000000) (hG : GoJ J) (hY : -3630 ≤ Y ∧ Y ≤ 7400) (hm : 1 ≤ mo ∧ mo ≤ 12)
    (hJ : (mo ≤ 7 ∧ J = (1948321 + (36524219878 * (Y + 621 - 622) + part) / 100000000) - 1 + (mo - 1) * 31 + d) ∨ (7 < mo ∧ J = (1948321 + (36524219878 * (Y + 621 - 622) + part) / 100000000) - 1 + (mo - 1) * 30 + 6 + d)) (hj : 443500 ≤ J ∧ J ≤ 4825000) :
    Cl w p loose mean mg mb 9 106 news [.int Y tY, .int mo tm, .int d td, .ref r] (RetV3 (fun x y z => x = gyear J ∧ y = gmonth J ∧ z = gday J)) := by
  intro dp un gd cn cs a ccd cl outer A₀ base h₀ L m s Q E B F X N T hk hd hu hret
  refine wpAny_call ?_
  k_dflt cell_enter
  (repeat' (first
      | ((with_reducible show wpAny _ _ (call (Value.ref _) _) _ _ _); first
        | (with_reducible ((with_reducible show wpAny _ _ (call (Value.ref 64) _) _ _ _); (k_here; k_dflt (refine' use (c_leap _ _ _ _ _ _ ?kR ?kO ?kp ?kq) ?k1 ?k2 ?k3 ?k4 ?k5 ?kK ?kd ?ku ?_; (case kR => assumption); (case k1 => k_asm); (case k2 => k_asm); (case k3 => k_asm); (case k4 => k_asm); (case k5 => k_asm); (case kO => (repeat (first | assumption | (refine subC ?_)))); (case kK => first | exact rfl | assumption); (case kd => ktr_room); (case ku => ktr_units); (case kp => assumption); (case kq => first | assumption | omega | (law_clear; (try law_fm); omega) | ((simp (disch := omega) only [Int.fmod_eq_emod_of_nonneg, Int.fdiv_eq_ediv_of_nonneg]); omega)); intro h9 tk9 F9 N9; (try dsimp only); (try k_fold)))))
        | (with_reducible ((with_reducible show wpAny _ _ (call (Value.ref 92) _) _ _ _); (k_here; k_dflt (refine' use (c_fromjdp _ _ _ _ _ _ ?kR ?kO ?kp ?kq) ?k1 ?k2 ?k3 ?k4 ?k5 ?kK ?kd ?ku ?_; (case kR => assumption); (case k1 => k_asm); (case k2 => k_asm); (case k3 => k_asm); (case k4 => k_asm); (case k5 => k_asm); (case kO => (repeat (first | assumption | (refine subC ?_)))); (case kK => first | exact rfl | assumption); (case kd => ktr_room); (case ku => ktr_units); (case kp => assumption); (case kq => first | assumption | omega | (law_clear; (try law_fm); omega) | ((simp (disch := omega) only [Int.fmod_eq_emod_of_nonneg, Int.fdiv_eq_ediv_of_nonneg]); omega)); intro D9 t91 t92 t93 c9 h9 tk9 x9 y9 z9 F9 N9 P9; (try dsimp only); (try k_fold)))))
        | (with_reducible ((with_reducible show wpAny _ _ (call (Value.ref 85) _) _ _ _); (k_here; k_dflt (refine' use (c_tojdp _ _ _ _ _ _ _ _ _ _ ?kR ?kO ?kp ?kq ?kr) ?k1 ?k2 ?k3 ?k4 ?k5 ?kK ?kd ?ku ?_; (case kR => assumption); (case k1 => k_asm); (case k2 => k_asm); (case k3 => k_asm); (case k4 => k_asm); (case k5 => k_asm); (case kO => (repeat (first | assumption | (refine subC ?_)))); (case kK => first | exact rfl | assumption); (case kd => ktr_room); (case ku => ktr_units); (case kp => assumption); (case kq => first | assumption | omega | (law_clear; (try law_fm); omega) | ((simp (disch := omega) only [Int.fmod_eq_emod_of_nonneg, Int.fdiv_eq_ediv_of_nonneg]); omega)); (case kr => first | assumption | omega | (law_clear; (try law_fm); omega) | ((simp (disch := omega) only [Int.fmod_eq_emod_of_nonneg, Int.fdiv_eq_ediv_of_nonneg]); omega)); intro t9 h9 tk9 z9 F9 N9 P9; (try dsimp only); (try k_fold)))))
        | (with_reducible ((with_reducible show wpAny _ _ (call (Value.ref 71) _) _ _ _); (k_here; k_dflt (refine' use (c_lasteq _ _ _ _ _ _ ?kR ?kO ?kp ?kq) ?k1 ?k2 ?k3 ?k4 ?k5 ?kK ?kd ?ku ?_; (case kR => assumption); (case k1 => k_asm); (case k2 => k_asm); (case k3 => k_asm); (case k4 => k_asm); (case k5 => k_asm); (case kO => (repeat (first | assumption | (refine subC ?_)))); (case kK => first | exact rfl | assumption); (case kd => ktr_room); (case ku => ktr_units); (case kp => assumption); (case kq => first | assumption | omega | (law_clear; (try law_fm); omega) | ((simp (disch := omega) only [Int.fmod_eq_emod_of_nonneg, Int.fdiv_eq_ediv_of_nonneg]); omega)); intro t9 h9 tk9 y9 z9 F9 N9 b91 b92 b93 e9; (try dsimp only); (try k_fold)))))
        | (with_reducible ((with_reducible show wpAny _ _ (call (Value.ref 55) _) _ _ _); (k_here; k_dflt (refine' use (c_fromg _ _ _ ?kp) ?k1 ?k2 ?k3 ?k4 ?k5 ?kK ?kd ?ku ?_; (case kp => first | assumption | omega | (law_clear; (try law_fm); omega) | ((simp (disch := omega) only [Int.fmod_eq_emod_of_nonneg, Int.fdiv_eq_ediv_of_nonneg]); omega)); (case k1 => k_asm); (case k2 => k_asm); (case k3 => k_asm); (case k4 => k_asm); (case k5 => k_asm); (case kK => first | exact rfl | assumption); (case kd => ktr_room); (case ku => ktr_units); intro D9 t91 t92 t93 c9 h9 tk9 x9 y9 z9 F9 N9 e91 e92 e93; (try dsimp only); (try k_fold)))))
        | (with_reducible ((with_reducible show wpAny _ _ (call (Value.ref 48) _) _ _ _); (k_here; k_dflt (refine' use (c_gjd _ _ _ _ _ _ _ ?kp ?kq ?kr) ?k1 ?k2 ?k3 ?k4 ?k5 ?kK ?kd ?ku ?_; (case kp => first | assumption | omega | (law_clear; (try law_fm); omega) | ((simp (disch := omega) only [Int.fmod_eq_emod_of_nonneg, Int.fdiv_eq_ediv_of_nonneg]); omega)); (case kq => first | assumption | omega | (law_clear; (try law_fm); omega) | ((simp (disch := omega) only [Int.fmod_eq_emod_of_nonneg, Int.fdiv_eq_ediv_of_nonneg]); omega)); (case kr => first | assumption | omega | (law_clear; (try law_fm); omega) | ((simp (disch := omega) only [Int.fmod_eq_emod_of_nonneg, Int.fdiv_eq_ediv_of_nonneg]); omega)); (case k1 => k_asm); (case k2 => k_asm); (case k3 => k_asm); (case k4 => k_asm); (case k5 => k_asm); (case kK => first | exact rfl | assumption); (case kd => ktr_room); (case ku => ktr_units); intro t9 h9 tk9 z9 F9 N9 e9 P9; (try dsimp only); (try k_fold)))))
        )
      | (with_reducible ((with_reducible show wpAny _ _ (compareOp CmpOp.In (Value.int _ _) (Value.ref _)) _ _ _); (k_here; k_dflt (first
  | (refine' in_top4 ?F ?X ?l ?_; (case F => k_asm); (case X => k_asm); (case l => k_is); k_whole)
  | (refine' in_top5 ?F ?X ?l ?_; (case F => k_asm); (case X => k_asm); (case l => k_is); k_whole)
  | (refine' in_top6 ?F ?X ?l ?_; (case F => k_asm); (case X => k_asm); (case l => k_is); k_whole)))))
      | (k_unfold; (try dsimp only)) | (k_end; kc_close) | walk1 | (dsimp only; walk1) | (leave1; (try dsimp only)) | fail "no step"))
  all_goals (obtain ⟨e1, e2, e3⟩ : (_ = gyear _ ∧ _ = gmonth _ ∧ _ = gday _) := ⟨by assumption, by assumption, by assumption⟩)
  all_goals (refine endV3 (Q := Q) (s := s) hret ⟨?_, ?_, ?_⟩ (by k_asm) (by k_asm) (by k_mem) (subC subR))
  all_goals (clear hret; first | rw [e1] | rw [e2] | rw [e3])
  all_goals (congr 1; law_clear; omega)

set_option maxHeartbeats 8000000 in
theorem c_mlen (news O : List (Addr × Obj)) (Y mo part : Int) (tY tm : Tok) (r : Addr) (HR : RowC w p loose mean mg mb part r O) (hO : ∀ p ∈ O, p ∈ news) (hp : 0 ≤ part ∧ part < 100000000) (hY : -3630 ≤ Y ∧ Y ≤ 7399) (hm : 1 ≤ mo ∧ mo ≤ 12) :
    Cl w p loose mean mg mb 10 113 news [.int Y tY, .int mo tm, .ref r] (RetV (fun z => (mo ≤ 6 ∧ z = 31) ∨ (6 < mo ∧ mo ≤ 11 ∧ z = 30) ∨ (mo = 12 ∧ z = (1948321 + (36524219878 * (Y + 622 - 622) + part) / 100000000) - (1948321 + (36524219878 * (Y + 621 - 622) + part) / 100000000) - 336))) := by
  have hlb := len_bd Y part
  intro dp un gd cn cs a ccd cl outer A₀ base h₀ L m s Q E B F X N T hk hd hu hret
  refine wpAny_call ?_
  k_dflt cell_enter
  (repeat' (first
      | ((with_reducible show wpAny _ _ (call (Value.ref _) _) _ _ _); first
        | (with_reducible ((with_reducible show wpAny _ _ (call (Value.ref 64) _) _ _ _); (k_here; k_dflt (refine' use (c_leap _ _ _ _ _ _ ?kR ?kO ?kp ?kq) ?k1 ?k2 ?k3 ?k4 ?k5 ?kK ?kd ?ku ?_; (case kR => assumption); (case k1 => k_asm); (case k2 => k_asm); (case k3 => k_asm); (case k4 => k_asm); (case k5 => k_asm); (case kO => (repeat (first | assumption | (refine subC ?_)))); (case kK => first | exact rfl | assumption); (case kd => ktr_room); (case ku => ktr_units); (case kp => assumption); (case kq => first | assumption | omega | (law_clear; (try law_fm); omega) | ((simp (disch := omega) only [Int.fmod_eq_emod_of_nonneg, Int.fdiv_eq_ediv_of_nonneg]); omega)); intro h9 tk9 F9 N9; (try dsimp only); (try k_fold)))))
        | (with_reducible ((with_reducible show wpAny _ _ (call (Value.ref 92) _) _ _ _); (k_here; k_dflt (refine' use (c_fromjdp _ _ _ _ _ _ ?kR ?kO ?kp ?kq) ?k1 ?k2 ?k3 ?k4 ?k5 ?kK ?kd ?ku ?_; (case kR => assumption); (case k1 => k_asm); (case k2 => k_asm); (case k3 => k_asm); (case k4 => k_asm); (case k5 => k_asm); (case kO => (repeat (first | assumption | (refine subC ?_)))); (case kK => first | exact rfl | assumption); (case kd => ktr_room); (case ku => ktr_units); (case kp => assumption); (case kq => first | assumption | omega | (law_clear; (try law_fm); omega) | ((simp (disch := omega) only [Int.fmod_eq_emod_of_nonneg, Int.fdiv_eq_ediv_of_nonneg]); omega)); intro D9 t91 t92 t93 c9 h9 tk9 x9 y9 z9 F9 N9 P9; (try dsimp only); (try k_fold)))))
        | (with_reducible ((with_reducible show wpAny _ _ (call (Value.ref 85) _) _ _ _); (k_here; k_dflt (refine' use (c_tojdp _ _ _ _ _ _ _ _ _ _ ?kR ?kO ?kp ?kq ?kr) ?k1 ?k2 ?k3 ?k4 ?k5 ?kK ?kd ?ku ?_; (case kR => assumption); (case k1 => k_asm); (case k2 => k_asm); (case k3 => k_asm); (case k4 => k_asm); (case k5 => k_asm); (case kO => (repeat (first | assumption | (refine subC ?_)))); (case kK => first | exact rfl | assumption); (case kd => ktr_room); (case ku => ktr_units); (case kp => assumption); (case kq => first | assumption | omega | (law_clear; (try law_fm); omega) | ((simp (disch := omega) only [Int.fmod_eq_emod_of_nonneg, Int.fdiv_eq_ediv_of_nonneg]); omega)); (case kr => first | assumption | omega | (law_clear; (try law_fm); omega) | ((simp (disch := omega) only [Int.fmod_eq_emod_of_nonneg, Int.fdiv_eq_ediv_of_nonneg]); omega)); intro t9 h9 tk9 z9 F9 N9 P9; (try dsimp only); (try k_fold)))))
        | (with_reducible ((with_reducible show wpAny _ _ (call (Value.ref 71) _) _ _ _); (k_here; k_dflt (refine' use (c_lasteq _ _ _ _ _ _ ?kR ?kO ?kp ?kq) ?k1 ?k2 ?k3 ?k4 ?k5 ?kK ?kd ?ku ?_; (case kR => assumption); (case k1 => k_asm); (case k2 => k_asm); (case k3 => k_asm); (case k4 => k_asm); (case k5 => k_asm); (case kO => (repeat (first | assumption | (refine subC ?_)))); (case kK => first | exact rfl | assumption); (case kd => ktr_room); (case ku => ktr_units); (case kp => assumption); (case kq => first | assumption | omega | (law_clear; (try law_fm); omega) | ((simp (disch := omega) only [Int.fmod_eq_emod_of_nonneg, Int.fdiv_eq_ediv_of_nonneg]); omega)); intro t9 h9 tk9 y9 z9 F9 N9 b91 b92 b93 e9; (try dsimp only); (try k_fold)))))
        | (with_reducible ((with_reducible show wpAny _ _ (call (Value.ref 55) _) _ _ _); (k_here; k_dflt (refine' use (c_fromg _ _ _ ?kp) ?k1 ?k2 ?k3 ?k4 ?k5 ?kK ?kd ?ku ?_; (case kp => first | assumption | omega | (law_clear; (try law_fm); omega) | ((simp (disch := omega) only [Int.fmod_eq_emod_of_nonneg, Int.fdiv_eq_ediv_of_nonneg]); omega)); (case k1 => k_asm); (case k2 => k_asm); (case k3 => k_asm); (case k4 => k_asm); (case k5 => k_asm); (case kK => first | exact rfl | assumption); (case kd => ktr_room); (case ku => ktr_units); intro D9 t91 t92 t93 c9 h9 tk9 x9 y9 z9 F9 N9 e91 e92 e93; (try dsimp only); (try k_fold)))))
        | (with_reducible ((with_reducible show wpAny _ _ (call (Value.ref 48) _) _ _ _); (k_here; k_dflt (refine' use (c_gjd _ _ _ _ _ _ _ ?kp ?kq ?kr) ?k1 ?k2 ?k3 ?k4 ?k5 ?kK ?kd ?ku ?_; (case kp => first | assumption | omega | (law_clear; (try law_fm); omega) | ((simp (disch := omega) only [Int.fmod_eq_emod_of_nonneg, Int.fdiv_eq_ediv_of_nonneg]); omega)); (case kq => first | assumption | omega | (law_clear; (try law_fm); omega) | ((simp (disch := omega) only [Int.fmod_eq_emod_of_nonneg, Int.fdiv_eq_ediv_of_nonneg]); omega)); (case kr => first | assumption | omega | (law_clear; (try law_fm); omega) | ((simp (disch := omega) only [Int.fmod_eq_emod_of_nonneg, Int.fdiv_eq_ediv_of_nonneg]); omega)); (case k1 => k_asm); (case k2 => k_asm); (case k3 => k_asm); (case k4 => k_asm); (case k5 => k_asm); (case kK => first | exact rfl | assumption); (case kd => ktr_room); (case ku => ktr_units); intro t9 h9 tk9 z9 F9 N9 e9 P9; (try dsimp only); (try k_fold)))))
        )
      | (with_reducible ((with_reducible show wpAny _ _ (compareOp CmpOp.In (Value.int _ _) (Value.ref _)) _ _ _); (k_here; k_dflt (first
  | (refine' in_top4 ?F ?X ?l ?_; (case F => k_asm); (case X => k_asm); (case l => k_is); k_whole)
  | (refine' in_top5 ?F ?X ?l ?_; (case F => k_asm); (case X => k_asm); (case l => k_is); k_whole)
  | (refine' in_top6 ?F ?X ?l ?_; (case F => k_asm); (case X => k_asm); (case l => k_is); k_whole)))))
      | (k_unfold; (try dsimp only)) | (k_end; kc_close) | walk1 | (dsimp only; walk1) | (leave1; (try dsimp only)) | fail "no step"))
  all_goals (refine endV (Q := Q) (s := s) hret ?_ (by k_asm) (by k_asm) subR)
  all_goals (clear hret; law_clear; clear hd hu hY hp; generalize (1948321 + (36524219878 * (Y + 622 - 622) + part) / 100000000) = d1 at *; generalize (1948321 + (36524219878 * (Y + 621 - 622) + part) / 100000000) = d2 at *; omega)
end

theorem lg_month (jd : Int) : (leapP (gyear jd) → gmonth jd = ((gyday jd + (if gyday jd < 60 then 0 else 1)) * 12 + 373) / 367) ∧ (¬ leapP (gyear jd) → gmonth jd = ((gyday jd + (if gyday jd < 59 then 0 else 2)) * 12 + 373) / 367) := by
  constructor
  · intro h
    unfold gmonth gadj
    rw [if_pos h]
    split <;> split <;> omega
  · intro h
    unfold gmonth gadj
    rw [if_neg h]
    split <;> split <;> omega
theorem lg_end (jd y f mo rr : Int) (hy : y = gyear jd) (hf : ((y % 4 = 0 ∧ (y % 100 ≠ 0 ∨ y % 400 = 0)) ∧ f = 29) ∨ (¬ (y % 4 = 0 ∧ (y % 100 ≠ 0 ∨ y % 400 = 0)) ∧ f = 28))
    (hc : (mo = 1 ∧ rr = gyday jd ∧ 0 ≤ rr ∧ rr < 31) ∨ (mo = 2 ∧ rr = gyday jd - 31 ∧ 0 ≤ rr ∧ rr < f) ∨ (mo = 3 ∧ rr = gyday jd - 31 - f ∧ 0 ≤ rr ∧ rr < 31) ∨ (mo = 4 ∧ rr = gyday jd - 31 - f - 31 ∧ 0 ≤ rr ∧ rr < 30) ∨ (mo = 5 ∧ rr = gyday jd - 31 - f - 31 - 30 ∧ 0 ≤ rr ∧ rr < 31) ∨ (mo = 6 ∧ rr = gyday jd - 31 - f - 31 - 30 - 31 ∧ 0 ≤ rr ∧ rr < 30) ∨ (mo = 7 ∧ rr = gyday jd - 31 - f - 31 - 30 - 31 - 30 ∧ 0 ≤ rr ∧ rr < 31) ∨ (mo = 8 ∧ rr = gyday jd - 31 - f - 31 - 30 - 31 - 30 - 31 ∧ 0 ≤ rr ∧ rr < 31) ∨ (mo = 9 ∧ rr = gyday jd - 31 - f - 31 - 30 - 31 - 30 - 31 - 31 ∧ 0 ≤ rr ∧ rr < 30) ∨ (mo = 10 ∧ rr = gyday jd - 31 - f - 31 - 30 - 31 - 30 - 31 - 31 - 30 ∧ 0 ≤ rr ∧ rr < 31) ∨ (mo = 11 ∧ rr = gyday jd - 31 - f - 31 - 30 - 31 - 30 - 31 - 31 - 30 - 31 ∧ 0 ≤ rr ∧ rr < 30) ∨ (mo = 12 ∧ rr = gyday jd - 31 - f - 31 - 30 - 31 - 30 - 31 - 31 - 30 - 31 - 30 ∧ 0 ≤ rr ∧ rr < 31)) : y = gyear jd ∧ mo = gmonth jd ∧ rr + 1 = gday jd := by
  subst hy
  obtain ⟨m1, m2⟩ := lg_month jd
  have hd := gday_eq jd
  refine ⟨rfl, ?_⟩
  rcases hf with ⟨hl, hf⟩ | ⟨hl, hf⟩
  · have m1 := m1 hl
    have hla : ladj0 (gyear jd) (gmonth jd) = if gmonth jd ≤ 2 then 0 else -1 := by unfold ladj0; rw [if_pos hl]
    rw [hla] at hd
    clear hla m2 hl
    generalize gday jd = dd at *
    generalize gmonth jd = mm at *
    generalize gyday jd = yd at *
    subst hf
    rcases hc with h | h | h | h | h | h | h | h | h | h | h | h <;> (obtain ⟨h1, h2, h3, h4⟩ := h; subst h1; split at m1 <;> split at hd <;> omega)
  · have m2 := m2 hl
    have hla : ladj0 (gyear jd) (gmonth jd) = if gmonth jd ≤ 2 then 0 else -2 := by unfold ladj0; rw [if_neg hl]
    rw [hla] at hd
    clear hla m1 hl
    generalize gday jd = dd at *
    generalize gmonth jd = mm at *
    generalize gyday jd = yd at *
    subst hf
    rcases hc with h | h | h | h | h | h | h | h | h | h | h | h <;> (obtain ⟨h1, h2, h3, h4⟩ := h; subst h1; split at m2 <;> split at hd <;> omega)
theorem gyday_bd' (jd : Int) : 0 ≤ gyday jd ∧ (((gyear jd % 4 = 0 ∧ (gyear jd % 100 ≠ 0 ∨ gyear jd % 400 = 0)) ∧ gyday jd < 366) ∨ (¬ (gyear jd % 4 = 0 ∧ (gyear jd % 100 ≠ 0 ∨ gyear jd % 400 = 0)) ∧ gyday jd < 365)) := by
  obtain ⟨a, b, c⟩ := gyday_bd jd
  refine ⟨a, ?_⟩
  by_cases h : leapP (gyear jd)
  · exact .inl ⟨h, b h⟩
  · exact .inr ⟨h, c h⟩
theorem lg_l3 {y r q c1 c2 c3 r3 : Int} (hk : ((((PySem.W.rangeKs 0 ((3 : Int) - 0).toNat).length : Nat) : Int) ≤ c3 ∧ y = 400 * q + 1 + 100 * c1 + 4 * c2 + 1 * (((PySem.W.rangeKs 0 ((3 : Int) - 0).toNat).length : Nat) : Int) ∧ r = 365 * c3 + r3 - 365 * (((PySem.W.rangeKs 0 ((3 : Int) - 0).toNat).length : Nat) : Int)) ∨ (c3 ≤ (((PySem.W.rangeKs 0 ((3 : Int) - 0).toNat).length : Nat) : Int) ∧ y = 400 * q + 1 + 100 * c1 + 4 * c2 + 1 * c3 ∧ r = 365 * c3 + r3 - 365 * c3))
    (h3 : 0 ≤ c3 ∧ c3 ≤ 3) : y = 400 * q + 1 + 100 * c1 + 4 * c2 + c3 ∧ r = r3 := by
  have e : (((PySem.W.rangeKs 0 ((3 : Int) - 0).toNat).length : Nat) : Int) = 3 := by rw [PySem.W.rangeKs_length]; rfl
  rw [e] at hk
  omega

section
variable {prog : Program} {w : World} {A : Around} {E : Value → Shared → Prop} {s : Shared} {env : Env} {h₀ : Heap} {x : Str} {body : List Stmt} {Q : Flow → Shared → Prop}
/-- the turn's end of a loop over a made list that makes nothing it keeps -/
def LREnd (h₀ : Heap) (L : Addr) (s₁ : Shared) (news : List (Addr × Obj)) (rest : (Str → Option Value) → Prop) (s₂ : Shared) : Prop :=
  ∃ h' tk m', s₂ = { s₁ with heap := h', toks := tk } ∧ Fr h₀ L h' m' ∧ News h₀ L h' news ∧ rest m'
def LRPost (h₀ : Heap) (L : Addr) (s₁ : Shared) (news : List (Addr × Obj)) (rest : (Str → Option Value) → Prop) (Q : Flow → Shared → Prop) (f : Flow) (s₂ : Shared) : Prop :=
  match f with
  | .ret v => Q (.ret v) s₂
  | .brk => Q .next s₂
  | _ => LREnd h₀ L s₁ news rest s₂
def LRun (prog : Program) (w : World) (A : Around) (E : Value → Shared → Prop) (h₀ : Heap) (env : Env) (x : Str) (body : List Stmt) (Q : Flow → Shared → Prop) (s : Shared) (I : Addr) (news : List (Addr × Obj)) : List Value → (Str → Option Value) → Prop
  | [], m => ∀ h tk, Fr h₀ env.locals h m → News h₀ env.locals h news → Q .next { s with heap := h, toks := tk }
  | v :: r, m => ∀ it h tk, Fr h₀ env.locals h (fun y => if y = x then some v else m y) → News h₀ env.locals h ((I, it) :: news) →
      wpAny (model prog w) A (execs body env) (LRPost h₀ env.locals { s with heap := h, toks := tk } ((I, it) :: news) (LRun prog w A E h₀ env x body Q s I news r) Q) E { s with heap := h, toks := tk }
theorem LRun.zero {I : Addr} {m : Str → Option Value} {news : List (Addr × Obj)} (h : ∀ h tk, Fr h₀ env.locals h m → News h₀ env.locals h news → Q .next { s with heap := h, toks := tk }) : LRun prog w A E h₀ env x body Q s I news [] m := h
theorem LRun.succ {I : Addr} {v : Value} {r : List Value} {m : Str → Option Value} {news : List (Addr × Obj)}
    (h : ∀ it h tk, Fr h₀ env.locals h (fun y => if y = x then some v else m y) → News h₀ env.locals h ((I, it) :: news) →
      wpAny (model prog w) A (execs body env) (LRPost h₀ env.locals { s with heap := h, toks := tk } ((I, it) :: news) (LRun prog w A E h₀ env x body Q s I news r) Q) E { s with heap := h, toks := tk }) : LRun prog w A E h₀ env x body Q s I news (v :: r) m := h
theorem LREnd.intro {L : Addr} {s₁ : Shared} {news news' : List (Addr × Obj)} {rest : (Str → Option Value) → Prop} {h' : Heap} {tk : Nat} {m' : Str → Option Value} (F : Fr h₀ L h' m') (N : News h₀ L h' news') (hn : ∀ p ∈ news, p ∈ news') (r : rest m') :
    LREnd h₀ L s₁ news rest { s₁ with heap := h', toks := tk } := ⟨h', tk, m', rfl, F, fun p hp => N p (hn p hp), r⟩
theorem lrun_rest {I : Addr} {lp : Addr × Obj} {news : List (Addr × Obj)} (hm : lp ∈ news) (hI : ∀ p ∈ news, p.1 < I) : ∀ (vs : List Value) (m : Str → Option Value), LRun prog w A E h₀ env x body Q s I news vs m → ListRest prog w A E h₀ env x body Q s I lp vs m news
  | [], _, h => h
  | v :: r, m, h => fun it hh tk _ F N => by
    refine wpAny_mono (h it hh tk F N) (fun f s₂ q => ?_) fun _ _ e => e
    have fin : LREnd h₀ env.locals { s with heap := hh, toks := tk } ((I, it) :: news) (LRun prog w A E h₀ env x body Q s I news r) s₂ →
        UnrEnd h₀ env.locals { s with heap := hh, toks := tk } I it (fun m' n' => lp ∈ n' ∧ ListRest prog w A E h₀ env x body Q s I lp r m' n') s₂ := by
      rintro ⟨h', tk', m', e, F', N', hr⟩
      exact ⟨h', tk', m', news, e, F', N', fun p hp => Nat.ne_of_lt (hI p hp), hm, lrun_rest hm hI r m' hr⟩
    cases f with
    | ret v => exact q
    | brk => exact q
    | next => exact fin q
    | cont => exact fin q
theorem iter_lrun {ax : Addr} {lo : Obj} {vs : List Value} {n : Nat} {m₀ : Str → Option Value} {news : List (Addr × Obj)}
    (hh : A.handled = none) (F : Fr h₀ env.locals s.heap m₀) (N : News h₀ env.locals s.heap news) (hm : (ax, lo) ∈ news) (hc : lo.cls = .type "list") (hd : lo.data = .seq vs.toArray n)
    (rest₀ : ∀ I : Addr, (∀ p ∈ news, p.1 < I) → LRun prog w A E h₀ env x body Q s I news vs m₀) :
    wpAny (model prog w) A (pyIter (.ref ax)) (fun it s₂ => LoopAtV prog w A h₀ env x body Q E it s₂) E s :=
  iter_listUnr hh F N hm hc hd fun I hI => lrun_rest hm hI vs m₀ (rest₀ I hI)
end

abbrev RetZ (P : Prop) (h₀ : Heap) (L : Addr) (m : Str → Option Value) (news : List (Addr × Obj)) (s : Shared) (Q : Value → Shared → Prop) : Prop :=
  ∀ (l : Addr) (f : Int) (t1 t2 t3 t4 t5 t6 t7 t8 t9 t10 t11 t12 : Tok) (c : Nat) (h' : Heap) (tk' : Nat), Fr h₀ L h' m → News h₀ L h' ((l, (W.listOf #[.int 31 t1, .int f t2, .int 31 t3, .int 30 t4, .int 31 t5, .int 30 t6, .int 31 t7, .int 31 t8, .int 30 t9, .int 31 t10, .int 30 t11, .int 31 t12] c : Obj)) :: news) → (∀ p ∈ news, p.1 < l) → (P ∧ f = 29) ∨ (¬ P ∧ f = 28) → Q (.ref l) { s with heap := h', toks := tk' }
theorem endZ {P : Prop} {h₀ h' : Heap} {L : Addr} {m : Str → Option Value} {news news' : List (Addr × Obj)} {s : Shared} {Q : Value → Shared → Prop} {tk' : Nat} {l : Addr} {f : Int} {t1 t2 t3 t4 t5 t6 t7 t8 t9 t10 t11 t12 : Tok} {c : Nat} (hret : RetZ P h₀ L m news s Q) (hf : (P ∧ f = 29) ∨ (¬ P ∧ f = 28)) (F : Fr h₀ L h' m) (N : News h₀ L h' news') (hd : (l, (W.listOf #[.int 31 t1, .int f t2, .int 31 t3, .int 30 t4, .int 31 t5, .int 30 t6, .int 31 t7, .int 31 t8, .int 30 t9, .int 31 t10, .int 30 t11, .int 31 t12] c : Obj)) ∈ news') (hn : ∀ p ∈ news, p ∈ news') (hl : ∀ p ∈ news, p.1 < l) : Q (.ref l) { s with heap := h', toks := tk' } :=
  hret l f t1 t2 t3 t4 t5 t6 t7 t8 t9 t10 t11 t12 c h' tk' F (fun p hp => by
    rcases List.mem_cons.mp hp with rfl | hp
    · exact N _ hd
    · exact N p (hn p hp)) hl hf
section
variable {w : World} {p : Program} {loose : List Str} {mean : ExcName → Option Value} {mg mb : Str → Option Value}

set_option maxHeartbeats 4000000 in
theorem c_sizes (news : List (Addr × Obj)) (P : Prop) [Decidable P] : Cl w p loose mean mg mb 1 148 news [.bool (decide P)] (RetZ P) := by
  intro dp un gd cn cs a ccd cl outer A₀ base h₀ L m s Q E B F X N T hk hd hu hret
  refine wpAny_call ?_
  k_dflt cell_enter
  (repeat' (first
      | (with_reducible ((with_reducible show wpAny _ _ (compareOp CmpOp.In (Value.int _ _) (Value.ref _)) _ _ _); (k_here; k_dflt (first
  | (refine' in_top4 ?F ?X ?l ?_; (case F => k_asm); (case X => k_asm); (case l => k_is); k_whole)
  | (refine' in_top5 ?F ?X ?l ?_; (case F => k_asm); (case X => k_asm); (case l => k_is); k_whole)
  | (refine' in_top6 ?F ?X ?l ?_; (case F => k_asm); (case X => k_asm); (case l => k_is); k_whole)))))
      | (k_unfold; (try dsimp only)) | (k_end; kc_close) | walk1 | (dsimp only; walk1) | (leave1; (try dsimp only)) | fail "no step"))
  all_goals (first
    | exact endZ (Q := Q) (s := s) hret (.inl ⟨by assumption, rfl⟩) (by k_asm) (by k_asm) (by k_mem) (subC subR) (by assumption)
    | exact endZ (Q := Q) (s := s) hret (.inr ⟨by assumption, rfl⟩) (by k_asm) (by k_asm) (by k_mem) (subC subR) (by assumption))

set_option maxHeartbeats 4000000 in
theorem c_long (news : List (Addr × Obj)) (y : Int) (ty : Tok) : Cl w p loose mean mg mb 1 141 news [.int y ty] (RetB (decide (y % 4 = 0 ∧ (y % 100 ≠ 0 ∨ y % 400 = 0)))) := by
  intro dp un gd cn cs a ccd cl outer A₀ base h₀ L m s Q E B F X N T hk hd hu hret
  refine wpAny_call ?_
  k_dflt cell_enter
  (repeat' (first
      | (with_reducible ((with_reducible show wpAny _ _ (compareOp CmpOp.In (Value.int _ _) (Value.ref _)) _ _ _); (k_here; k_dflt (first
  | (refine' in_top4 ?F ?X ?l ?_; (case F => k_asm); (case X => k_asm); (case l => k_is); k_whole)
  | (refine' in_top5 ?F ?X ?l ?_; (case F => k_asm); (case X => k_asm); (case l => k_is); k_whole)
  | (refine' in_top6 ?F ?X ?l ?_; (case F => k_asm); (case X => k_asm); (case l => k_is); k_whole)))))
      | (k_unfold; (try dsimp only)) | (k_end; kc_close) | walk1 | (dsimp only; walk1) | (leave1; (try dsimp only)) | fail "no step"))
  all_goals (refine endB (Q := Q) (s := s) hret ?_ (by k_asm) (by k_asm) subR)
  all_goals (law_fm; rw [Bool.eq_iff_iff]; (try simp only [bne_iff_ne, ne_eq, beq_iff_eq, decide_eq_true_eq]); omega)


end

section
variable {prog : Program} {w : World} {A : Around} {E : Value → Shared → Prop} {s : Shared} {env : Env} {h₀ : Heap} {body : List Stmt} {Q : Flow → Shared → Prop}
/-- the frame of a loop over x that turns the ints a and b -/
abbrev cmap (a b x : Str) (m₀ : Str → Option Value) (mo : Int) (t1 : Tok) (r : Int) (t2 : Tok) (sv : Option Value) : Str → Option Value :=
  fun y => if y = a then some (.int mo t1) else if y = b then some (.int r t2) else if y = x then sv else m₀ y
theorem cmap_upd {a b x : Str} {m₀ : Str → Option Value} {mo mo' r r' : Int} {t1 t2 t1' t2' : Tok} {sv v : Option Value} :
    (fun y => if y = a then some (.int mo' t1') else if y = b then some (.int r' t2') else if y = x then v else cmap a b x m₀ mo t1 r t2 sv y) = cmap a b x m₀ mo' t1' r' t2' v := by
  funext y
  by_cases h1 : y = a
  · show ite _ _ _ = ite _ _ _
    rw [if_pos h1, if_pos h1]
  · by_cases h2 : y = b
    · show ite _ _ _ = ite _ _ _
      rw [if_neg h1, if_neg h1, if_pos h2, if_pos h2]
    · by_cases h3 : y = x
      · show ite _ _ _ = ite _ _ _
        rw [if_neg h1, if_neg h1, if_neg h2, if_neg h2, if_pos h3, if_pos h3]
      · show ite _ _ (ite _ _ (ite _ _ (ite _ _ _))) = ite _ _ _
        rw [if_neg h1, if_neg h1, if_neg h2, if_neg h2, if_neg h3, if_neg h3, if_neg h1, if_neg h2, if_neg h3]
theorem cmap_start {a b x : Str} {m₀ : Str → Option Value} {mo r : Int} {t1 t2 : Tok} (h1 : m₀ a = some (.int mo t1)) (h2 : m₀ b = some (.int r t2)) : m₀ = cmap a b x m₀ mo t1 r t2 (m₀ x) := by
  funext y
  by_cases e1 : y = a
  · show _ = ite _ _ _
    rw [if_pos e1, e1, h1]
  · by_cases e2 : y = b
    · show _ = ite _ _ _
      rw [if_neg e1, if_pos e2, e2, h2]
    · by_cases e3 : y = x
      · show _ = ite _ _ _
        rw [if_neg e1, if_neg e2, if_pos e3, e3]
      · show _ = ite _ _ _
        rw [if_neg e1, if_neg e2, if_neg e3]
/-- a loop over a made list by what holds of its two ints -/
theorem linv_run {a b x : Str} {m₀ : Str → Option Value} {I : Addr} {news : List (Addr × Obj)} {P : Nat → Int → Int → Prop} {vs : List Value} (all : List Value)
    (turn : ∀ (i : Nat) (v : Value) (mo r : Int) (t1 t2 : Tok) (sv : Option Value) (it : Obj) (h : Heap) (tk : Nat) (rest : (Str → Option Value) → Prop), all[i]? = some v → P i mo r →
      (∀ (mo' r' : Int) (t1' t2' : Tok), P (i + 1) mo' r' → rest (cmap a b x m₀ mo' t1' r' t2' (some v))) →
      Fr h₀ env.locals h (fun y => if y = x then some v else cmap a b x m₀ mo t1 r t2 sv y) → News h₀ env.locals h ((I, it) :: news) →
      wpAny (model prog w) A (execs body env) (LRPost h₀ env.locals { s with heap := h, toks := tk } ((I, it) :: news) rest Q) E { s with heap := h, toks := tk })
    (done : ∀ (mo r : Int), P all.length mo r → False) :
    ∀ (i : Nat) (mo r : Int) (t1 t2 : Tok) (sv : Option Value), vs = all.drop i → i ≤ all.length → P i mo r → LRun prog w A E h₀ env x body Q s I news vs (cmap a b x m₀ mo t1 r t2 sv) := by
  induction vs with
  | nil =>
    intro i mo r t1 t2 sv e hi hP
    have hl : i = all.length := by
      have := congrArg List.length e
      rw [List.length_nil, List.length_drop] at this
      omega
    subst hl
    exact (done mo r hP).elim
  | cons v vs ih =>
    intro i mo r t1 t2 sv e hi hP
    have hv : all[i]? = some v := by
      have : (all.drop i)[0]? = some v := by rw [← e]; rfl
      rw [List.getElem?_drop] at this
      exact this
    have hlt : i < all.length := (List.getElem?_eq_some_iff.mp hv).1
    have e' : vs = all.drop (i + 1) := by
      have := congrArg List.tail e
      rw [List.tail_cons, List.tail_drop] at this
      exact this
    refine LRun.succ fun it h tk F N => turn i v mo r t1 t2 sv it h tk _ hv hP (fun mo' r' t1' t2' hP' => ih (i + 1) mo' r' t1' t2' (some v) e' (by omega) hP') F N
theorem iter_linv {a b x : Str} {ax : Addr} {lo : Obj} {all : List Value} {n : Nat} {m₀ : Str → Option Value} {news : List (Addr × Obj)} {mo r : Int} {t1 t2 : Tok} (P : Nat → Int → Int → Prop)
    (hh : A.handled = none) (F : Fr h₀ env.locals s.heap m₀) (N : News h₀ env.locals s.heap news) (hm : (ax, lo) ∈ news) (hc : lo.cls = .type "list") (hd : lo.data = .seq all.toArray n)
    (h1 : m₀ a = some (.int mo t1)) (h2 : m₀ b = some (.int r t2)) (hP : P 0 mo r) (done : ∀ (mo r : Int), P all.length mo r → False)
    (turn : ∀ (I : Addr) (i : Nat) (v : Value) (mo r : Int) (t1 t2 : Tok) (sv : Option Value) (it : Obj) (h : Heap) (tk : Nat) (rest : (Str → Option Value) → Prop), (∀ p ∈ news, p.1 < I) → all[i]? = some v → P i mo r →
      (∀ (mo' r' : Int) (t1' t2' : Tok), P (i + 1) mo' r' → rest (cmap a b x m₀ mo' t1' r' t2' (some v))) →
      Fr h₀ env.locals h (fun y => if y = x then some v else cmap a b x m₀ mo t1 r t2 sv y) → News h₀ env.locals h ((I, it) :: news) →
      wpAny (model prog w) A (execs body env) (LRPost h₀ env.locals { s with heap := h, toks := tk } ((I, it) :: news) rest Q) E { s with heap := h, toks := tk }) :
    wpAny (model prog w) A (pyIter (.ref ax)) (fun it s₂ => LoopAtV prog w A h₀ env x body Q E it s₂) E s :=
  iter_lrun hh F N hm hc hd fun I hI => by
    have e := cmap_start (x := x) h1 h2
    rw [e]
    exact linv_run all (fun i v mo r t1 t2 sv it h tk rest => turn I i v mo r t1 t2 sv it h tk rest hI) done 0 mo r t1 t2 _ (by rw [List.drop_zero]) (Nat.zero_le _) hP
end
/-- the days ahead of the month with the number i -/
def mpre (f : Int) : Nat → Int
  | 0 => 0
  | 1 => 31
  | 2 => 31 + f
  | 3 => 31 + f + 31
  | 4 => 31 + f + 31 + 30
  | 5 => 31 + f + 31 + 30 + 31
  | 6 => 31 + f + 31 + 30 + 31 + 30
  | 7 => 31 + f + 31 + 30 + 31 + 30 + 31
  | 8 => 31 + f + 31 + 30 + 31 + 30 + 31 + 31
  | 9 => 31 + f + 31 + 30 + 31 + 30 + 31 + 31 + 30
  | 10 => 31 + f + 31 + 30 + 31 + 30 + 31 + 31 + 30 + 31
  | 11 => 31 + f + 31 + 30 + 31 + 30 + 31 + 31 + 30 + 31 + 30
  | _ => 31 + f + 31 + 30 + 31 + 30 + 31 + 31 + 30 + 31 + 30 + 31
theorem mitem {f : Int} {t1 t2 t3 t4 t5 t6 t7 t8 t9 t10 t11 t12 : Tok} {i : Nat} {v : Value} (h : ([.int 31 t1, .int f t2, .int 31 t3, .int 30 t4, .int 31 t5, .int 30 t6, .int 31 t7, .int 31 t8, .int 30 t9, .int 31 t10, .int 30 t11, .int 31 t12] : List Value)[i]? = some v) : ∃ (k : Int) (t : Tok), v = .int k t ∧ mpre f (i + 1) = mpre f i + k ∧ i < 12 := by
  match i, h with
  | 0, h => cases h; exact ⟨31, t1, rfl, (Int.zero_add _).symm, by omega⟩
  | 1, h => cases h; exact ⟨f, t2, rfl, rfl, by omega⟩
  | 2, h => cases h; exact ⟨31, t3, rfl, rfl, by omega⟩
  | 3, h => cases h; exact ⟨30, t4, rfl, rfl, by omega⟩
  | 4, h => cases h; exact ⟨31, t5, rfl, rfl, by omega⟩
  | 5, h => cases h; exact ⟨30, t6, rfl, rfl, by omega⟩
  | 6, h => cases h; exact ⟨31, t7, rfl, rfl, by omega⟩
  | 7, h => cases h; exact ⟨31, t8, rfl, rfl, by omega⟩
  | 8, h => cases h; exact ⟨30, t9, rfl, rfl, by omega⟩
  | 9, h => cases h; exact ⟨31, t10, rfl, rfl, by omega⟩
  | 10, h => cases h; exact ⟨30, t11, rfl, rfl, by omega⟩
  | 11, h => cases h; exact ⟨31, t12, rfl, rfl, by omega⟩
  | i + 12, h => cases h
theorem mfin {jd y f k : Int} {i : Nat} {mo r : Int} (hy : y = gyear jd) (hf : ((y % 4 = 0 ∧ (y % 100 ≠ 0 ∨ y % 400 = 0)) ∧ f = 29) ∨ (¬ (y % 4 = 0 ∧ (y % 100 ≠ 0 ∨ y % 400 = 0)) ∧ f = 28))
    (hi : i < 12) (hk : mpre f (i + 1) = mpre f i + k) (hP : mo = 1 + (i : Int) ∧ r = gyday jd - mpre f i ∧ 0 ≤ r) (hr : r < k) : mo = gmonth jd ∧ r + 1 = gday jd := by
  refine (lg_end jd y f mo r hy hf ?_).2
  obtain ⟨h1, h2, h3⟩ := hP
  clear hy hf
  match i, hi with
  | 0, _ => have hk : 31 = 0 + k := hk; have h2 : r = gyday jd - (0) := h2; exact .inl ⟨by omega, by omega, h3, by omega⟩
  | 1, _ => have hk : 31 + f = 31 + k := hk; have h2 : r = gyday jd - (31) := h2; exact .inr (.inl ⟨by omega, by omega, h3, by omega⟩)
  | 2, _ => have hk : 31 + f + 31 = 31 + f + k := hk; have h2 : r = gyday jd - (31 + f) := h2; exact .inr (.inr (.inl ⟨by omega, by omega, h3, by omega⟩))
  | 3, _ => have hk : 31 + f + 31 + 30 = 31 + f + 31 + k := hk; have h2 : r = gyday jd - (31 + f + 31) := h2; exact .inr (.inr (.inr (.inl ⟨by omega, by omega, h3, by omega⟩)))
  | 4, _ => have hk : 31 + f + 31 + 30 + 31 = 31 + f + 31 + 30 + k := hk; have h2 : r = gyday jd - (31 + f + 31 + 30) := h2; exact .inr (.inr (.inr (.inr (.inl ⟨by omega, by omega, h3, by omega⟩))))
  | 5, _ => have hk : 31 + f + 31 + 30 + 31 + 30 = 31 + f + 31 + 30 + 31 + k := hk; have h2 : r = gyday jd - (31 + f + 31 + 30 + 31) := h2; exact .inr (.inr (.inr (.inr (.inr (.inl ⟨by omega, by omega, h3, by omega⟩)))))
  | 6, _ => have hk : 31 + f + 31 + 30 + 31 + 30 + 31 = 31 + f + 31 + 30 + 31 + 30 + k := hk; have h2 : r = gyday jd - (31 + f + 31 + 30 + 31 + 30) := h2; exact .inr (.inr (.inr (.inr (.inr (.inr (.inl ⟨by omega, by omega, h3, by omega⟩))))))
  | 7, _ => have hk : 31 + f + 31 + 30 + 31 + 30 + 31 + 31 = 31 + f + 31 + 30 + 31 + 30 + 31 + k := hk; have h2 : r = gyday jd - (31 + f + 31 + 30 + 31 + 30 + 31) := h2; exact .inr (.inr (.inr (.inr (.inr (.inr (.inr (.inl ⟨by omega, by omega, h3, by omega⟩)))))))
  | 8, _ => have hk : 31 + f + 31 + 30 + 31 + 30 + 31 + 31 + 30 = 31 + f + 31 + 30 + 31 + 30 + 31 + 31 + k := hk; have h2 : r = gyday jd - (31 + f + 31 + 30 + 31 + 30 + 31 + 31) := h2; exact .inr (.inr (.inr (.inr (.inr (.inr (.inr (.inr (.inl ⟨by omega, by omega, h3, by omega⟩))))))))
  | 9, _ => have hk : 31 + f + 31 + 30 + 31 + 30 + 31 + 31 + 30 + 31 = 31 + f + 31 + 30 + 31 + 30 + 31 + 31 + 30 + k := hk; have h2 : r = gyday jd - (31 + f + 31 + 30 + 31 + 30 + 31 + 31 + 30) := h2; exact .inr (.inr (.inr (.inr (.inr (.inr (.inr (.inr (.inr (.inl ⟨by omega, by omega, h3, by omega⟩)))))))))
  | 10, _ => have hk : 31 + f + 31 + 30 + 31 + 30 + 31 + 31 + 30 + 31 + 30 = 31 + f + 31 + 30 + 31 + 30 + 31 + 31 + 30 + 31 + k := hk; have h2 : r = gyday jd - (31 + f + 31 + 30 + 31 + 30 + 31 + 31 + 30 + 31) := h2; exact .inr (.inr (.inr (.inr (.inr (.inr (.inr (.inr (.inr (.inr (.inl ⟨by omega, by omega, h3, by omega⟩))))))))))
  | 11, _ => have hk : 31 + f + 31 + 30 + 31 + 30 + 31 + 31 + 30 + 31 + 30 + 31 = 31 + f + 31 + 30 + 31 + 30 + 31 + 31 + 30 + 31 + 30 + k := hk; have h2 : r = gyday jd - (31 + f + 31 + 30 + 31 + 30 + 31 + 31 + 30 + 31 + 30) := h2; exact .inr (.inr (.inr (.inr (.inr (.inr (.inr (.inr (.inr (.inr (.inr (⟨by omega, by omega, h3, by omega⟩)))))))))))
theorem mdone {jd y f : Int} {mo r : Int} (hy : y = gyear jd) (hf : ((y % 4 = 0 ∧ (y % 100 ≠ 0 ∨ y % 400 = 0)) ∧ f = 29) ∨ (¬ (y % 4 = 0 ∧ (y % 100 ≠ 0 ∨ y % 400 = 0)) ∧ f = 28))
    (hP : mo = 1 + ((12 : Nat) : Int) ∧ r = gyday jd - mpre f 12 ∧ 0 ≤ r) : False := by
  have e1 : mpre f 12 = 31 + f + 31 + 30 + 31 + 30 + 31 + 31 + 30 + 31 + 30 + 31 := rfl
  obtain ⟨_, b⟩ := gyday_bd' jd
  obtain ⟨_, h2, h3⟩ := hP
  subst hy
  rcases b with ⟨l, b⟩ | ⟨l, b⟩
  · rcases hf with ⟨_, hf⟩ | ⟨l', _⟩
    · clear l; omega
    · exact l' l
  · rcases hf with ⟨l', _⟩ | ⟨_, hf⟩
    · exact l l'
    · clear l; omega
section
variable {prog : Program} {w : World} {A : Around} {E : Value → Shared → Prop} {s : Shared} {env : Env} {h₀ : Heap} {body : List Stmt} {Q : Flow → Shared → Prop}
theorem iter_months {a b x : Str} {ax : Addr} {c : Nat} {t1 t2 t3 t4 t5 t6 t7 t8 t9 t10 t11 t12 : Tok} {m₀ : Str → Option Value} {news : List (Addr × Obj)} {jd y f r0 : Int} {u1 u2 : Tok}
    (hh : A.handled = none) (F : Fr h₀ env.locals s.heap m₀) (N : News h₀ env.locals s.heap news) (hm : (ax, (W.listOf #[.int 31 t1, .int f t2, .int 31 t3, .int 30 t4, .int 31 t5, .int 30 t6, .int 31 t7, .int 31 t8, .int 30 t9, .int 31 t10, .int 30 t11, .int 31 t12] c : Obj)) ∈ news) (hf : ((y % 4 = 0 ∧ (y % 100 ≠ 0 ∨ y % 400 = 0)) ∧ f = 29) ∨ (¬ (y % 4 = 0 ∧ (y % 100 ≠ 0 ∨ y % 400 = 0)) ∧ f = 28))
    (hy : y = gyear jd) (hr : r0 = gyday jd) (h1 : m₀ a = some (.int 1 u1)) (h2 : m₀ b = some (.int r0 u2))
    (turn : ∀ (I : Addr) (k mo r : Int) (t t1 t2 : Tok) (sv : Option Value) (it : Obj) (h : Heap) (tk : Nat) (rest : (Str → Option Value) → Prop), (∀ p ∈ news, p.1 < I) → (r < k → mo = gmonth jd ∧ r + 1 = gday jd) →
      (∀ (t1' t2' : Tok), ¬ r < k → rest (cmap a b x m₀ (mo + 1) t1' (r - k) t2' (some (.int k t)))) →
      Fr h₀ env.locals h (fun y => if y = x then some (.int k t) else cmap a b x m₀ mo t1 r t2 sv y) → News h₀ env.locals h ((I, it) :: news) →
      wpAny (model prog w) A (execs body env) (LRPost h₀ env.locals { s with heap := h, toks := tk } ((I, it) :: news) rest Q) E { s with heap := h, toks := tk }) :
    wpAny (model prog w) A (pyIter (.ref ax)) (fun it s₂ => LoopAtV prog w A h₀ env x body Q E it s₂) E s := by
  have h0 := (gyday_bd' jd).1
  refine iter_linv (all := [.int 31 t1, .int f t2, .int 31 t3, .int 30 t4, .int 31 t5, .int 30 t6, .int 31 t7, .int 31 t8, .int 30 t9, .int 31 t10, .int 30 t11, .int 31 t12]) (fun i mo r => mo = 1 + (i : Int) ∧ r = gyday jd - mpre f i ∧ 0 ≤ r) hh F N hm rfl rfl h1 h2 ⟨rfl, by rw [hr]; exact (Int.sub_zero _).symm, by rw [hr]; exact h0⟩ (fun mo r hP => mdone hy hf hP) ?_
  intro I i v mo r t1 t2 sv it h tk rest hI hv hP hrest F' N'
  obtain ⟨k, t, rfl, hk, hi⟩ := mitem (f := f) hv
  refine turn I k mo r t t1 t2 sv it h tk rest hI (mfin hy hf hi hk hP) (fun t1' t2' hlt => hrest _ _ _ _ ⟨?_, ?_, ?_⟩) F' N'
  · rw [hP.1]; omega
  · rw [hk, hP.2.1]; omega
  · omega
end
theorem cmap_skip {a b x : Str} {m₀ : Str → Option Value} {mo r : Int} {t1 t2 : Tok} {sv v : Option Value} (hx : x ≠ a ∧ x ≠ b) :
    (fun y => if y = x then v else cmap a b x m₀ mo t1 r t2 sv y) = cmap a b x m₀ mo t1 r t2 v := by
  funext y
  by_cases h3 : y = x
  · show ite _ _ _ = ite _ _ (ite _ _ (ite _ _ _))
    rw [if_pos h3, if_neg (by rw [h3]; exact hx.1), if_neg (by rw [h3]; exact hx.2), if_pos h3]
  · show ite _ _ (ite _ _ (ite _ _ (ite _ _ _))) = ite _ _ (ite _ _ (ite _ _ _))
    rw [if_neg h3, if_neg h3, if_neg h3]
section
variable {prog : Program} {w : World} {A : Around} {E : Value → Shared → Prop} {s : Shared} {env : Env} {h₀ : Heap} {body : List Stmt} {Q : Flow → Shared → Prop}
/-- a loop over a range by what holds of its two ints -/
theorem rinv_run {a b x : Str} {m₀ : Str → Option Value} {I : Addr} {a₀ : Int} {n : Nat} {news : List (Addr × Obj)} {P : Nat → Int → Int → Prop} (hI : ∀ p ∈ news, p.1 < I)
    (turn : ∀ (i : Nat) (kv : Int) (t : Tok) (mo r : Int) (t1 t2 : Tok) (sv : Option Value) (it : Obj) (h : Heap) (tk : Nat) (rest : (Str → Option Value) → Prop), i < n → P i mo r →
      (∀ (mo' r' : Int) (t1' t2' : Tok), P (i + 1) mo' r' → rest (cmap a b x m₀ mo' t1' r' t2' (some (.int kv t)))) →
      Fr h₀ env.locals h (fun y => if y = x then some (.int kv t) else cmap a b x m₀ mo t1 r t2 sv y) → News h₀ env.locals h ((I, it) :: news) →
      wpAny (model prog w) A (execs body env) (LRPost h₀ env.locals { s with heap := h, toks := tk } ((I, it) :: news) rest Q) E { s with heap := h, toks := tk })
    (done : ∀ (mo r : Int) (t1 t2 : Tok) (sv : Option Value) (h : Heap) (tk : Nat), P n mo r → Fr h₀ env.locals h (cmap a b x m₀ mo t1 r t2 sv) → News h₀ env.locals h news → Q .next { s with heap := h, toks := tk }) :
    ∀ (k i : Nat) (mo r : Int) (t1 t2 : Tok) (sv : Option Value), k + i = n → P i mo r → RangeRest prog w A E h₀ env x body Q s I a₀ n k i (cmap a b x m₀ mo t1 r t2 sv) news := by
  intro k
  induction k with
  | zero =>
    intro i mo r t1 t2 sv hk hP
    have e : i = n := by omega
    subst e
    exact RangeRest.zero fun h tk F N => done mo r t1 t2 sv h tk hP F N
  | succ k ih =>
    intro i mo r t1 t2 sv hk hP
    refine RangeRest.succ fun t h tk F N => ?_
    refine wpAny_mono (turn i _ t mo r t1 t2 sv _ h tk (fun m' => RangeRest prog w A E h₀ env x body Q s I a₀ n k (i + 1) m' news) (by omega) hP (fun mo' r' t1' t2' hP' => ih (i + 1) mo' r' t1' t2' _ (by omega) hP') F N) (fun f s₂ q => ?_) fun _ _ e => e
    have fin : ∀ {it : Obj}, LREnd h₀ env.locals { s with heap := h, toks := tk } ((I, it) :: news) (fun m' => RangeRest prog w A E h₀ env x body Q s I a₀ n k (i + 1) m' news) s₂ →
        UnrEnd h₀ env.locals { s with heap := h, toks := tk } I it (RangeRest prog w A E h₀ env x body Q s I a₀ n k (i + 1)) s₂ := by
      rintro it ⟨h', tk', m', e, F', N', hr⟩
      exact ⟨h', tk', m', news, e, F', N', fun p hp => Nat.ne_of_lt (hI p hp), hr⟩
    cases f with
    | ret v => exact q
    | brk => exact q
    | next => exact fin q
    | cont => exact fin q
theorem iter_rinv {a b x : Str} {rg : Addr} {a₀ b₀ : Int} {t₀ u₀ v₀ : Tok} {n : Nat} {m₀ : Str → Option Value} {news : List (Addr × Obj)} {mo r : Int} {t1 t2 : Tok} (P : Nat → Int → Int → Prop)
    (hh : A.handled = none) (hr : IsRange s.heap rg a₀ b₀ 1 t₀ u₀ v₀) (hsmall : Builtin.Range.small a₀ b₀ 1 = true) (hn : Builtin.Range.rangeSize a₀ b₀ 1 = (n : Int)) (F : Fr h₀ env.locals s.heap m₀) (N : News h₀ env.locals s.heap news)
    (h1 : m₀ a = some (.int mo t1)) (h2 : m₀ b = some (.int r t2)) (hP : P 0 mo r)
    (turn : ∀ (I : Addr) (i : Nat) (kv : Int) (t : Tok) (mo r : Int) (t1 t2 : Tok) (sv : Option Value) (it : Obj) (h : Heap) (tk : Nat) (rest : (Str → Option Value) → Prop), (∀ p ∈ news, p.1 < I) → i < n → P i mo r →
      (∀ (mo' r' : Int) (t1' t2' : Tok), P (i + 1) mo' r' → rest (cmap a b x m₀ mo' t1' r' t2' (some (.int kv t)))) →
      Fr h₀ env.locals h (fun y => if y = x then some (.int kv t) else cmap a b x m₀ mo t1 r t2 sv y) → News h₀ env.locals h ((I, it) :: news) →
      wpAny (model prog w) A (execs body env) (LRPost h₀ env.locals { s with heap := h, toks := tk } ((I, it) :: news) rest Q) E { s with heap := h, toks := tk })
    (done : ∀ (mo r : Int) (t1 t2 : Tok) (sv : Option Value) (h : Heap) (tk : Nat), P n mo r → Fr h₀ env.locals h (cmap a b x m₀ mo t1 r t2 sv) → News h₀ env.locals h news → Q .next { s with heap := h, toks := tk }) :
    wpAny (model prog w) A (pyIter (.ref rg)) (fun it s₂ => LoopAtV prog w A h₀ env x body Q E it s₂) E s :=
  iter_rangeUnr hh hr hsmall hn F N fun I hI => by
    have e := cmap_start (x := x) h1 h2
    rw [e]
    exact rinv_run hI (fun i kv t mo r t1 t2 sv it h tk rest => turn I i kv t mo r t1 t2 sv it h tk rest hI) done n 0 mo r t1 t2 _ rfl hP
end
/-- what holds of a year and a rest behind i turns of which c took D -/
def GS (D e c Y R : Int) (i : Nat) (y r : Int) : Prop := ((i : Int) ≤ c ∧ y = Y + e * i ∧ r = R + D * (c - i)) ∨ (c ≤ (i : Int) ∧ y = Y + e * c ∧ r = R)
theorem GS.start {D e c Y R y r : Int} (h0 : 0 ≤ c) (hy : y = Y) (hr : r = D * c + R) : GS D e c Y R 0 y r := .inl ⟨h0, by rw [hy]; simp, by rw [hr]; simp; omega⟩
theorem GS.take {D e c Y R y r : Int} {i : Nat} {n : Int} (h : GS D e c Y R i y r) (hR : 0 ≤ R ∧ (c = n ∨ R < D)) (hi : (i : Int) < n) (hr : D ≤ r) : GS D e c Y R (i + 1) (y + e) (r - D) := by
  rcases h with ⟨h1, h2, h3⟩ | ⟨h1, h2, h3⟩
  · by_cases hc : (i : Int) = c
    · exfalso
      have : c - (i : Int) = 0 := by omega
      rw [this, Int.mul_zero] at h3
      omega
    · refine .inl ⟨by omega, ?_, ?_⟩
      · rw [h2]; show _ = Y + e * (((i + 1 : Nat)) : Int); rw [Int.natCast_add, Int.mul_add]; simp; omega
      · rw [h3]
        have e1 : c - ((i + 1 : Nat) : Int) = (c - i) - 1 := by omega
        rw [e1]; generalize c - (i : Int) = d; rw [Int.mul_sub, Int.mul_one]; omega
  · exfalso; omega
theorem GS.skip {D e c Y R y r : Int} {i : Nat} (h : GS D e c Y R i y r) (hR : 0 ≤ R) (hD : 0 < D) (hr : ¬ D ≤ r) : GS D e c Y R (i + 1) y r := by
  rcases h with ⟨h1, h2, h3⟩ | ⟨h1, h2, h3⟩
  · by_cases hc : (i : Int) = c
    · refine .inr ⟨by omega, by rw [h2, hc], ?_⟩
      have : c - (i : Int) = 0 := by omega
      rw [this, Int.mul_zero] at h3
      omega
    · exfalso
      have h4 : 1 ≤ c - (i : Int) := by omega
      have h5 : D * 1 ≤ D * (c - (i : Int)) := Int.mul_le_mul_of_nonneg_left h4 (by omega)
      omega
  · exact .inr ⟨by omega, h2, h3⟩
theorem GS.last {D e c Y R y r : Int} {i : Nat} (h : GS D e c Y R i y r) (hc : c ≤ (i : Int)) : y = Y + e * c ∧ r = R := by
  rcases h with ⟨h1, h2, h3⟩ | ⟨_, h2, h3⟩
  · have h4 : (i : Int) = c := by omega
    rw [h4] at h2
    have : c - (i : Int) = 0 := by omega
    rw [this, Int.mul_zero] at h3
    exact ⟨h2, by omega⟩
  · exact ⟨h2, h3⟩
section
variable {w : World} {p : Program} {loose : List Str} {mean : ExcName → Option Value} {mg mb : Str → Option Value}
set_option maxHeartbeats 8000000 in
theorem c_lawgreg (news : List (Addr × Obj)) (jd : Int) (tj : Tok) (hj : 0 ≤ jd ∧ jd ≤ 6000000) : Cl w p loose mean mg mb 4 134 news [.int jd tj] (RetV3 (fun x y z => x = gyear jd ∧ y = gmonth jd ∧ z = gday jd)) := by
  obtain ⟨q, c1, c2, c3, r3, hn, h1, h2, h3, h4, h5, h6, h7, h8, hY, hyd⟩ := lg_split jd
  intro dp un gd cn cs a ccd cl outer A₀ base h₀ L m s Q E B F X N T hk hd hu hret
  refine wpAny_call ?_
  k_dflt cell_enter
  (k_with "exec For Name Call cons nil" => kpr_for)
  (repeat' ((fail_if_success (k_dflt (show wpAny _ _ (pyIter _) (fun it s₂ => LoopAtV _ _ _ _ _ _ _ _ _ it s₂) _ _))); first
      | ((with_reducible show wpAny _ _ (call (Value.ref _) _) _ _ _); first
        | (with_reducible ((with_reducible show wpAny _ _ (call (Value.ref 148) _) _ _ _); (k_here; k_dflt (refine' use (c_sizes _ _) ?k1 ?k2 ?k3 ?k4 ?k5 ?kK ?kd ?ku ?_; (case k1 => k_asm); (case k2 => k_asm); (case k3 => k_asm); (case k4 => k_asm); (case k5 => k_asm); (case kK => first | exact rfl | assumption); (case kd => ktr_room); (case ku => ktr_units); intro l9 f9 t91 t92 t93 t94 t95 t96 t97 t98 t99 t910 t911 t912 c9 h9 tk9 F9 N9 l1 P9; (try k_lt l1); (try dsimp only); (try k_fold)))))
        | (with_reducible ((with_reducible show wpAny _ _ (call (Value.ref 141) _) _ _ _); (k_here; k_dflt (refine' use (c_long _ _ _) ?k1 ?k2 ?k3 ?k4 ?k5 ?kK ?kd ?ku ?_; (case k1 => k_asm); (case k2 => k_asm); (case k3 => k_asm); (case k4 => k_asm); (case k5 => k_asm); (case kK => first | exact rfl | assumption); (case kd => ktr_room); (case ku => ktr_units); intro h9 tk9 F9 N9; (try dsimp only); (try k_fold)))))
        )
      | (with_reducible ((with_reducible show LREnd _ _ _ _ _ _); (k_dflt (refine' LREnd.intro ?kF ?kN ?kS ?_; (case kF => k_asm); (case kN => k_asm); (case kS => (repeat (first | exact subR | (refine subC ?_))))))))
      | (with_reducible ((with_reducible show LRPost _ _ _ _ _ _ _ _); (dsimp only [LRPost])))
      | (with_reducible (with_unfolding_all first | (refine LRun.succ (fun it' h' tk' F' N' => ?_)) | (refine LRun.zero (fun h' tk' F' N' => ?_))))
      | (with_reducible ((with_reducible show wpAny _ _ (compareOp CmpOp.In (Value.int _ _) (Value.ref _)) _ _ _); (k_here; k_dflt (first
  | (refine' in_top4 ?F ?X ?l ?_; (case F => k_asm); (case X => k_asm); (case l => k_is); k_whole)
  | (refine' in_top5 ?F ?X ?l ?_; (case F => k_asm); (case X => k_asm); (case l => k_is); k_whole)
  | (refine' in_top6 ?F ?X ?l ?_; (case F => k_asm); (case X => k_asm); (case l => k_is); k_whole)))))
      | (k_unfold; (try dsimp only)) | (k_end; kc_close) | walk1 | (dsimp only; walk1) | (leave1; (try dsimp only)) | fail "no step"))
  k_here
  rename Fr _ _ _ _ => lF'
  rename News _ _ _ _ => lN'
  rename IsRange _ _ _ _ _ _ _ _ => hRg
  with_unfolding_all refine' iter_rinv (a := Str.ofString "year") (b := Str.ofString "rest") (n := 3) (GS 36524 100 c1 (400 * q + 1) (1461 * c2 + 365 * c3 + r3)) ?kh1 hRg ?ks1 ?kn1 lF' lN' ?ka1 ?kb1 ?kp1 ?turn1 ?_
  case kh1 => rfl
  case ks1 => decide
  case kn1 => rfl
  case ka1 => rfl
  case kb1 => rfl
  case kp1 => (refine GS.start h1.1 ?_ ?_ <;> (clear hret; law_clear; (simp (disch := omega) only [Int.fdiv_eq_ediv_of_nonneg, Int.fmod_eq_emod_of_nonneg]); omega))
  case turn1 =>
    clear hRg
    intro I i kv t y r t1 t2 sv it h tk rest hI hi hG hcont F' N'
    clear lF' lN'
    (repeat' (first
        | ((with_reducible show wpAny _ _ (call (Value.ref _) _) _ _ _); first
          | (with_reducible ((with_reducible show wpAny _ _ (call (Value.ref 148) _) _ _ _); (k_here; k_dflt (refine' use (c_sizes _ _) ?k1 ?k2 ?k3 ?k4 ?k5 ?kK ?kd ?ku ?_; (case k1 => k_asm); (case k2 => k_asm); (case k3 => k_asm); (case k4 => k_asm); (case k5 => k_asm); (case kK => first | exact rfl | assumption); (case kd => ktr_room); (case ku => ktr_units); intro l9 f9 t91 t92 t93 t94 t95 t96 t97 t98 t99 t910 t911 t912 c9 h9 tk9 F9 N9 l1 P9; (try k_lt l1); (try dsimp only); (try k_fold)))))
          | (with_reducible ((with_reducible show wpAny _ _ (call (Value.ref 141) _) _ _ _); (k_here; k_dflt (refine' use (c_long _ _ _) ?k1 ?k2 ?k3 ?k4 ?k5 ?kK ?kd ?ku ?_; (case k1 => k_asm); (case k2 => k_asm); (case k3 => k_asm); (case k4 => k_asm); (case k5 => k_asm); (case kK => first | exact rfl | assumption); (case kd => ktr_room); (case ku => ktr_units); intro h9 tk9 F9 N9; (try dsimp only); (try k_fold)))))
          )
        | (with_reducible ((with_reducible show LREnd _ _ _ _ _ _); (k_dflt (refine' LREnd.intro ?kF ?kN ?kS ?_; (case kF => k_asm); (case kN => k_asm); (case kS => (repeat (first | exact subR | (refine subC ?_))))))))
        | (with_reducible ((with_reducible show LRPost _ _ _ _ _ _ _ _); (dsimp only [LRPost])))
        | (with_reducible (with_unfolding_all first | (refine LRun.succ (fun it' h' tk' F' N' => ?_)) | (refine LRun.zero (fun h' tk' F' N' => ?_))))
        | (with_reducible ((with_reducible show wpAny _ _ (compareOp CmpOp.In (Value.int _ _) (Value.ref _)) _ _ _); (k_here; k_dflt (first
  | (refine' in_top4 ?F ?X ?l ?_; (case F => k_asm); (case X => k_asm); (case l => k_is); k_whole)
  | (refine' in_top5 ?F ?X ?l ?_; (case F => k_asm); (case X => k_asm); (case l => k_is); k_whole)
  | (refine' in_top6 ?F ?X ?l ?_; (case F => k_asm); (case X => k_asm); (case l => k_is); k_whole)))))
        | (k_unfold; (try dsimp only)) | (k_end; kc_close) | walk1 | (dsimp only; walk1) | (leave1; (try dsimp only)) | fail "no step"))
    skip
    all_goals first
      | exact (congrArg rest cmap_upd).mpr (hcont _ _ _ _ (GS.take (n := 3) hG ⟨by omega, h5⟩ (by omega) (by first | assumption | omega)))
      | exact (congrArg rest (cmap_skip (by decide))).mpr (hcont _ _ _ _ (GS.skip hG (by omega) (by omega) (by first | assumption | omega)))
  clear lF' lN' hRg
  intro y1 r1 ta1 tb1 sv1 hp1 tk1 hG1 F1 N1
  obtain ⟨hy1, hr1⟩ := GS.last hG1 h1.2
  clear hG1
  (repeat' ((fail_if_success (k_dflt (show wpAny _ _ (pyIter _) (fun it s₂ => LoopAtV _ _ _ _ _ _ _ _ _ it s₂) _ _))); first
      | ((with_reducible show wpAny _ _ (call (Value.ref _) _) _ _ _); first
        | (with_reducible ((with_reducible show wpAny _ _ (call (Value.ref 148) _) _ _ _); (k_here; k_dflt (refine' use (c_sizes _ _) ?k1 ?k2 ?k3 ?k4 ?k5 ?kK ?kd ?ku ?_; (case k1 => k_asm); (case k2 => k_asm); (case k3 => k_asm); (case k4 => k_asm); (case k5 => k_asm); (case kK => first | exact rfl | assumption); (case kd => ktr_room); (case ku => ktr_units); intro l9 f9 t91 t92 t93 t94 t95 t96 t97 t98 t99 t910 t911 t912 c9 h9 tk9 F9 N9 l1 P9; (try k_lt l1); (try dsimp only); (try k_fold)))))
        | (with_reducible ((with_reducible show wpAny _ _ (call (Value.ref 141) _) _ _ _); (k_here; k_dflt (refine' use (c_long _ _ _) ?k1 ?k2 ?k3 ?k4 ?k5 ?kK ?kd ?ku ?_; (case k1 => k_asm); (case k2 => k_asm); (case k3 => k_asm); (case k4 => k_asm); (case k5 => k_asm); (case kK => first | exact rfl | assumption); (case kd => ktr_room); (case ku => ktr_units); intro h9 tk9 F9 N9; (try dsimp only); (try k_fold)))))
        )
      | (with_reducible ((with_reducible show LREnd _ _ _ _ _ _); (k_dflt (refine' LREnd.intro ?kF ?kN ?kS ?_; (case kF => k_asm); (case kN => k_asm); (case kS => (repeat (first | exact subR | (refine subC ?_))))))))
      | (with_reducible ((with_reducible show LRPost _ _ _ _ _ _ _ _); (dsimp only [LRPost])))
      | (with_reducible (with_unfolding_all first | (refine LRun.succ (fun it' h' tk' F' N' => ?_)) | (refine LRun.zero (fun h' tk' F' N' => ?_))))
      | (with_reducible ((with_reducible show wpAny _ _ (compareOp CmpOp.In (Value.int _ _) (Value.ref _)) _ _ _); (k_here; k_dflt (first
  | (refine' in_top4 ?F ?X ?l ?_; (case F => k_asm); (case X => k_asm); (case l => k_is); k_whole)
  | (refine' in_top5 ?F ?X ?l ?_; (case F => k_asm); (case X => k_asm); (case l => k_is); k_whole)
  | (refine' in_top6 ?F ?X ?l ?_; (case F => k_asm); (case X => k_asm); (case l => k_is); k_whole)))))
      | (k_unfold; (try dsimp only)) | (k_end; kc_close) | walk1 | (dsimp only; walk1) | (leave1; (try dsimp only)) | fail "no step"))
  k_here
  rename Fr _ _ _ _ => lF'
  rename News _ _ _ _ => lN'
  rename IsRange _ _ _ _ _ _ _ _ => hRg
  with_unfolding_all refine' iter_rinv (a := Str.ofString "year") (b := Str.ofString "rest") (n := 24) (GS 1461 4 c2 (y1) (365 * c3 + r3)) ?kh2 hRg ?ks2 ?kn2 lF' lN' ?ka2 ?kb2 ?kp2 ?turn2 ?_
  case kh2 => rfl
  case ks2 => decide
  case kn2 => rfl
  case ka2 => rfl
  case kb2 => rfl
  case kp2 => (refine GS.start h2.1 rfl ?_; omega)
  case turn2 =>
    clear hRg
    intro I i kv t y r t1 t2 sv it h tk rest hI hi hG hcont F' N'
    clear lF' lN'
    (repeat' (first
        | ((with_reducible show wpAny _ _ (call (Value.ref _) _) _ _ _); first
          | (with_reducible ((with_reducible show wpAny _ _ (call (Value.ref 148) _) _ _ _); (k_here; k_dflt (refine' use (c_sizes _ _) ?k1 ?k2 ?k3 ?k4 ?k5 ?kK ?kd ?ku ?_; (case k1 => k_asm); (case k2 => k_asm); (case k3 => k_asm); (case k4 => k_asm); (case k5 => k_asm); (case kK => first | exact rfl | assumption); (case kd => ktr_room); (case ku => ktr_units); intro l9 f9 t91 t92 t93 t94 t95 t96 t97 t98 t99 t910 t911 t912 c9 h9 tk9 F9 N9 l1 P9; (try k_lt l1); (try dsimp only); (try k_fold)))))
          | (with_reducible ((with_reducible show wpAny _ _ (call (Value.ref 141) _) _ _ _); (k_here; k_dflt (refine' use (c_long _ _ _) ?k1 ?k2 ?k3 ?k4 ?k5 ?kK ?kd ?ku ?_; (case k1 => k_asm); (case k2 => k_asm); (case k3 => k_asm); (case k4 => k_asm); (case k5 => k_asm); (case kK => first | exact rfl | assumption); (case kd => ktr_room); (case ku => ktr_units); intro h9 tk9 F9 N9; (try dsimp only); (try k_fold)))))
          )
        | (with_reducible ((with_reducible show LREnd _ _ _ _ _ _); (k_dflt (refine' LREnd.intro ?kF ?kN ?kS ?_; (case kF => k_asm); (case kN => k_asm); (case kS => (repeat (first | exact subR | (refine subC ?_))))))))
        | (with_reducible ((with_reducible show LRPost _ _ _ _ _ _ _ _); (dsimp only [LRPost])))
        | (with_reducible (with_unfolding_all first | (refine LRun.succ (fun it' h' tk' F' N' => ?_)) | (refine LRun.zero (fun h' tk' F' N' => ?_))))
        | (with_reducible ((with_reducible show wpAny _ _ (compareOp CmpOp.In (Value.int _ _) (Value.ref _)) _ _ _); (k_here; k_dflt (first
  | (refine' in_top4 ?F ?X ?l ?_; (case F => k_asm); (case X => k_asm); (case l => k_is); k_whole)
  | (refine' in_top5 ?F ?X ?l ?_; (case F => k_asm); (case X => k_asm); (case l => k_is); k_whole)
  | (refine' in_top6 ?F ?X ?l ?_; (case F => k_asm); (case X => k_asm); (case l => k_is); k_whole)))))
        | (k_unfold; (try dsimp only)) | (k_end; kc_close) | walk1 | (dsimp only; walk1) | (leave1; (try dsimp only)) | fail "no step"))
    skip
    all_goals first
      | exact (congrArg rest cmap_upd).mpr (hcont _ _ _ _ (GS.take (n := 24) hG ⟨by omega, .inr h7⟩ (by omega) (by first | assumption | omega)))
      | exact (congrArg rest (cmap_skip (by decide))).mpr (hcont _ _ _ _ (GS.skip hG (by omega) (by omega) (by first | assumption | omega)))
  clear lF' lN' hRg
  intro y2 r2 ta2 tb2 sv2 hp2 tk2 hG2 F2 N2
  obtain ⟨hy2, hr2⟩ := GS.last hG2 h2.2
  clear hG2
  (repeat' ((fail_if_success (k_dflt (show wpAny _ _ (pyIter _) (fun it s₂ => LoopAtV _ _ _ _ _ _ _ _ _ it s₂) _ _))); first
      | ((with_reducible show wpAny _ _ (call (Value.ref _) _) _ _ _); first
        | (with_reducible ((with_reducible show wpAny _ _ (call (Value.ref 148) _) _ _ _); (k_here; k_dflt (refine' use (c_sizes _ _) ?k1 ?k2 ?k3 ?k4 ?k5 ?kK ?kd ?ku ?_; (case k1 => k_asm); (case k2 => k_asm); (case k3 => k_asm); (case k4 => k_asm); (case k5 => k_asm); (case kK => first | exact rfl | assumption); (case kd => ktr_room); (case ku => ktr_units); intro l9 f9 t91 t92 t93 t94 t95 t96 t97 t98 t99 t910 t911 t912 c9 h9 tk9 F9 N9 l1 P9; (try k_lt l1); (try dsimp only); (try k_fold)))))
        | (with_reducible ((with_reducible show wpAny _ _ (call (Value.ref 141) _) _ _ _); (k_here; k_dflt (refine' use (c_long _ _ _) ?k1 ?k2 ?k3 ?k4 ?k5 ?kK ?kd ?ku ?_; (case k1 => k_asm); (case k2 => k_asm); (case k3 => k_asm); (case k4 => k_asm); (case k5 => k_asm); (case kK => first | exact rfl | assumption); (case kd => ktr_room); (case ku => ktr_units); intro h9 tk9 F9 N9; (try dsimp only); (try k_fold)))))
        )
      | (with_reducible ((with_reducible show LREnd _ _ _ _ _ _); (k_dflt (refine' LREnd.intro ?kF ?kN ?kS ?_; (case kF => k_asm); (case kN => k_asm); (case kS => (repeat (first | exact subR | (refine subC ?_))))))))
      | (with_reducible ((with_reducible show LRPost _ _ _ _ _ _ _ _); (dsimp only [LRPost])))
      | (with_reducible (with_unfolding_all first | (refine LRun.succ (fun it' h' tk' F' N' => ?_)) | (refine LRun.zero (fun h' tk' F' N' => ?_))))
      | (with_reducible ((with_reducible show wpAny _ _ (compareOp CmpOp.In (Value.int _ _) (Value.ref _)) _ _ _); (k_here; k_dflt (first
  | (refine' in_top4 ?F ?X ?l ?_; (case F => k_asm); (case X => k_asm); (case l => k_is); k_whole)
  | (refine' in_top5 ?F ?X ?l ?_; (case F => k_asm); (case X => k_asm); (case l => k_is); k_whole)
  | (refine' in_top6 ?F ?X ?l ?_; (case F => k_asm); (case X => k_asm); (case l => k_is); k_whole)))))
      | (k_unfold; (try dsimp only)) | (k_end; kc_close) | walk1 | (dsimp only; walk1) | (leave1; (try dsimp only)) | fail "no step"))
  k_here
  rename Fr _ _ _ _ => lF'
  rename News _ _ _ _ => lN'
  rename IsRange _ _ _ _ _ _ _ _ => hRg
  with_unfolding_all refine' iter_rinv (a := Str.ofString "year") (b := Str.ofString "rest") (n := 3) (GS 365 1 c3 (y2) (r3)) ?kh3 hRg ?ks3 ?kn3 lF' lN' ?ka3 ?kb3 ?kp3 ?turn3 ?_
  case kh3 => rfl
  case ks3 => decide
  case kn3 => rfl
  case ka3 => rfl
  case kb3 => rfl
  case kp3 => (refine GS.start h3.1 rfl ?_; omega)
  case turn3 =>
    clear hRg
    intro I i kv t y r t1 t2 sv it h tk rest hI hi hG hcont F' N'
    clear lF' lN'
    (repeat' (first
        | ((with_reducible show wpAny _ _ (call (Value.ref _) _) _ _ _); first
          | (with_reducible ((with_reducible show wpAny _ _ (call (Value.ref 148) _) _ _ _); (k_here; k_dflt (refine' use (c_sizes _ _) ?k1 ?k2 ?k3 ?k4 ?k5 ?kK ?kd ?ku ?_; (case k1 => k_asm); (case k2 => k_asm); (case k3 => k_asm); (case k4 => k_asm); (case k5 => k_asm); (case kK => first | exact rfl | assumption); (case kd => ktr_room); (case ku => ktr_units); intro l9 f9 t91 t92 t93 t94 t95 t96 t97 t98 t99 t910 t911 t912 c9 h9 tk9 F9 N9 l1 P9; (try k_lt l1); (try dsimp only); (try k_fold)))))
          | (with_reducible ((with_reducible show wpAny _ _ (call (Value.ref 141) _) _ _ _); (k_here; k_dflt (refine' use (c_long _ _ _) ?k1 ?k2 ?k3 ?k4 ?k5 ?kK ?kd ?ku ?_; (case k1 => k_asm); (case k2 => k_asm); (case k3 => k_asm); (case k4 => k_asm); (case k5 => k_asm); (case kK => first | exact rfl | assumption); (case kd => ktr_room); (case ku => ktr_units); intro h9 tk9 F9 N9; (try dsimp only); (try k_fold)))))
          )
        | (with_reducible ((with_reducible show LREnd _ _ _ _ _ _); (k_dflt (refine' LREnd.intro ?kF ?kN ?kS ?_; (case kF => k_asm); (case kN => k_asm); (case kS => (repeat (first | exact subR | (refine subC ?_))))))))
        | (with_reducible ((with_reducible show LRPost _ _ _ _ _ _ _ _); (dsimp only [LRPost])))
        | (with_reducible (with_unfolding_all first | (refine LRun.succ (fun it' h' tk' F' N' => ?_)) | (refine LRun.zero (fun h' tk' F' N' => ?_))))
        | (with_reducible ((with_reducible show wpAny _ _ (compareOp CmpOp.In (Value.int _ _) (Value.ref _)) _ _ _); (k_here; k_dflt (first
  | (refine' in_top4 ?F ?X ?l ?_; (case F => k_asm); (case X => k_asm); (case l => k_is); k_whole)
  | (refine' in_top5 ?F ?X ?l ?_; (case F => k_asm); (case X => k_asm); (case l => k_is); k_whole)
  | (refine' in_top6 ?F ?X ?l ?_; (case F => k_asm); (case X => k_asm); (case l => k_is); k_whole)))))
        | (k_unfold; (try dsimp only)) | (k_end; kc_close) | walk1 | (dsimp only; walk1) | (leave1; (try dsimp only)) | fail "no step"))
    skip
    all_goals first
      | exact (congrArg rest cmap_upd).mpr (hcont _ _ _ _ (GS.take (n := 3) hG ⟨h4.1, h8⟩ (by omega) (by first | assumption | omega)))
      | exact (congrArg rest (cmap_skip (by decide))).mpr (hcont _ _ _ _ (GS.skip hG (by omega) (by omega) (by first | assumption | omega)))
  clear lF' lN' hRg
  intro y3 r3 ta3 tb3 sv3 hp3 tk3 hG3 F3 N3
  obtain ⟨hy3, hr3⟩ := GS.last hG3 h3.2
  clear hG3
  (repeat' ((fail_if_success (k_dflt (show wpAny _ _ (pyIter _) (fun it s₂ => LoopAtV _ _ _ _ _ _ _ _ _ it s₂) _ _))); first
      | ((with_reducible show wpAny _ _ (call (Value.ref _) _) _ _ _); first
        | (with_reducible ((with_reducible show wpAny _ _ (call (Value.ref 148) _) _ _ _); (k_here; k_dflt (refine' use (c_sizes _ _) ?k1 ?k2 ?k3 ?k4 ?k5 ?kK ?kd ?ku ?_; (case k1 => k_asm); (case k2 => k_asm); (case k3 => k_asm); (case k4 => k_asm); (case k5 => k_asm); (case kK => first | exact rfl | assumption); (case kd => ktr_room); (case ku => ktr_units); intro l9 f9 t91 t92 t93 t94 t95 t96 t97 t98 t99 t910 t911 t912 c9 h9 tk9 F9 N9 l1 P9; (try k_lt l1); (try dsimp only); (try k_fold)))))
        | (with_reducible ((with_reducible show wpAny _ _ (call (Value.ref 141) _) _ _ _); (k_here; k_dflt (refine' use (c_long _ _ _) ?k1 ?k2 ?k3 ?k4 ?k5 ?kK ?kd ?ku ?_; (case k1 => k_asm); (case k2 => k_asm); (case k3 => k_asm); (case k4 => k_asm); (case k5 => k_asm); (case kK => first | exact rfl | assumption); (case kd => ktr_room); (case ku => ktr_units); intro h9 tk9 F9 N9; (try dsimp only); (try k_fold)))))
        )
      | (with_reducible ((with_reducible show LREnd _ _ _ _ _ _); (k_dflt (refine' LREnd.intro ?kF ?kN ?kS ?_; (case kF => k_asm); (case kN => k_asm); (case kS => (repeat (first | exact subR | (refine subC ?_))))))))
      | (with_reducible ((with_reducible show LRPost _ _ _ _ _ _ _ _); (dsimp only [LRPost])))
      | (with_reducible (with_unfolding_all first | (refine LRun.succ (fun it' h' tk' F' N' => ?_)) | (refine LRun.zero (fun h' tk' F' N' => ?_))))
      | (with_reducible ((with_reducible show wpAny _ _ (compareOp CmpOp.In (Value.int _ _) (Value.ref _)) _ _ _); (k_here; k_dflt (first
  | (refine' in_top4 ?F ?X ?l ?_; (case F => k_asm); (case X => k_asm); (case l => k_is); k_whole)
  | (refine' in_top5 ?F ?X ?l ?_; (case F => k_asm); (case X => k_asm); (case l => k_is); k_whole)
  | (refine' in_top6 ?F ?X ?l ?_; (case F => k_asm); (case X => k_asm); (case l => k_is); k_whole)))))
      | (k_unfold; (try dsimp only)) | (k_end; kc_close) | walk1 | (dsimp only; walk1) | (leave1; (try dsimp only)) | fail "no step"))
  rename (_ ∧ _ = (29 : Int)) ∨ _ => hf
  rename Fr _ _ _ _ => lF'
  rename News _ _ _ _ => lN'
  k_here
  with_unfolding_all refine' iter_months (jd := jd) (a := Str.ofString "month") (b := Str.ofString "rest") ?kh lF' lN' ?km hf ?hy ?hr ?h1 ?h2 ?turn
  case kh => rfl
  case km => k_mem
  case h1 => rfl
  case h2 => rfl
  case hy => (rw [hY]; omega)
  case hr => rw [hr3, hyd]
  case turn =>
    have e1 : y3 = gyear jd := by rw [hY]; omega
    clear hn h1 h2 h3 h4 h5 h6 h7 h8 hyd hf hr1 hr2 hr3 hy1 hy2 hy3 hY
    intro I k mo r t t1 t2 sv it h tk rest hI hbrk hcont F' N'
    clear lF' lN'
    (repeat' (first
        | ((with_reducible show wpAny _ _ (call (Value.ref _) _) _ _ _); first
          | (with_reducible ((with_reducible show wpAny _ _ (call (Value.ref 148) _) _ _ _); (k_here; k_dflt (refine' use (c_sizes _ _) ?k1 ?k2 ?k3 ?k4 ?k5 ?kK ?kd ?ku ?_; (case k1 => k_asm); (case k2 => k_asm); (case k3 => k_asm); (case k4 => k_asm); (case k5 => k_asm); (case kK => first | exact rfl | assumption); (case kd => ktr_room); (case ku => ktr_units); intro l9 f9 t91 t92 t93 t94 t95 t96 t97 t98 t99 t910 t911 t912 c9 h9 tk9 F9 N9 l1 P9; (try k_lt l1); (try dsimp only); (try k_fold)))))
          | (with_reducible ((with_reducible show wpAny _ _ (call (Value.ref 141) _) _ _ _); (k_here; k_dflt (refine' use (c_long _ _ _) ?k1 ?k2 ?k3 ?k4 ?k5 ?kK ?kd ?ku ?_; (case k1 => k_asm); (case k2 => k_asm); (case k3 => k_asm); (case k4 => k_asm); (case k5 => k_asm); (case kK => first | exact rfl | assumption); (case kd => ktr_room); (case ku => ktr_units); intro h9 tk9 F9 N9; (try dsimp only); (try k_fold)))))
          )
        | (with_reducible ((with_reducible show LREnd _ _ _ _ _ _); (k_dflt (refine' LREnd.intro ?kF ?kN ?kS ?_; (case kF => k_asm); (case kN => k_asm); (case kS => (repeat (first | exact subR | (refine subC ?_))))))))
        | (with_reducible ((with_reducible show LRPost _ _ _ _ _ _ _ _); (dsimp only [LRPost])))
        | (with_reducible (with_unfolding_all first | (refine LRun.succ (fun it' h' tk' F' N' => ?_)) | (refine LRun.zero (fun h' tk' F' N' => ?_))))
        | (with_reducible ((with_reducible show wpAny _ _ (compareOp CmpOp.In (Value.int _ _) (Value.ref _)) _ _ _); (k_here; k_dflt (first
  | (refine' in_top4 ?F ?X ?l ?_; (case F => k_asm); (case X => k_asm); (case l => k_is); k_whole)
  | (refine' in_top5 ?F ?X ?l ?_; (case F => k_asm); (case X => k_asm); (case l => k_is); k_whole)
  | (refine' in_top6 ?F ?X ?l ?_; (case F => k_asm); (case X => k_asm); (case l => k_is); k_whole)))))
        | (k_unfold; (try dsimp only)) | (k_end; kc_close) | walk1 | (dsimp only; walk1) | (leave1; (try dsimp only)) | fail "no step"))
    all_goals first
      | exact (congrArg rest cmap_upd).mpr (hcont _ _ (by assumption))
      | exact endV3 (Q := Q) (s := s) hret ⟨e1, (hbrk (by assumption)).1, (hbrk (by assumption)).2⟩ (by k_asm) (by k_asm) (by k_mem) (by (repeat (first | exact subR | (refine subC ?_))))
end

theorem mul_one {prog : Program} {w : World} {A : Around} {E : Value → Shared → Prop} {s : Shared} {h₀ : Heap} {L : Addr} {m : Str → Option Value} {news : List (Addr × Obj)} {l : Addr} {v : Value} {c : Nat} {x : Int} {u : Tok} {Q : Value → Shared → Prop}
    (Fm : Fr h₀ L s.heap m) (N : News h₀ L s.heap news) (hm : (l, (W.listOf #[v] c : Obj)) ∈ news) (hx : 0 ≤ x ∧ x ≤ 100)
    (h : ∀ D h', Fr h₀ L h' m → News h₀ L h' ((D, W.listOf (List.replicate x.toNat v).toArray 0) :: news) → (∀ p ∈ news, p.1 < D) → Q (.ref D) { s with heap := h' }) : wpAny (model prog w) A (binaryOp .Mult (.ref l) (.int x u)) Q E s := by
  refine W.KMa.mul (vs := [v]) (ws := List.replicate x.toNat v) Fm N ⟨_, (N _ hm).1, rfl, _, rfl⟩ (by omega) (by omega) (by show 1 * x.toNat ≤ 256; omega) ?_ h
  generalize x.toNat = n
  induction n with
  | zero => rfl
  | succ n ih => rw [List.replicate_succ, List.flatten_cons, ih]; rfl
theorem mul_one_r {prog : Program} {w : World} {A : Around} {E : Value → Shared → Prop} {s : Shared} {h₀ : Heap} {L : Addr} {m : Str → Option Value} {news : List (Addr × Obj)} {l : Addr} {v : Value} {c : Nat} {x : Int} {u : Tok} {Q : Value → Shared → Prop}
    (Fm : Fr h₀ L s.heap m) (N : News h₀ L s.heap news) (hm : (l, (W.listOf #[v] c : Obj)) ∈ news) (hx : 0 ≤ x ∧ x ≤ 100)
    (h : ∀ D h', Fr h₀ L h' m → News h₀ L h' ((D, W.listOf (List.replicate x.toNat v).toArray 0) :: news) → (∀ p ∈ news, p.1 < D) → Q (.ref D) { s with heap := h' }) : wpAny (model prog w) A (binaryOp .Mult (.int x u) (.ref l)) Q E s := by
  refine mul_list_r (items := #[v]) (k := c) Fm N (N _ hm).1 (by omega) (by omega) (by show 1 * x.toNat ≤ 2 ^ 24; omega) fun h' F' N' => ?_
  refine h _ h' F' ?_ (fun p hp => Heap.lt_size (N p hp).1)
  have e : List.foldl (fun x1 x2 => x1 ++ x2) #[] (List.replicate (if (#[v] : Array Value).isEmpty = true then 0 else x.toNat) #[v]) = (List.replicate x.toNat v).toArray := by
    rw [if_neg (by simp)]
    have gen : ∀ (n : Nat) (acc : List Value), List.foldl (fun x1 x2 => x1 ++ x2) acc.toArray (List.replicate n #[v]) = (acc ++ List.replicate n v).toArray := by
      intro n
      induction n with
      | zero => intro acc; simp
      | succ n ih =>
        intro acc
        rw [List.replicate_succ, List.foldl_cons]
        have q : acc.toArray ++ #[v] = (acc ++ [v]).toArray := by simp
        rw [q, ih, List.append_assoc, List.replicate_succ]
        rfl
    exact gen x.toNat []
  rw [e] at N'
  exact N'
theorem add_lsts {prog : Program} {w : World} {A : Around} {E : Value → Shared → Prop} {s : Shared} {h₀ : Heap} {L : Addr} {m : Str → Option Value} {news : List (Addr × Obj)} {a b : Addr} {xs ys : List Value} {c c' : Nat} {Q : Value → Shared → Prop}
    (F : Fr h₀ L s.heap m) (N : News h₀ L s.heap news) (h1 : (a, (W.listOf xs.toArray c : Obj)) ∈ news) (h2 : (b, (W.listOf ys.toArray c' : Obj)) ∈ news) (hsz : xs.length + ys.length ≤ 1000)
    (h : ∀ D h', Fr h₀ L h' m → News h₀ L h' ((D, W.listOf (xs ++ ys).toArray 0) :: news) → (∀ p ∈ news, p.1 < D) → Q (.ref D) { s with heap := h' }) : wpAny (model prog w) A (binaryOp .Add (.ref a) (.ref b)) Q E s :=
  add_lists (vs := xs) (ws := ys) (hsz := by rw [sizeLine_eq]; omega) F N ⟨_, (N _ h1).1, rfl, _, rfl⟩ ⟨_, (N _ h2).1, rfl, _, rfl⟩ (fun h' F' N' => h _ h' F' N' (fun p hp => Heap.lt_size (N p hp).1))
theorem below_ne {news : List (Addr × Obj)} {d : Addr} (h : ∀ p ∈ news, p.1 < d) : ∀ p ∈ news, p.1 ≠ d + 1 := fun p hp => Nat.ne_of_lt (Nat.lt_succ_of_lt (h p hp))
section
open PyProof.Rows.LCg
variable {prog : Program} {w : World} {A : Around} {E : Value → Shared → Prop} {s : Shared} {h₀ : Heap} {L : Addr} {m : Str → Option Value} {env : Env}
theorem cut3 {a b c : Addr × Obj} {nw news : List (Addr × Obj)} (hn : ∀ p ∈ news, p ∈ nw) : ∀ p ∈ a :: b :: c :: (nw ++ news), p ∈ a :: b :: c :: nw := fun p hp => by
  rcases List.mem_cons.mp hp with rfl | hp
  · exact .head _
  · rcases List.mem_cons.mp hp with rfl | hp
    · exact .tail _ (.head _)
    · rcases List.mem_cons.mp hp with rfl | hp
      · exact .tail _ (.tail _ (.head _))
      · exact .tail _ (.tail _ (.tail _ ((List.mem_append.mp hp).elim id (hn p))))
theorem wide3 {a b c : Addr × Obj} {nw news : List (Addr × Obj)} : ∀ p ∈ a :: b :: c :: nw, p ∈ a :: b :: c :: (nw ++ news) := fun p hp => by
  rcases List.mem_cons.mp hp with rfl | hp
  · exact .head _
  · rcases List.mem_cons.mp hp with rfl | hp
    · exact .tail _ (.head _)
    · rcases List.mem_cons.mp hp with rfl | hp
      · exact .tail _ (.tail _ (.head _))
      · exact .tail _ (.tail _ (.tail _ (List.mem_append.mpr (.inl hp))))
theorem mem3R {x a b c : Addr × Obj} {nw news : List (Addr × Obj)} (h : x ∈ news) : x ∈ a :: b :: c :: (nw ++ news) := .tail _ (.tail _ (.tail _ (List.mem_append.mpr (.inr h))))
/-- an element's end: one new list -/
def EltW (h₀ : Heap) (L : Addr) (m : Str → Option Value) (s₁ : Shared) (cur : List (Addr × Obj)) (want : List Value) (y : Value) (s₂ : Shared) : Prop :=
  ∃ a c h' tk', y = .ref a ∧ s₂ = { s₁ with heap := h', toks := tk' } ∧ Fr h₀ L h' m ∧ News h₀ L h' ((a, W.listOf want.toArray c) :: cur) ∧ (∀ p ∈ cur, p.1 < a)
theorem EltW.intro {cur cur' : List (Addr × Obj)} {want ws : List Value} {s₁ : Shared} {a : Addr} {c : Nat} {h' : Heap} {tk' : Nat} (F : Fr h₀ L h' m) (N : News h₀ L h' ((a, W.listOf ws.toArray c) :: cur')) (hw : ws = want) (hn : ∀ p ∈ cur, p ∈ cur') (hl : ∀ p ∈ cur', p.1 < a) :
    EltW h₀ L m s₁ cur want (.ref a) { s₁ with heap := h', toks := tk' } := by
  subst hw
  refine ⟨a, c, h', tk', rfl, rfl, F, fun p hp => ?_, fun p hp => hl p (hn p hp)⟩
  rcases List.mem_cons.mp hp with rfl | hp
  · exact N _ (.head _)
  · exact N p (.tail _ (hn p hp))
def SrcW (prog : Program) (w : World) (A : Around) (h₀ : Heap) (L : Addr) (m : Str → Option Value) (env : Env) (elt : Expr) (x : Str) (scope : Scope) (cl : List (Str × Addr)) (Q : Value → Shared → Prop) (xv : Value) (s₁ : Shared) : Prop :=
  ∃ (r : Addr) (b : Int) (t u v : Tok) (n : Nat) (news : List (Addr × Obj)) (wk : Nat → List Value), xv = .ref r ∧ A.handled = none ∧ Fr h₀ L s₁.heap m ∧ News h₀ L s₁.heap news ∧ IsRange s₁.heap r 0 b 7 t u v ∧ Builtin.Range.small 0 b 7 = true ∧ Builtin.Range.rangeSize 0 b 7 = ((n : Nat) : Int) ∧ n ≤ sizeLine ∧
    (∀ (i : Nat) (t : Tok) (I : Addr) (oI : Obj) (C : Addr) (oC : Obj) (D : Addr) (oD : Obj) (m₂ : Str → Option Value) (h : Heap) (tk : Nat) (E' : Value → Shared → Prop) (nw : List (Addr × Obj)), i < n → NsObj oC m₂ → m₂ x = some (.int (7 * (i : Int)) t) → Fr h₀ L h m → News h₀ L h ((I, oI) :: (C, oC) :: (D, oD) :: (nw ++ news)) →
      wpAny (model prog w) A (eval elt (compEnvC scope cl C env)) (EltW h₀ L m { s₁ with heap := h, toks := tk } ((I, oI) :: (C, oC) :: (D, oD) :: nw) (wk i)) E' { s₁ with heap := h, toks := tk }) ∧
    (∀ (D : Addr) (as : List Addr) (c : Nat) (nw : List (Addr × Obj)) (h : Heap) (tk : Nat), Fr h₀ L h m → News h₀ L h ((D, W.listOf (as.map Value.ref).toArray c) :: nw) → (∀ p ∈ news, p ∈ nw) → as.length = n → (∀ j a, as[j]? = some a → ∃ c, (a, W.listOf (wk j).toArray c) ∈ nw) → Q (.ref D) { s₁ with heap := h, toks := tk })
theorem comp_weeks {elt : Expr} {x : Str} {scope : Scope} {cl : List (Str × Addr)} {s₁ s₂ : Shared} {n : Nat} {news : List (Addr × Obj)} {wk : Nat → List Value} {Fin : List Value → List (Addr × Obj) → Prop} (hs : ∃ h, s₂ = { s₁ with heap := h })
    (helt : ∀ (i : Nat) (t : Tok) (I : Addr) (oI : Obj) (C : Addr) (oC : Obj) (D : Addr) (oD : Obj) (m₂ : Str → Option Value) (h : Heap) (tk : Nat) (E' : Value → Shared → Prop) (nw : List (Addr × Obj)), i < n → NsObj oC m₂ → m₂ x = some (.int (7 * (i : Int)) t) → Fr h₀ L h m → News h₀ L h ((I, oI) :: (C, oC) :: (D, oD) :: (nw ++ news)) →
      wpAny (model prog w) A (eval elt (compEnvC scope cl C env)) (EltW h₀ L m { s₁ with heap := h, toks := tk } ((I, oI) :: (C, oC) :: (D, oD) :: nw) (wk i)) E' { s₁ with heap := h, toks := tk })
    (hfin : ∀ (as : List Addr) (nw : List (Addr × Obj)), (∀ p ∈ news, p ∈ nw) → as.length = n → (∀ j a, as[j]? = some a → ∃ c, (a, W.listOf (wk j).toArray c) ∈ nw) → Fin (as.map Value.ref) nw) :
    ∀ (k i : Nat) (as : List Addr) (nw : List (Addr × Obj)), k + i = n → as.length = i → (∀ p ∈ news, p ∈ nw) → (∀ j a, as[j]? = some a → ∃ c, (a, W.listOf (wk j).toArray c) ∈ nw) →
      CompRest prog w A h₀ L m env elt x scope cl s₂ (fun _ => True) (fun i v => i < n ∧ ∃ t, v = .int (0 + (i : Int) * 7) t) Fin k i (as.map Value.ref) nw := by
  obtain ⟨h2, rfl⟩ := hs
  intro k
  induction k with
  | zero =>
    intro i as nw hk ha hn hw
    exact CompRest.zero (hfin as nw hn (by omega) hw)
  | succ k ih =>
    intro i as nw hk ha hn hw
    refine CompRest.succ ?_
    intro v I oI C oC D m₂ h tk E' hP hC hx F N off hne
    obtain ⟨hi, t, rfl⟩ := hP
    have hx' : m₂ x = some (.int (7 * (i : Int)) t) := by rw [hx]; congr 2; omega
    refine wpAny_mono (helt i t I oI C oC D _ m₂ h tk E' nw hi hC hx' F (fun p hp => N p (cut3 hn p hp))) (fun y s' q => ?_) fun _ _ e => e
    obtain ⟨a, c, h', tk', rfl, rfl, F', N', hlt⟩ := q
    refine CompEnd.intro F' N' ((a, W.listOf (wk i).toArray c) :: nw) (fun p hp => ?_) ⟨⟨?_, ?_, ?_⟩, off⟩ trivial ?_
    · rcases List.mem_cons.mp hp with rfl | hp
      · exact .tail _ (.head _)
      · rcases List.mem_cons.mp hp with rfl | hp
        · exact .tail _ (.tail _ (.head _))
        · rcases List.mem_cons.mp hp with rfl | hp
          · exact .tail _ (.tail _ (.tail _ (.head _)))
          · rcases List.mem_cons.mp hp with rfl | hp
            · exact .head _
            · exact .tail _ (.tail _ (.tail _ (.tail _ hp)))
    · exact Nat.ne_of_gt (hlt (I, oI) (.head _))
    · exact Nat.ne_of_gt (hlt (C, oC) (.tail _ (.head _)))
    · exact Nat.ne_of_gt (hlt (D, lst (as.map Value.ref)) (.tail _ (.tail _ (.head _))))
    · have e : as.map Value.ref ++ [Value.ref a] = (as ++ [a]).map Value.ref := by rw [List.map_append]; rfl
      rw [e]
      refine ih (i + 1) (as ++ [a]) _ (by omega) (by rw [List.length_append, ha]; rfl) (fun p hp => .tail _ (hn p hp)) (fun j b hj => ?_)
      by_cases hjl : j < as.length
      · rw [List.getElem?_append_left hjl] at hj
        obtain ⟨c', hc'⟩ := hw j b hj
        exact ⟨c', .tail _ hc'⟩
      · rw [List.getElem?_append_right (by omega)] at hj
        have hj0 : j = as.length := by
          by_cases q : j - as.length = 0
          · omega
          · have : ([a] : List Addr)[j - as.length]? = none := by rw [List.getElem?_eq_none]; simp; omega
            rw [this] at hj; cases hj
        subst hj0
        rw [Nat.sub_self] at hj
        cases hj
        exact ⟨c, by rw [ha]; exact .head _⟩

theorem ListComp_W {elt iter : Expr} {x : Str} {px : Pos} {scope : Scope} {cl : List (Str × Addr)} {pos : Pos} {Q : Value → Shared → Prop} (F₀ : Fr h₀ L s.heap m)
    (hclos : closureFor scope env = pure cl) (hcell : ∀ y ∈ scope.names, y.2 ≠ .cell) (hkind : scope.kind = .function)
    (hnames : ∀ y ∈ scope.names, y.2 = .local → scope.names.lookup y.1 = some .local) (hx : scope.names.lookup x = some .local)
    (h : wpAny (model prog w) A (eval iter env) (SrcW prog w A h₀ L m env elt x scope cl Q) E s)
    (hs : ∀ x, foldedSetIterable iter env x = pure x := by intro _; rfl) :
    wpAny (model prog w) A (eval (.ListComp elt [⟨.Name x px, iter, [], 0⟩] scope pos) env) Q E s := by
  rw [eval_ListComp]
  refine wpAny_comprehension_free (use := none) rfl hs hclos hkind hnames (wpAny_mono h (fun xv s₁ h₁ => ?_) fun _ _ e => e)
  obtain ⟨r, b, t, u, v, n, news, wk, rfl, hh, F, N, hr, hsm, hn, hsz, helt, hfin⟩ := h₁
  refine wpAny_pyIter_range hr hsm ?_
  have Wk : Walks prog w A s₁.heap.objs.size [s₁.heap.objs.size] [s₁.heap.objs.size] n (fun i v => i < n ∧ ∃ t, v = .int (0 + i * 7) t)
      (fun i h => IsRangeIter h s₁.heap.objs.size (0 + (i : Nat) * 7) ((n : Int) - (i : Nat)) 7) := (Walks.range hh _ 0 7 n).bound
  refine block_U (S := fun _ => True) (Fin := FinE h₀ L m { s₁ with heap := s₁.heap } Q) Wk hsz (fun i h st => ⟨_, st⟩) (fun i h h' o nw st e e' _ _ _ => ?_) hcell hkind hx (by show IsRangeIter _ _ _ _ _; rw [hn]; simpa using Heap.get?_push_size _ rfl) (fun b hb => ?_)
    (F.keeps fun _ _ e => Heap.get?_push_of_some _ e) (N.grown fun _ _ e => Heap.get?_push_of_some _ e) (Nat.ne_of_lt F.ns.lt) (next_is_new F) (fun p hp => Nat.ne_of_lt (Heap.lt_size (N p hp).1)) trivial
    (comp_weeks (s₁ := s₁) ⟨_, rfl⟩ helt (fun as nw hsub hlen hw D hh' tk' F' N' _ => ?_) n 0 [] news (by omega) rfl (fun _ h => h) (fun j a hj => by simp at hj)) ?_
  · have st' : h.get? s₁.heap.objs.size = some _ := st
    show h'.get? s₁.heap.objs.size = some _
    rw [e', ← e]; exact st'
  · rw [List.mem_singleton.mp hb]
    show s₁.heap.objs.size < (s₁.heap.push _).objs.size
    rw [Heap.size_push]; exact Nat.lt_succ_self _
  · exact hfin D as _ nw hh' tk' F' N' hsub hlen hw
  · intro D C h tk m' ys news' F' N' o1 hn hC₀ hD₀ hCL hDL hCD offC fin
    refine ⟨m', hn, fun h'' hs'' => fin D h'' tk (F'.change hs'' hCL hC₀) (fun p hp => ?_) o1⟩
    refine ⟨hs''.extBut _ _ ?_ (N' p hp).1, (N' p hp).2⟩
    rcases List.mem_cons.mp hp with rfl | hp
    · exact Ne.symm hCD
    · exact offC p hp
theorem SrcW.mk {elt : Expr} {x : Str} {scope : Scope} {cl : List (Str × Addr)} {Q : Value → Shared → Prop} {s₁ : Shared} {r : Addr} {b : Int} {t u v : Tok} {news : List (Addr × Obj)} {items : List Value} {lD : Addr} {cD : Nat} (hh : A.handled = none) (F : Fr h₀ L s₁.heap m) (N : News h₀ L s₁.heap news) (hr : IsRange s₁.heap r 0 b 7 t u v) (hit : (lD, (W.listOf items.toArray cD : Obj)) ∈ news) (hb : 29 ≤ b ∧ b ≤ 37)
    (helt : ∀ (i : Nat) (t : Tok) (I : Addr) (oI : Obj) (C : Addr) (oC : Obj) (D : Addr) (oD : Obj) (m₂ : Str → Option Value) (h : Heap) (tk : Nat) (E' : Value → Shared → Prop) (nw : List (Addr × Obj)), i < ((b + 6) / 7).toNat → NsObj oC m₂ → m₂ x = some (.int (7 * (i : Int)) t) → Fr h₀ L h m → News h₀ L h ((I, oI) :: (C, oC) :: (D, oD) :: (nw ++ news)) →
      wpAny (model prog w) A (eval elt (compEnvC scope cl C env)) (EltW h₀ L m { s₁ with heap := h, toks := tk } ((I, oI) :: (C, oC) :: (D, oD) :: nw) ((items.drop (7 * i)).take 7)) E' { s₁ with heap := h, toks := tk })
    (hfin : ∀ (D : Addr) (as : List Addr) (c : Nat) (nw : List (Addr × Obj)) (h : Heap) (tk : Nat), Fr h₀ L h m → News h₀ L h ((D, W.listOf (as.map Value.ref).toArray c) :: nw) → (∀ p ∈ news, p ∈ nw) → as.length = ((b + 6) / 7).toNat → (∀ j a, as[j]? = some a → ∃ c, (a, W.listOf ((items.drop (7 * j)).take 7).toArray c) ∈ nw) → Q (.ref D) { s₁ with heap := h, toks := tk }) :
    SrcW prog w A h₀ L m env elt x scope cl Q (.ref r) s₁ := by
  have hc : b = 29 ∨ b = 30 ∨ b = 31 ∨ b = 32 ∨ b = 33 ∨ b = 34 ∨ b = 35 ∨ b = 36 ∨ b = 37 := by omega
  have h1 : Builtin.Range.small 0 b 7 = true ∧ Builtin.Range.rangeSize 0 b 7 = (((b + 6) / 7).toNat : Int) ∧ ((b + 6) / 7).toNat ≤ sizeLine := by
    rcases hc with h | h | h | h | h | h | h | h | h <;> (subst h; exact ⟨by decide +kernel, by decide +kernel, by decide +kernel⟩)
  exact ⟨r, b, t, u, v, _, news, fun j => (items.drop (7 * j)).take 7, rfl, hh, F, N, hr, h1.1, h1.2.1, h1.2.2, helt, hfin⟩
theorem slice_week {l : Addr} {news : List (Addr × Obj)} {value slice : Expr} {items : List Value} {c i : Nat} {t t2 : Tok} {Q : Value → Shared → Prop} (F : Fr h₀ L s.heap m) (N : News h₀ L s.heap news) (hm : (l, (W.listOf items.toArray c : Obj)) ∈ news) (hi : 7 * i + 7 ≤ items.length) (hz : items.length ≤ 1000)
    (h : ∀ D h', Fr h₀ L h' m → News h₀ L h' ((D, W.listOf ((items.drop (7 * i)).take 7).toArray 0) :: news) → (∀ p ∈ news, p.1 < D) → Q (.ref D) { s with heap := h' })
    (hs : subscripted slice false (.ref l) (.ref s.heap.objs.size) = operate [.ref s.heap.objs.size, .ref l] (getItem (.ref l) (.ref s.heap.objs.size))) (ht : ∀ r, letTemporaryGo value (.ref l) r = pure ()) :
    wpAny (model prog w) A (subscriptTail value slice (.ref l) (.ref s.heap.objs.size)) Q E { s with heap := s.heap.push { cls := .type "slice", data := .fields #[.int (7 * (i : Int)) t, .int (7 * (i : Int) + 7) t2, .none] } } := by
  refine W.kmk_slice F N ⟨_, (N _ hm).1, rfl, _, rfl⟩ (.int _ _) (.int _ _) (fun D h' F' N' l1 => h D h' F' ?_ l1) hs ht (by rw [List.size_toArray, sizeLine_eq]; omega)
  have e : slicePick items.toArray (some (7 * (i : Int))) (some (7 * (i : Int) + 7)) none = ((items.drop (7 * i)).take 7).toArray := by
    have q := slicePick_run items.toArray (7 * i) (7 * i + 7) (by rw [List.size_toArray]; exact hi) (by omega)
    have e1 : ((7 * i : Nat) : Int) = 7 * (i : Int) := by omega
    have e2 : ((7 * i + 7 : Nat) : Int) = 7 * (i : Int) + 7 := by omega
    rw [e1, e2] at q
    rw [q]
    congr 2
    omega
  rw [← e]
  exact N'
end
section
open PyProof.Rows.LCg
variable {prog : Program} {w : World} {A : Around} {E : Value → Shared → Prop} {R : Result → Shared → Prop} {s : Shared} {h₀ : Heap} {L : Addr} {m : Str → Option Value} {env : Env}
theorem start1 {elt target iter : Expr} {g0 : Comprehension} {scope pos it acc env}
    (h0 : codeAny (model prog w) A (.compLoop (.ListComp elt [g0, ⟨target, iter, [], 0⟩] scope pos) 1 it acc env) R s)
    (h : wpAny (model prog w) A (pyIter it) (fun it' s' => codeAny (model prog w) A (.compLoop (.ListComp elt [g0, ⟨target, iter, [], 0⟩] scope pos) 1 it' acc env) R s')
      (notedBy (model prog w) A env fun x s' => R (.error x) s') s) :
    codeAny (model prog w) A (.compStart (.ListComp elt [g0, ⟨target, iter, [], 0⟩] scope pos) 1 it acc env) R s := by
  refine codeAny_of_tree ?_
  show wpAny _ _ ((compStart (.ListComp elt [g0, ⟨target, iter, [], 0⟩] scope pos) 1 it acc env).onRaise (fun x => do noteFrame x env; standAt theWindowsPlace)) _ _ s
  refine wpAny_notedAt ?_
  unfold compStart
  show wpAny _ _ (ask >>= _) _ _ s
  refine wpAny_bind (wpAny_askSetting (wpAny_ite ?_))
  split
  · first
      | exact wpAny_bind (wpAny_pure (wpAny_pure (And.intro rfl h0)))
      | exact wpAny_pure (And.intro rfl h0)
  · first
      | exact wpAny_bind (wpAny_rule (wpAny_bind (wpAny_standAt (wpAny_bind (wpAny_mono h (fun it' s' h' => wpAny_pure (And.intro rfl h')) fun _ _ x => x)))))
      | (refine wpAny_bind (wpAny_rule ?_); show wpAny _ _ (standAt iter.pos >>= _) _ _ s; exact wpAny_bind (wpAny_standAt (wpAny_bind (wpAny_mono h (fun it' s' h' => wpAny_pure (And.intro rfl h')) fun _ _ x => x))))
theorem turn1 (elt target iter : Expr) (g0 : Comprehension) (scope : Scope) (pos : Pos) (it acc : Value) (env : Env) :
    compTurn (.ListComp elt [g0, ⟨target, iter, [], 0⟩] scope pos) 1 it acc env = (standAt iter.pos >>= fun _ => pyNext it >>= fun r => match r with
      | none => pure (.done .next)
      | some v => letOwnedTupleGo target it v >>= fun _ => assign target env v >>= fun _ =>
        (eval elt env >>= fun x => call (.builtin "list.append") [acc, x] >>= fun _ => pure ()) >>= fun _ =>
          again (.compLoop (.ListComp elt [g0, ⟨target, iter, [], 0⟩] scope pos) 1 it acc env)) := by rfl
theorem loop1 {elt target iter : Expr} {g0 : Comprehension} {scope : Scope} {pos : Pos} {it acc : Value} {env : Env} (I : Nat → Shared → Prop)
    (turn : ∀ n s, I n s → wpAny (model prog w) A (pyNext it) (fun r s₁ => match r with
      | none => R (.ok .next) s₁
      | some v => wpAny (model prog w) A (assign target env v) (fun _ s₂ => wpAny (model prog w) A (eval elt env) (fun x s₃ =>
          wpAny (model prog w) A (call (.builtin "list.append") [acc, x]) (fun _ s₄ => ∃ m, m < n ∧ I m s₄) (notedBy (model prog w) A env fun e s' => R (.error e) s') s₃)
          (notedBy (model prog w) A env fun e s' => R (.error e) s') s₂) (notedBy (model prog w) A env fun e s' => R (.error e) s') s₁) (notedBy (model prog w) A env fun e s' => R (.error e) s') s)
    (n : Nat) (h : I n s) (ht : ∀ v, letOwnedTupleGo target it v = pure () := by intro _; rfl) :
    codeAny (model prog w) A (.compLoop (.ListComp elt [g0, ⟨target, iter, [], 0⟩] scope pos) 1 it acc env) R s := by
  refine codeAny_loop rfl I (fun n s hI => ?_) n h
  show wpAny _ A ((compTurn (.ListComp elt [g0, ⟨target, iter, [], 0⟩] scope pos) 1 it acc env).onRaise (fun x => do noteFrame x env; theTreesLotGoes x)) _ _ s
  refine wpAny_noted ?_
  rw [turn1]
  refine wpAny_bind (wpAny_standAt (wpAny_bind (wpAny_mono (turn n s hI) (fun r s₁ h₁ => ?_) fun _ _ h' => h')))
  cases r with
  | none => exact wpAny_pure h₁
  | some v =>
    refine wpAny_bind (wpAny_of_eq (ht v) ?_)
    exact wpAny_bind (wpAny_mono h₁ (fun _ s₂ h₂ => wpAny_bind (wpAny_bind (wpAny_mono h₂ (fun x s₃ h₃ => wpAny_bind (wpAny_mono h₃
      (fun _ s₄ h₄ => wpAny_pure (wpAny_pure ⟨rfl, h₄⟩)) fun _ _ h' => h')) fun _ _ h' => h'))) fun _ _ h' => h')
theorem turn0 (elt tx ix ty iy : Expr) (scope : Scope) (pos : Pos) (it acc : Value) (env : Env) :
    compTurn (.ListComp elt [⟨tx, ix, [], 0⟩, ⟨ty, iy, [], 0⟩] scope pos) 0 it acc env = (do
      standAt ix.pos
      match ← pyNext it with
      | none => pure (.done .next)
      | some v =>
        letOwnedTupleGo tx it v
        assign tx env v
        let x ← eval iy env
        standAt iy.pos
        let x ← foldedSetIterable iy env x
        let _ ← runOwn (.compStart (.ListComp elt [⟨tx, ix, [], 0⟩, ⟨ty, iy, [], 0⟩] scope pos) 1 (← holding [x] (pyIter x)) acc env) env
        again (.compLoop (.ListComp elt [⟨tx, ix, [], 0⟩, ⟨ty, iy, [], 0⟩] scope pos) 0 it acc env)) := by rfl
theorem loop0 {elt tx ix ty iy : Expr} {scope : Scope} {pos : Pos} {it acc : Value} {env : Env} (I : Nat → Shared → Prop)
    (turn : ∀ n s, I n s → wpAny (model prog w) A (pyNext it) (fun r s₁ => match r with
      | none => R (.ok .next) s₁
      | some v => wpAny (model prog w) A (assign tx env v) (fun _ s₂ => wpAny (model prog w) A (eval iy env) (fun x s₃ =>
          wpAny (model prog w) A (pyIter x) (fun i2 s₄ => codeAny (model prog w) A (.compStart (.ListComp elt [⟨tx, ix, [], 0⟩, ⟨ty, iy, [], 0⟩] scope pos) 1 i2 acc env)
            (fun r s₅ => match r with | .ok _ => ∃ m, m < n ∧ I m s₅ | .error _ => False) s₄) (notedBy (model prog w) A env fun e s' => R (.error e) s') s₃)
          (notedBy (model prog w) A env fun e s' => R (.error e) s') s₂) (notedBy (model prog w) A env fun e s' => R (.error e) s') s₁) (notedBy (model prog w) A env fun e s' => R (.error e) s') s)
    (n : Nat) (h : I n s) (ht : ∀ v, letOwnedTupleGo tx it v = pure () := by intro _; rfl) (hs : ∀ x, foldedSetIterable iy env x = pure x := by intro _; rfl) :
    codeAny (model prog w) A (.compLoop (.ListComp elt [⟨tx, ix, [], 0⟩, ⟨ty, iy, [], 0⟩] scope pos) 0 it acc env) R s := by
  refine codeAny_loop rfl I (fun n s hI => ?_) n h
  show wpAny _ A ((compTurn (.ListComp elt [⟨tx, ix, [], 0⟩, ⟨ty, iy, [], 0⟩] scope pos) 0 it acc env).onRaise (fun x => do noteFrame x env; theTreesLotGoes x)) _ _ s
  refine wpAny_noted ?_
  rw [turn0]
  refine wpAny_bind (wpAny_standAt (wpAny_bind (wpAny_mono (turn n s hI) (fun r s₁ h₁ => ?_) fun _ _ h' => h')))
  cases r with
  | none => exact wpAny_pure h₁
  | some v =>
    refine wpAny_bind (wpAny_of_eq (ht v) ?_)
    refine wpAny_bind (wpAny_mono h₁ (fun _ s₂ h₂ => wpAny_bind (wpAny_mono h₂ (fun x s₃ h₃ => ?_) fun _ _ h' => h')) fun _ _ h' => h')
    refine wpAny_bind (wpAny_standAt (wpAny_bind (wpAny_of_eq (hs x) (wpAny_bind (wpAny_holding (wpAny_mono h₃ (fun i2 s₄ h₄ => ?_) fun _ _ h' => h'))))))
    refine wpAny_bind (wpAny_runOwn (codeAny_mono h₄ fun r s₅ h₅ => ?_))
    cases r with
    | ok f => exact wpAny_pure ⟨rfl, h₅⟩
    | error e => exact h₅.elim
theorem inner_run {g0 : Comprehension} {ty : Str} {pe py : Pos} {iy : Expr} {scope : Scope} {cl : List (Str × Addr)} {pos : Pos} {C D J a : Addr} {vs ys : List Value} {m' : Str → Option Value} (hh : A.handled = none) (hkind : scope.kind = .function) (hy : scope.names.lookup ty = some .local)
    (hd : (ty == ("__debug__" : Str)) = false)
    (hit : s.heap.IsListIter J a 0) (hl : s.heap.IsList a vs.toArray) (hD : s.heap.get? D = some (lst ys)) (hn : s.heap.Ns C m') (hJC : J ≠ C) (hJD : J ≠ D) (haJ : a ≠ J) (haC : a ≠ C) (haD : a ≠ D) (hDC : D ≠ C) (hsz : ys.length + vs.length ≤ sizeLine)
    (hR : ∀ h' tk m'', (∀ b o, b ≠ C → b ≠ D → b ≠ J → s.heap.get? b = some o → h'.get? b = some o) → h'.Ns C m'' → h'.get? D = some (lst (ys ++ vs)) → R (.ok .next) { s with heap := h', toks := tk }) :
    codeAny (model prog w) A (.compStart (.ListComp (.Name ty pe) [g0, ⟨.Name ty py, iy, [], 0⟩] scope pos) 1 (.ref J) (.ref D) (compEnvC scope cl C env)) R s := by
  have loop : codeAny (model prog w) A (.compLoop (.ListComp (.Name ty pe) [g0, ⟨.Name ty py, iy, [], 0⟩] scope pos) 1 (.ref J) (.ref D) (compEnvC scope cl C env)) R s := by
    refine loop1 (fun k s' => ∃ h' tk m'' i, s' = { s with heap := h', toks := tk } ∧ i ≤ vs.length ∧ k = vs.length + 1 - i ∧ h'.IsListIter J a i ∧ h'.IsList a vs.toArray ∧ h'.Ns C m'' ∧ h'.get? D = some (lst (ys ++ vs.take i)) ∧
        (∀ b o, b ≠ C → b ≠ D → b ≠ J → s.heap.get? b = some o → h'.get? b = some o)) ?_ (vs.length + 1)
      ⟨s.heap, s.toks, m', 0, rfl, Nat.zero_le _, rfl, hit, hl, hn, by rw [List.take_zero, List.append_nil]; exact hD, fun _ _ _ _ _ e => e⟩
    rintro k s' ⟨h', tk, m'', i, rfl, hi, rfl, hit', hl', hn', hD', hk⟩
    cases hv : vs[i]? with
    | none =>
      have hle : vs.length ≤ i := by simpa using hv
      have hi' : i = vs.length := by omega
      subst hi'
      refine wpAny_pyNext_list_end hh hit' hl' (by simp) fun h₁ he₁ => ?_
      rw [List.take_length] at hD'
      exact hR h₁ tk m'' (fun b o hbC hbD hbJ e => he₁ b o hbJ (hk b o hbC hbD hbJ e)) (hn'.extBut he₁ (Ne.symm hJC)) (he₁ D _ (Ne.symm hJD) hD')
    | some v =>
      have hlt : i < vs.length := (List.getElem?_eq_some_iff.mp hv).1
      refine wpAny_pyNext_list_item hit' hl' (x := v) (by simpa using hv) fun h₁ hit₁ hs₁ => ?_
      refine wpAny_assign_Name (wpAny_storeName_local (lookup_relabel_local hy) (hn'.sameBut hs₁ (Ne.symm hJC)) (fun h₂ hn₂ hs₂ => ?_) (by simp [compEnvC, relabel, hkind]))
      refine ldVarK (v := v) hn₂ (by simp) ?_ (by simp [compEnvC, relabel, hkind]) (lookup_relabel_local hy) hd
      have hD₂ : h₂.get? D = some (lst (ys ++ vs.take i)) := hs₂.extBut D _ hDC (hs₁.extBut D _ (Ne.symm hJD) hD')
      refine append_at (s := { s with heap := h₂, toks := _ }) hD₂ (fun h₃ hs₃ hD₃ => ?_) (by rw [List.size_toArray, List.length_append, List.length_take]; omega)
      refine ⟨vs.length + 1 - (i + 1), by omega, h₃, _, _, i + 1, rfl, hlt, rfl, ?_, ?_, hn₂.sameBut hs₃ (Ne.symm hDC), ?_, fun b o hbC hbD hbJ e => hs₃.extBut b o hbD (hs₂.extBut b o hbC (hs₁.extBut b o hbJ (hk b o hbC hbD hbJ e)))⟩
      · exact (hit₁.at fun o e => hs₂.extBut J o hJC e).at fun o e => hs₃.extBut J o hJD e
      · exact ((hl'.extBut hs₁.extBut haJ).at fun o e => hs₂.extBut a o haC e).at fun o e => hs₃.extBut a o haD e
      · rw [hD₃, List.take_add_one, hv]
        show some _ = some (lst (ys ++ (vs.take i ++ [v])))
        rw [← List.append_assoc, ← lst_snoc]
  exact start1 loop (wpAny_pyIter_listiter hit loop)
theorem outer_run {tx ty : Str} {px pe py pt : Pos} {ix : Expr} {scope : Scope} {cl : List (Str × Addr)} {pos : Pos} {C D I ax : Addr} {as : List Addr} {wk : Nat → List Value} {m' : Str → Option Value} (hh : A.handled = none) (hkind : scope.kind = .function)
    (hx : scope.names.lookup tx = some .local) (hy : scope.names.lookup ty = some .local) (hdx : (tx == ("__debug__" : Str)) = false) (hdy : (ty == ("__debug__" : Str)) = false)
    (hit : s.heap.IsListIter I ax 0) (hl : s.heap.IsList ax (as.map Value.ref).toArray) (hin : ∀ j a, as[j]? = some a → s.heap.IsList a (wk j).toArray ∧ a ≠ C ∧ a ≠ D ∧ a ≠ I) (hD : s.heap.get? D = some (lst [])) (hn : s.heap.Ns C m')
    (hIC : I ≠ C) (hID : I ≠ D) (haI : ax ≠ I) (haC : ax ≠ C) (haD : ax ≠ D) (hDC : D ≠ C) (hsz : ∀ i, ((List.range i).flatMap wk).length ≤ 7 * i) (h7 : ∀ i, (wk i).length ≤ 7) (hlen : as.length ≤ 1000)
    (hR : ∀ h' tk m'', (∀ b o, b ≠ C → b ≠ D → b ≠ I → s.heap.get? b = some o → h'.get? b = some o) → h'.Ns C m'' → h'.get? D = some (lst ((List.range as.length).flatMap wk)) → R (.ok .next) { s with heap := h', toks := tk }) :
    codeAny (model prog w) A (.compLoop (.ListComp (.Name ty pe) [⟨.Name tx px, ix, [], 0⟩, ⟨.Name ty py, .Name tx pt, [], 0⟩] scope pos) 0 (.ref I) (.ref D) (compEnvC scope cl C env)) R s := by
  refine loop0 (fun k s' => ∃ h' tk m'' i, s' = { s with heap := h', toks := tk } ∧ i ≤ as.length ∧ k = as.length + 1 - i ∧ h'.IsListIter I ax i ∧ h'.IsList ax (as.map Value.ref).toArray ∧ h'.Ns C m'' ∧ h'.get? D = some (lst ((List.range i).flatMap wk)) ∧
      (∀ b o, b ≠ C → b ≠ D → b ≠ I → s.heap.get? b = some o → h'.get? b = some o)) ?_ (as.length + 1)
    ⟨s.heap, s.toks, m', 0, rfl, Nat.zero_le _, rfl, hit, hl, hn, hD, fun _ _ _ _ _ e => e⟩
  rintro k s' ⟨h', tk, m'', i, rfl, hi, rfl, hit', hl', hn', hD', hk⟩
  cases hv : as[i]? with
  | none =>
    have hle : as.length ≤ i := by simpa using hv
    have hi' : i = as.length := by omega
    subst hi'
    refine wpAny_pyNext_list_end hh hit' hl' (by simp) fun h₁ he₁ => ?_
    exact hR h₁ tk m'' (fun b o hbC hbD hbI e => he₁ b o hbI (hk b o hbC hbD hbI e)) (hn'.extBut he₁ (Ne.symm hIC)) (he₁ D _ (Ne.symm hID) hD')
  | some a =>
    have hlt : i < as.length := (List.getElem?_eq_some_iff.mp hv).1
    obtain ⟨hla, haC', haD', haI'⟩ := hin i a hv
    refine wpAny_pyNext_list_item hit' hl' (x := .ref a) (by simp [hv]) fun h₁ hit₁ hs₁ => ?_
    refine wpAny_assign_Name (wpAny_storeName_local (lookup_relabel_local hx) (hn'.sameBut hs₁ (Ne.symm hIC)) (fun h₂ hn₂ hs₂ => ?_) (by simp [compEnvC, relabel, hkind]))
    refine ldVarK (v := .ref a) hn₂ (by simp) ?_ (by simp [compEnvC, relabel, hkind]) (lookup_relabel_local hx) hdx
    have up₂ : ∀ b o, b ≠ C → b ≠ I → h'.get? b = some o → h₂.get? b = some o := fun b o hbC hbI e => hs₂.extBut b o hbC (hs₁.extBut b o hbI e)
    have hla₂ : h₂.IsList a (wk i).toArray := hla.at fun o e => up₂ a o haC' haI' (hk a o haC' haD' haI' e)
    have hD₂ : h₂.get? D = some (lst ((List.range i).flatMap wk)) := up₂ D _ hDC (Ne.symm hID) hD'
    have hit₂ : h₂.IsListIter I ax (i + 1) := hit₁.at fun o e => hs₂.extBut I o hIC e
    have hl₂ : h₂.IsList ax (as.map Value.ref).toArray := hl'.at fun o e => up₂ ax o haC haI e
    refine wpAny_pyIter_list (s := { s with heap := h₂, toks := _ }) hla₂ ?_
    have old : ∀ b o, h₂.get? b = some o → (h₂.push { cls := .type "list_iterator", data := .fields #[.ref a, .int 0 0] }).get? b = some o := fun b o e => Heap.get?_push_of_some _ e
    have hJ : ∀ b o, h₂.get? b = some o → b ≠ h₂.objs.size := fun b o e => Nat.ne_of_lt (Heap.lt_size e)
    obtain ⟨oC, hoC, _⟩ := ns_obj hn₂
    obtain ⟨oa, hoa, _⟩ := id hla₂
    obtain ⟨oI, hoI, _⟩ := id hit₂
    obtain ⟨ol, hol, _⟩ := id hl₂
    refine inner_run (s := { s with heap := h₂.push { cls := .type "list_iterator", data := .fields #[.ref a, .int 0 0] }, toks := _ }) (J := h₂.objs.size) (a := a) (vs := wk i) (ys := (List.range i).flatMap wk) hh hkind hy hdy
      ⟨_, Heap.get?_push_size _ rfl, rfl, rfl⟩ (hla₂.at fun o e => old a o e) (old D _ hD₂) (hn₂.at' fun o e => old C o e) (Ne.symm (hJ C _ hoC)) (Ne.symm (hJ D _ hD₂)) (hJ a _ hoa) haC' haD' hDC ?_ ?_
    · have q1 := hsz i
      have q2 := h7 i
      rw [sizeLine_eq]; omega
    · intro h₃ tk₃ m₃ hk₃ hn₃ hD₃
      have up₃ : ∀ b o, b ≠ C → b ≠ D → h₂.get? b = some o → h₃.get? b = some o := fun b o hbC hbD e => hk₃ b o hbC hbD (hJ b o e) (old b o e)
      refine ⟨as.length + 1 - (i + 1), by omega, h₃, tk₃, m₃, i + 1, rfl, hlt, rfl, hit₂.at fun o e => up₃ I o hIC hID e, hl₂.at fun o e => up₃ ax o haC haD e, hn₃, ?_, fun b o hbC hbD hbI e => up₃ b o hbC hbD (up₂ b o hbC hbI (hk b o hbC hbD hbI e))⟩
      rw [hD₃, List.range_succ, List.flatMap_append]
      simp
end
section
open PyProof.Rows.LCg
variable {prog : Program} {w : World} {A : Around} {E : Value → Shared → Prop} {R : Result → Shared → Prop} {s : Shared} {h₀ : Heap} {L : Addr} {m : Str → Option Value} {env : Env}
theorem start0 {elt target iter : Expr} {rest : List Comprehension} {scope pos it acc env}
    (h0 : codeAny (model prog w) A (.compLoop (.ListComp elt (⟨target, iter, [], 0⟩ :: rest) scope pos) 0 it acc env) R s)
    (h : wpAny (model prog w) A (pyIter it) (fun it' s' => codeAny (model prog w) A (.compLoop (.ListComp elt (⟨target, iter, [], 0⟩ :: rest) scope pos) 0 it' acc env) R s')
      (notedBy (model prog w) A env fun x s' => R (.error x) s') s) :
    codeAny (model prog w) A (.compStart (.ListComp elt (⟨target, iter, [], 0⟩ :: rest) scope pos) 0 it acc env) R s := codeAny_compStart_list h0 h
theorem block_F {tx ty : Str} {px pe py pt : Pos} {ix : Expr} {scope : Scope} {cl : List (Str × Addr)} {pos : Pos} {s₂ : Shared} {I ax : Addr} {as : List Addr} {c : Nat} {wk : Nat → List Value} {news : List (Addr × Obj)} {RR : Value → Addr → Result → Shared → Prop}
    (hh : A.handled = none) (hcell : ∀ y ∈ scope.names, y.2 ≠ .cell) (hkind : scope.kind = .function) (hx : scope.names.lookup tx = some .local) (hy : scope.names.lookup ty = some .local) (hdx : (tx == ("__debug__" : Str)) = false) (hdy : (ty == ("__debug__" : Str)) = false)
    (hit : s₂.heap.IsListIter I ax 0) (F : Fr h₀ L s₂.heap m) (N : News h₀ L s₂.heap news) (hIL : L ≠ I) (hI₀ : h₀.get? I = none) (off : ∀ p ∈ news, p.1 ≠ I)
    (hm : (ax, (W.listOf (as.map Value.ref).toArray c : Obj)) ∈ news) (hin : ∀ j a, as[j]? = some a → ∃ c, (a, (W.listOf (wk j).toArray c : Obj)) ∈ news) (h7 : ∀ i, (wk i).length ≤ 7) (hlen : as.length ≤ 1000)
    (hRR : ∀ D C h tk m', Fr h₀ L h m → News h₀ L h ((D, lst ((List.range as.length).flatMap wk)) :: news) → (∀ p ∈ news, p.1 < D) → h.Ns C m' → h₀.get? C = none → h₀.get? D = none → C ≠ L → D ≠ L → C ≠ D → (∀ p ∈ news, p.1 ≠ C) → RR (.ref D) C (.ok .next) { s₂ with heap := h, toks := tk }) :
    wpAny (model prog w) A (newList []) (fun acc s₃ => wpAny (model prog w) A (newFunctionEnv scope env.globals cl [] env.qual none .none (some env)) (fun cenv s₄ =>
      codeAny (model prog w) A (.compStart (.ListComp (.Name ty pe) [⟨.Name tx px, ix, [], 0⟩, ⟨.Name ty py, .Name tx pt, [], 0⟩] scope pos) 0 (.ref I) acc { cenv with scope := relabel scope env }) (RR acc cenv.locals) s₄) E s₃) E s₂ := by
  refine wpAny_newObj_type (wpAny_newFunctionEnv hcell (by intro y hy; simp at hy) (fun h₁ hns₁ hsb₁ => ?_) hkind)
  dsimp only at hns₁ hsb₁ ⊢
  generalize hH2 : s₂.heap.push { cls := .type "list", dict := none, data := .seq ([] : List Value).toArray } = H2 at hns₁ hsb₁ ⊢
  have hC : H2.objs.size = s₂.heap.objs.size + 1 := by rw [← hH2, Heap.size_push]
  have hDC : s₂.heap.objs.size ≠ H2.objs.size := by rw [hC]; exact Nat.ne_of_lt (Nat.lt_succ_self _)
  have below : ∀ b, b < s₂.heap.objs.size → b ≠ H2.objs.size ∧ b ≠ s₂.heap.objs.size := fun b hb => ⟨by rw [hC]; exact Nat.ne_of_lt (Nat.lt_succ_of_lt hb), Nat.ne_of_lt hb⟩
  have old : ∀ b o, s₂.heap.get? b = some o → h₁.get? b = some o := fun b o e => hsb₁.extBut b o (below b (Heap.lt_size e)).1 (Heap.get?_push_of_some _ (hH2 ▸ Heap.get?_push_of_some _ e))
  have hacc : h₁.get? s₂.heap.objs.size = some (lst []) := hsb₁.extBut _ _ hDC (Heap.get?_push_of_some _ (hH2 ▸ Heap.get?_push_size _ rfl))
  have fresh : ∀ a, s₂.heap.objs.size ≤ a → s₂.heap.get? a = none := fun a ha => by
    cases e : s₂.heap.get? a with
    | none => rfl
    | some o' => exact absurd (Heap.lt_size e) (Nat.not_lt.mpr ha)
  have fresh₀ : ∀ a, s₂.heap.objs.size ≤ a → h₀.get? a = none := fun a ha => by
    cases e : h₀.get? a with
    | none => rfl
    | some o' => have := F.keep a o' e; rw [fresh a ha] at this; cases this
  have hD₀ : h₀.get? s₂.heap.objs.size = none := fresh₀ _ (Nat.le_refl _)
  have hC₀ : h₀.get? H2.objs.size = none := fresh₀ _ (by rw [hC]; exact Nat.le_succ _)
  have hLlt : L < s₂.heap.objs.size := F.ns.lt
  have hDL : s₂.heap.objs.size ≠ L := Ne.symm (below L hLlt).2
  have hCL : H2.objs.size ≠ L := Ne.symm (below L hLlt).1
  obtain ⟨oI, hoI, _⟩ := id hit
  have hIlt := Heap.lt_size hoI
  have nlt : ∀ p ∈ news, p.1 < s₂.heap.objs.size := fun p hp => Heap.lt_size (N p hp).1
  have axlt := nlt _ hm
  have loop : ∀ s₃ : Shared, s₃ = { s₂ with heap := h₁, toks := s₂.toks + ([] : List (Str × Value)).length } →
      codeAny (model prog w) A (.compLoop (.ListComp (.Name ty pe) [⟨.Name tx px, ix, [], 0⟩, ⟨.Name ty py, .Name tx pt, [], 0⟩] scope pos) 0 (.ref I) (.ref s₂.heap.objs.size) (compEnvC scope cl H2.objs.size env))
        (RR (.ref s₂.heap.objs.size) H2.objs.size) s₃ := by
    rintro s₃ rfl
    refine outer_run (ax := ax) (as := as) (wk := wk) hh hkind hx hy hdx hdy (hit.at fun o e => old I o e) ⟨_, old _ _ (N _ hm).1, rfl, _, rfl⟩ (fun j a hj => ?_) hacc hns₁ (below I hIlt).1 (below I hIlt).2 (off _ hm) (below ax axlt).1 (below ax axlt).2 hDC (fun i => ?_) h7 hlen ?_
    · obtain ⟨c', hc'⟩ := hin j a hj
      exact ⟨⟨_, old _ _ (N _ hc').1, rfl, _, rfl⟩, (below a (nlt _ hc')).1, (below a (nlt _ hc')).2, off _ hc'⟩
    · induction i with
      | zero => simp
      | succ i ih =>
        rw [List.range_succ, List.flatMap_append, List.length_append]
        have q7 := h7 i
        have e : ([i].flatMap wk).length = (wk i).length := by rw [List.flatMap_cons, List.flatMap_nil, List.append_nil]
        omega
    · intro h' tk m'' hk hn' hD'
      have up : ∀ b o, b ≠ I → s₂.heap.get? b = some o → h'.get? b = some o := fun b o hb e => hk b o (below b (Heap.lt_size e)).1 (below b (Heap.lt_size e)).2 hb (old b o e)
      refine hRR _ _ h' tk m'' ⟨F.ns.at' fun o e => up L o hIL e, fun b o e => up b o (fun q => by rw [q, hI₀] at e; cases e) (F.keep b o e), F.above⟩ (fun p hp => ?_) nlt hn' hC₀ hD₀ hCL hDL (Ne.symm hDC) (fun p hp => (below _ (nlt p hp)).1)
      rcases List.mem_cons.mp hp with rfl | hp
      · exact ⟨hD', hDL, hD₀⟩
      · exact ⟨up _ _ (off p hp) (N p hp).1, (N p hp).2⟩
  exact start0 (loop _ rfl) (wpAny_pyIter_listiter (hit.at fun o e => old I o e) (loop _ rfl))
def SrcF (A : Around) (h₀ : Heap) (L : Addr) (m : Str → Option Value) (Fin : Addr → List Value → List (Addr × Obj) → Shared → Prop) (xv : Value) (s₁ : Shared) : Prop :=
  ∃ (ax : Addr) (as : List Addr) (c : Nat) (wk : Nat → List Value) (news : List (Addr × Obj)), xv = .ref ax ∧ A.handled = none ∧ Fr h₀ L s₁.heap m ∧ News h₀ L s₁.heap news ∧ (ax, (W.listOf (as.map Value.ref).toArray c : Obj)) ∈ news ∧
    (∀ j a, as[j]? = some a → ∃ c, (a, (W.listOf (wk j).toArray c : Obj)) ∈ news) ∧ (∀ i, (wk i).length ≤ 7) ∧ as.length ≤ 1000 ∧
    (∀ D, (∀ p ∈ news, p.1 < D) → Fin D ((List.range as.length).flatMap wk) news s₁)
theorem SrcF.mk {Fin : Addr → List Value → List (Addr × Obj) → Shared → Prop} {s₁ : Shared} {ax : Addr} {as : List Addr} {c : Nat} {wk : Nat → List Value} {news : List (Addr × Obj)} (hh : A.handled = none) (F : Fr h₀ L s₁.heap m) (N : News h₀ L s₁.heap news) (hm : (ax, (W.listOf (as.map Value.ref).toArray c : Obj)) ∈ news)
    (hin : ∀ j a, as[j]? = some a → ∃ c, (a, (W.listOf (wk j).toArray c : Obj)) ∈ news) (h7 : ∀ i, (wk i).length ≤ 7) (hlen : as.length ≤ 1000) (h : ∀ D, (∀ p ∈ news, p.1 < D) → Fin D ((List.range as.length).flatMap wk) news s₁) :
    SrcF A h₀ L m Fin (.ref ax) s₁ := ⟨ax, as, c, wk, news, rfl, hh, F, N, hm, hin, h7, hlen, h⟩
def FinFE (h₀ : Heap) (L : Addr) (m : Str → Option Value) (Q : Value → Shared → Prop) (D : Addr) (ys : List Value) (news : List (Addr × Obj)) (s : Shared) : Prop :=
  ∀ h tk, Fr h₀ L h m → News h₀ L h ((D, W.listOf ys.toArray ys.length) :: news) → Q (.ref D) { s with heap := h, toks := tk }
def FinFA (h₀ : Heap) (L : Addr) (m : Str → Option Value) (y : Str) (Q : Flow → Shared → Prop) (D : Addr) (ys : List Value) (news : List (Addr × Obj)) (s : Shared) : Prop :=
  ∀ h tk, Fr h₀ L h (fun z => if z = y then some (.ref D) else m z) → News h₀ L h ((D, W.listOf ys.toArray ys.length) :: news) → Q .next { s with heap := h, toks := tk }
theorem ListComp_F {tx ty : Str} {px pe py pt : Pos} {ix : Expr} {scope : Scope} {cl : List (Str × Addr)} {pos : Pos} {Q : Value → Shared → Prop} (_F₀ : Fr h₀ L s.heap m)
    (hclos : closureFor scope env = pure cl) (hcell : ∀ y ∈ scope.names, y.2 ≠ .cell) (hkind : scope.kind = .function)
    (hnames : ∀ y ∈ scope.names, y.2 = .local → scope.names.lookup y.1 = some .local) (hx : scope.names.lookup tx = some .local) (hy : scope.names.lookup ty = some .local) (hdx : (tx == ("__debug__" : Str)) = false) (hdy : (ty == ("__debug__" : Str)) = false)
    (h : wpAny (model prog w) A (eval ix env) (SrcF A h₀ L m (FinFE h₀ L m Q)) E s)
    (hs : ∀ x, foldedSetIterable ix env x = pure x := by intro _; rfl) :
    wpAny (model prog w) A (eval (.ListComp (.Name ty pe) [⟨.Name tx px, ix, [], 0⟩, ⟨.Name ty py, .Name tx pt, [], 0⟩] scope pos) env) Q E s := by
  rw [eval_ListComp]
  refine wpAny_comprehension_free (use := none) rfl hs hclos hkind hnames (wpAny_mono h (fun xv s₁ h₁ => ?_) fun _ _ e => e)
  obtain ⟨ax, as, c, wk, news, rfl, hh, F, N, hm, hin, h7, hlen, fin⟩ := h₁
  have hl : s₁.heap.IsList ax (as.map Value.ref).toArray := ⟨_, (N _ hm).1, rfl, _, rfl⟩
  refine wpAny_pyIter_list hl ?_
  have up : ∀ b o, s₁.heap.get? b = some o → (s₁.heap.push { cls := .type "list_iterator", data := .fields #[.ref ax, .int 0 0] }).get? b = some o := fun b o e => Heap.get?_push_of_some _ e
  refine block_F (ax := ax) (as := as) (wk := wk) hh hcell hkind hx hy hdx hdy ⟨_, Heap.get?_push_size _ rfl, rfl, rfl⟩ (F.keeps up) (N.grown up) (Nat.ne_of_lt F.ns.lt) (next_is_new F) (fun p hp => Nat.ne_of_lt (Heap.lt_size (N p hp).1)) hm hin h7 hlen ?_
  intro D C hh' tk m' F' N' hlt hn hC₀ hD₀ hCL hDL hCD offC
  refine ⟨m', hn, fun h'' hs'' => fin D hlt h'' tk (F'.change hs'' hCL hC₀) (fun p hp => ?_)⟩
  refine ⟨hs''.extBut _ _ ?_ (N' p hp).1, (N' p hp).2⟩
  rcases List.mem_cons.mp hp with rfl | hp
  · exact Ne.symm hCD
  · exact offC p hp
theorem Assign_ListComp_F {tx ty yy : Str} {px pe py pt pyy : Pos} {ix : Expr} {scope : Scope} {cl : List (Str × Addr)} {pos spos : Pos} {Q : Flow → Shared → Prop} (_F₀ : Fr h₀ L s.heap m) (hLe : env.locals = L)
    (hsw : swapsWith (.ListComp (.Name ty pe) [⟨.Name tx px, ix, [], 0⟩, ⟨.Name ty py, .Name tx pt, [], 0⟩] scope pos) (some (.Name yy pyy)) spos.line env = pure true)
    (hclos : closureFor scope env = pure cl) (hcell : ∀ y ∈ scope.names, y.2 ≠ .cell) (hkind : scope.kind = .function)
    (hnames : ∀ y ∈ scope.names, y.2 = .local → scope.names.lookup y.1 = some .local) (hx : scope.names.lookup tx = some .local) (hy : scope.names.lookup ty = some .local) (hdx : (tx == ("__debug__" : Str)) = false) (hdy : (ty == ("__debug__" : Str)) = false)
    (hyy : env.kindOf yy = some .local) (hp : (env.scope.kind == .class || (env.scope.kind == .module && env.locals != env.globals)) = false)
    (h : wpAny (model prog w) A (eval ix env) (SrcF A h₀ L m (FinFA h₀ L m yy Q)) E s)
    (hs : ∀ x, foldedSetIterable ix env x = pure x := by intro _; rfl) :
    wpAny (model prog w) A (exec (.Assign [.Name yy pyy] (.ListComp (.Name ty pe) [⟨.Name tx px, ix, [], 0⟩, ⟨.Name ty py, .Name tx pt, [], 0⟩] scope pos) spos) env) Q E s := by
  subst hLe
  rw [exec_Assign_Name_used _ _ _ _ hsw]
  refine wpAny_bind (wpAny_standAt (wpAny_bind ?_))
  show wpAny _ A (do let _ ← comprehension (.ListComp (.Name ty pe) [⟨.Name tx px, ix, [], 0⟩, ⟨.Name ty py, .Name tx pt, [], 0⟩] scope pos) scope env _ (newList []) false (eval ix env) (some (assign (.Name yy pyy) env))) _ _ s
  refine wpAny_bind (wpAny_mono (wpAny_comprehension_free (use := some (assign (.Name yy pyy) env)) (Q := fun _ s' => Q .next s') rfl hs hclos hkind hnames
    (wpAny_mono h (fun xv s₁ h₁ => ?_) fun _ _ e => e)) (fun _ s' hq => wpAny_pure (wpAny_pure hq)) fun _ _ e => e)
  obtain ⟨ax, as, c, wk, news, rfl, hh, F, N, hm, hin, h7, hlen, fin⟩ := h₁
  have hl : s₁.heap.IsList ax (as.map Value.ref).toArray := ⟨_, (N _ hm).1, rfl, _, rfl⟩
  refine wpAny_pyIter_list hl ?_
  have up : ∀ b o, s₁.heap.get? b = some o → (s₁.heap.push { cls := .type "list_iterator", data := .fields #[.ref ax, .int 0 0] }).get? b = some o := fun b o e => Heap.get?_push_of_some _ e
  refine block_F (ax := ax) (as := as) (wk := wk) hh hcell hkind hx hy hdx hdy ⟨_, Heap.get?_push_size _ rfl, rfl, rfl⟩ (F.keeps up) (N.grown up) (Nat.ne_of_lt F.ns.lt) (next_is_new F) (fun p hp => Nat.ne_of_lt (Heap.lt_size (N p hp).1)) hm hin h7 hlen ?_
  intro D C hh' tk m' F' N' hlt hn hC₀ hD₀ hCL hDL hCD offC
  show wpAny _ A (assign (.Name yy pyy) env (.ref D)) _ _ _
  refine wpAny_assign_Name (wpAny_storeName_local hyy F'.ns (fun h₂ hn₂ hs₂ => ?_) hp)
  have hL₀ : h₀.get? env.locals = none := Heap.get?_none_of_le F'.above
  have F₂ : Fr h₀ env.locals h₂ (fun z => if z = yy then some (.ref D) else m z) := ⟨hn₂, fun b o e => hs₂.extBut b o (fun q => by rw [q, hL₀] at e; cases e) (F'.keep b o e), F'.above⟩
  refine ⟨m', hn.sameBut hs₂ hCL, fun h'' hs'' => fin D hlt h'' _ (F₂.change hs'' hCL hC₀) (fun p hp => ?_)⟩
  have z : h₂.get? p.1 = some p.2 := hs₂.extBut _ _ (N' p hp).2.1 (N' p hp).1
  refine ⟨hs''.extBut _ _ ?_ z, (N' p hp).2⟩
  rcases List.mem_cons.mp hp with rfl | hp
  · exact Ne.symm hCD
  · exact offC p hp
end
/-- a list of nothings and of ints -/
inductive Shows : List Value → List (Option Int) → Prop
  | nil : Shows [] []
  | no {vs ps} : Shows vs ps → Shows (.none :: vs) (none :: ps)
  | num {vs ps} (k : Int) (t : Tok) : Shows vs ps → Shows (.int k t :: vs) (some k :: ps)
theorem Shows.append : ∀ {a : List Value} {p : List (Option Int)} {b : List Value} {q : List (Option Int)}, Shows a p → Shows b q → Shows (a ++ b) (p ++ q)
  | _, _, _, _, .nil, h => h
  | _, _, _, _, .no g, h => .no (g.append h)
  | _, _, _, _, .num k t g, h => .num k t (g.append h)
theorem Shows.nos : ∀ n : Nat, Shows (List.replicate n .none) (List.replicate n none)
  | 0 => .nil
  | n + 1 => .no (Shows.nos n)
theorem Shows.ints : ∀ {vs : List Value} {ns : List Int}, IntsAre vs ns → Shows vs (ns.map some)
  | _, _, .nil => .nil
  | _, _, .cons k t h => .num k t (Shows.ints h)
theorem Shows.length : ∀ {a : List Value} {p : List (Option Int)}, Shows a p → a.length = p.length
  | _, _, .nil => rfl
  | _, _, .no g => by rw [List.length_cons, List.length_cons, g.length]
  | _, _, .num _ _ g => by rw [List.length_cons, List.length_cons, g.length]
theorem Shows.take : ∀ {a : List Value} {p : List (Option Int)} (n : Nat), Shows a p → Shows (a.take n) (p.take n)
  | _, _, 0, _ => by rw [List.take_zero, List.take_zero]; exact .nil
  | _, _, _ + 1, .nil => .nil
  | _, _, n + 1, .no g => .no (g.take n)
  | _, _, n + 1, .num k t g => .num k t (g.take n)
def pat (e n k : Nat) : List (Option Int) := List.replicate e none ++ (rangeKs 1 n).map some ++ List.replicate k none
theorem pat_len (e n k : Nat) : (pat e n k).length = e + n + k := by
  unfold pat; simp only [List.length_append, List.length_replicate, List.length_map, rangeKs_length]
theorem pat_take (e n k c : Nat) (h1 : e + n ≤ c) (h2 : c ≤ e + n + k) : (pat e n k).take c = pat e n (c - (e + n)) := by
  unfold pat
  rw [List.take_append]
  have l : (List.replicate e (none : Option Int) ++ (rangeKs 1 n).map some).length = e + n := by simp only [List.length_append, List.length_replicate, List.length_map, rangeKs_length]
  rw [List.take_of_length_le (by omega), l, List.take_replicate]
  congr 2
  omega
theorem weeks_flat {α : Type} (l : List α) : ∀ k : Nat, (List.range k).flatMap (fun j => (l.drop (7 * j)).take 7) = l.take (7 * k)
  | 0 => by simp
  | k + 1 => by
    rw [List.range_succ, List.flatMap_append, weeks_flat l k, List.flatMap_cons, List.flatMap_nil, List.append_nil]
    have : 7 * (k + 1) = 7 * k + 7 := by omega
    rw [this, List.take_add]
theorem Shows.eqAt {A : Around} {s : Shared} : ∀ {a : List Value} {p : List (Option Int)} {b : List Value}, Shows a p → Shows b p → ∀ j (h1 : j < a.length) (h2 : j < b.length), PySem.SeqAt.EqAt A s a[j] b[j] true
  | _, _, _, .nil, _, j, h1, _ => absurd h1 (Nat.not_lt_zero j)
  | _, _, _, .no g, .no g', 0, _, _ => PySem.SeqAt.EqAt.same _
  | _, _, _, .no g, .no g', j + 1, h1, h2 => g.eqAt g' j (Nat.lt_of_succ_lt_succ h1) (Nat.lt_of_succ_lt_succ h2)
  | _, _, _, .num k t g, .num _ t' g', 0, _, _ => by
    have q := (MeetsSeq.EqGives.int k k t t').at A s
    rw [beq_self_eq_true] at q
    exact q
  | _, _, _, .num k t g, .num _ t' g', j + 1, h1, h2 => g.eqAt g' j (Nat.lt_of_succ_lt_succ h1) (Nat.lt_of_succ_lt_succ h2)
theorem eq_shows {prog : Program} {w : World} {A : Around} {E : Value → Shared → Prop} {s : Shared} {h₀ : Heap} {L : Addr} {news : List (Addr × Obj)} {a b : Addr} {xs ys : List Value} {p : List (Option Int)} {c c' : Nat} {Q : Value → Shared → Prop} (N : News h₀ L s.heap news) (h1 : (a, (W.listOf xs.toArray c : Obj)) ∈ news) (h2 : (b, (W.listOf ys.toArray c' : Obj)) ∈ news) (hx : Shows xs p) (hy : Shows ys p) (hu : A.units < cLine) (h : Q (.bool true) s) :
    wpAny (model prog w) A (compareOp .Eq (.ref a) (.ref b)) Q E s := by
  refine PySem.SeqAt.eq_listAt (items := xs.toArray) (items2 := ys.toArray) (e := fun _ => true) ⟨_, (N _ h1).1, rfl, _, rfl⟩ ⟨_, (N _ h2).1, rfl, _, rfl⟩ (by rw [List.size_toArray, List.size_toArray, hx.length, hy.length]) hu (fun j g1 g2 => ?_) ?_
  · exact hx.eqAt hy j (by simpa using g1) (by simpa using g2)
  · have e : ((List.range xs.toArray.size).all fun _ => true) = true := by rw [List.all_eq_true]; intros; rfl
    rw [e]; exact h
/-- what monthcalendarhelper makes: weeks cut out of a list of nothings and of days -/
abbrev RetW (e n : Int) (h₀ : Heap) (L : Addr) (m : Str → Option Value) (news : List (Addr × Obj)) (s : Shared) (Q : Value → Shared → Prop) : Prop :=
  ∀ (D : Addr) (as : List Addr) (c : Nat) (nw : List (Addr × Obj)) (days : List Value) (h' : Heap) (tk' : Nat), Fr h₀ L h' m → News h₀ L h' ((D, W.listOf (as.map Value.ref).toArray c) :: nw) → (∀ p ∈ news, p ∈ nw) → as.length = ((e + n + 6) / 7).toNat →
    (∀ j a, as[j]? = some a → ∃ c, (a, W.listOf ((days.drop (7 * j)).take 7).toArray c) ∈ nw) → Shows days (pat e.toNat n.toNat 7) → Q (.ref D) { s with heap := h', toks := tk' }
theorem endW {e n : Int} {h₀ h' : Heap} {L : Addr} {m : Str → Option Value} {news nw lst : List (Addr × Obj)} {s : Shared} {Q : Value → Shared → Prop} {tk' : Nat} {D : Addr} {as : List Addr} {c : Nat} {days : List Value} (hret : RetW e n h₀ L m news s Q) (F : Fr h₀ L h' m) (N : News h₀ L h' ((D, W.listOf (as.map Value.ref).toArray c) :: nw)) (hl : ∀ p ∈ lst, p ∈ nw) (hn : ∀ p ∈ news, p ∈ lst)
    (ha : as.length = ((e + n + 6) / 7).toNat) (hw : ∀ j a, as[j]? = some a → ∃ c, (a, W.listOf ((days.drop (7 * j)).take 7).toArray c) ∈ nw) (hs : Shows days (pat e.toNat n.toNat 7)) : Q (.ref D) { s with heap := h', toks := tk' } :=
  hret D as c nw days h' tk' F N (fun p hp => hl p (hn p hp)) ha hw hs
local macro_rules | `(tactic| k_all) => `(tactic| exact below_ne (by assumption))
local macro_rules | `(tactic| k_mem) => `(tactic| (refine mem3R ?_; k_mem))
section
variable {w : World} {p : Program} {loose : List Str} {mean : ExcName → Option Value} {mg mb : Str → Option Value}

set_option maxHeartbeats 8000000 in
theorem c_helper (news : List (Addr × Obj)) (sw ml : Int) (ts tm : Tok) (hs : 0 ≤ sw ∧ sw ≤ 6) (hm : 29 ≤ ml ∧ ml ≤ 31) : Cl w p loose mean mg mb 4 33 news [.int sw ts, .int ml tm] (RetW ((sw + 1) % 7) ml) := by
  intro dp un gd cn cs a ccd cl outer A₀ base h₀ L m s Q E B F X N T hk hd hu hret
  refine wpAny_call ?_
  k_dflt (refine' code_defC ?k1 ?k2 ?k3 ?k4 ?k5 ?kA ?kF ?kK ?k6 ?k7 ?k8 ?k9 ?kB ?kD ?_ ?c2 ?c3 ?c4; (case kA => exact rfl); (case kF => exact rfl); (case kK => assumption); (case k1 => k_asm); (case k2 => k_asm); (case k3 => k_asm); (case k4 => k_asm); (case k5 => k_asm); (case k6 => k_is); (case k7 => k_is); (case k8 => ktr_room); (case k9 => exact BindsTo.of_eq rfl); (case kB => exact rfl); (case kD => decide +kernel); (case c2 => exact rfl); (case c3 => exact rfl); (case c4 => exact rfl); k_whole; intro g' L' h' tk' cells' FG' F' N' Y' B' X' T' l1; (try k_lt l1); k_cells Y'; (try simp only [List.cons_append, List.nil_append] at N'); (try dsimp only); (try k_lift B'); (try k_fold))
  (repeat' (first
      | (with_reducible ((with_reducible show wpAny _ _ (subscriptTail _ (PySem.Expr.Slice _ _ none _) (Value.ref _) (Value.ref _)) _ _ _); (k_here; k_dflt (refine' slice_week ?F ?N ?m ?i ?z ?_ ?s ?t; (case F => k_asm); (case N => k_asm); (case m => k_mem); (case i => ((try (have e9 := IntsAre.length (by assumption); simp only [rangeKs_length] at e9)); (try simp only [List.length_append, List.length_replicate, List.length_cons, List.length_nil]); law_clear; (try law_fm); omega)); (case z => ((try (have e9 := IntsAre.length (by assumption); simp only [rangeKs_length] at e9)); (try simp only [List.length_append, List.length_replicate, List.length_cons, List.length_nil]); law_clear; (try law_fm); omega)); (case s => with_unfolding_all rfl); (case t => kmk_pure)); intro D' h' F' N' l1; (try k_lt l1))))
      | (with_reducible ((with_reducible show EltW _ _ _ _ _ _ _ _); (k_dflt (refine' EltW.intro ?F ?N ?hw ?hn ?hl; (case F => k_asm); (case N => k_asm); (case hw => rfl); (case hn => exact wide3); (case hl => exact ktn_ltOf (by assumption))))))
      | (with_reducible ((with_reducible show SrcW _ _ _ _ _ _ _ _ _ _ _ _ _ _); (k_dflt (refine' SrcW.mk ?hh ?F ?N ?hr ?hit ?hb ?helt ?hfin; (case hh => rfl); (case F => k_asm); (case N => k_asm); (case hr => assumption); (case hit => exact List.Mem.head _); (case hb => (law_clear; (try (simp (disch := omega) only [Int.fmod_eq_emod_of_nonneg])); omega))); (case' helt => intro i9 t9 I9 oI9 C9 oC9 D9 oD9 m9 h9 tk9 E9 nw9 hi9 hC9 hx9 F9 N9))))
      | (with_reducible ((with_reducible show wpAny _ _ (eval (PySem.Expr.ListComp _ _ _ _) _) _ _ _); (k_here; k_dflt (refine' ListComp_W ?F ?c1 ?c2 ?c3 ?c4 ?c5 ?_; (case F => k_asm); (case c1 => with_unfolding_all rfl); (case c2 => decide); (case c3 => rfl); (case c4 => decide); (case c5 => rfl)))))
      | (with_reducible ((with_reducible show wpAny _ _ (binaryOp Operator.Add (Value.ref _) (Value.ref _)) _ _ _); (k_here; k_dflt (refine' add_lsts ?F ?N ?l ?l2 ?z ?_; (case F => k_asm); (case N => k_asm); (case l => k_mem); (case l2 => k_mem); (case z => ((try (have e9 := IntsAre.length (by assumption); simp only [rangeKs_length] at e9)); (try simp only [List.length_append, List.length_replicate, List.length_cons, List.length_nil]); law_clear; (try law_fm); omega))); intro D' h' F' N' l1; (try k_lt l1))))
      | (with_reducible ((with_reducible show wpAny _ _ (binaryOp Operator.Mult (Value.int _ _) (Value.ref _)) _ _ _); (k_here; k_dflt (refine' mul_one_r ?F ?N ?l ?z ?_; (case F => k_asm); (case N => k_asm); (case l => k_mem); (case z => first | omega | (law_clear; (try law_fm); omega))); intro D' h' F' N' l1; (try k_lt l1))))
      | (with_reducible ((with_reducible show wpAny _ _ (binaryOp Operator.Mult (Value.ref _) (Value.int _ _)) _ _ _); (k_here; k_dflt (refine' mul_one ?F ?N ?l ?z ?_; (case F => k_asm); (case N => k_asm); (case l => k_mem); (case z => first | omega | (law_clear; (try law_fm); omega))); intro D' h' F' N' l1; (try k_lt l1))))
      | (with_reducible ((with_reducible show wpAny _ _ (compareOp CmpOp.In (Value.int _ _) (Value.ref _)) _ _ _); (k_here; k_dflt (first
  | (refine' in_top4 ?F ?X ?l ?_; (case F => k_asm); (case X => k_asm); (case l => k_is); k_whole)
  | (refine' in_top5 ?F ?X ?l ?_; (case F => k_asm); (case X => k_asm); (case l => k_is); k_whole)
  | (refine' in_top6 ?F ?X ?l ?_; (case F => k_asm); (case X => k_asm); (case l => k_is); k_whole)))))
      | (k_unfold; (try dsimp only)) | (k_end; kc_close) | walk1 | (dsimp only; walk1) | (leave1; (try dsimp only)) | fail "no step"))
  have em : (sw + 1).fmod 7 = (sw + 1) % 7 := Int.fmod_eq_emod_of_nonneg _ (by omega)
  refine endW (Q := Q) (s := s) hret (by k_asm) (by k_asm) (by assumption) ?_ ?_ (by assumption) ?_
  · exact (subC (subC (subC (subC (subC (subC (subC (subC subR))))))))
  · rw [← em]; assumption
  · rw [em]
    rename IntsAre _ _ => hI
    have e1 : (1 + ml - 1).toNat = ml.toNat := by omega
    rw [e1] at hI
    exact ((Shows.nos _).append (Shows.ints hI)).append (Shows.nos _)
end

/-- what monthcalendar makes -/
abbrev RetMC (P : Int → Int → Prop) (h₀ : Heap) (L : Addr) (m : Str → Option Value) (news : List (Addr × Obj)) (s : Shared) (Q : Value → Shared → Prop) : Prop :=
  ∀ (e n : Int), P e n → RetW e n h₀ L m news s Q
section
variable {w : World} {p : Program} {loose : List Str} {mean : ExcName → Option Value} {mg mb : Str → Option Value}

set_option maxHeartbeats 4000000 in
theorem c_jwday (news : List (Addr × Obj)) (j : Int) (tj : Tok) : Cl w p loose mean mg mb 1 28 news [.int j tj] (RetI (j % 7) (fun _ => True)) := by
  intro dp un gd cn cs a ccd cl outer A₀ base h₀ L m s Q E B F X N T hk hd hu hret
  refine wpAny_call ?_
  k_dflt cell_enter
  (repeat' (first
      | ((with_reducible show wpAny _ _ (call (Value.ref _) _) _ _ _); first
        | (with_reducible ((with_reducible show wpAny _ _ (call (Value.ref 33) _) _ _ _); (k_here; k_dflt (refine' use (c_helper _ _ _ _ _ ?kp ?kq) ?k1 ?k2 ?k3 ?k4 ?k5 ?kK ?kd ?ku ?_; (case kp => first | assumption | omega | (law_clear; (try law_fm); omega) | ((simp (disch := omega) only [Int.fmod_eq_emod_of_nonneg, Int.fdiv_eq_ediv_of_nonneg]); omega)); (case kq => first | assumption | omega | (law_clear; (try law_fm); omega) | ((simp (disch := omega) only [Int.fmod_eq_emod_of_nonneg, Int.fdiv_eq_ediv_of_nonneg]); omega)); (case k1 => k_asm); (case k2 => k_asm); (case k3 => k_asm); (case k4 => k_asm); (case k5 => k_asm); (case kK => first | exact rfl | assumption); (case kd => ktr_room); (case ku => ktr_units); intro D9 as9 c9 nw9 ds9 h9 tk9 F9 N9 sb9 ln9 wk9 sh9; (try dsimp only); (try k_fold)))))
        | (with_reducible ((with_reducible show wpAny _ _ (call (Value.ref 113) _) _ _ _); (k_here; k_dflt (refine' use (c_mlen _ _ _ _ _ _ _ _ ?kR ?kO ?kp ?kq ?kr) ?k1 ?k2 ?k3 ?k4 ?k5 ?kK ?kd ?ku ?_; (case kR => assumption); (case k1 => k_asm); (case k2 => k_asm); (case k3 => k_asm); (case k4 => k_asm); (case k5 => k_asm); (case kO => (repeat (first | assumption | (refine subC ?_)))); (case kK => first | exact rfl | assumption); (case kd => ktr_room); (case ku => ktr_units); (case kp => assumption); (case kq => first | assumption | omega | (law_clear; (try law_fm); omega) | ((simp (disch := omega) only [Int.fmod_eq_emod_of_nonneg, Int.fdiv_eq_ediv_of_nonneg]); omega)); (case kr => first | assumption | omega | (law_clear; (try law_fm); omega) | ((simp (disch := omega) only [Int.fmod_eq_emod_of_nonneg, Int.fdiv_eq_ediv_of_nonneg]); omega)); intro t9 h9 tk9 z9 F9 N9 P9; (try dsimp only); (try k_fold)))))
        | (with_reducible ((with_reducible show wpAny _ _ (call (Value.ref 85) _) _ _ _); (k_here; k_dflt (refine' use (c_tojdp _ _ _ _ _ _ _ _ _ _ ?kR ?kO ?kp ?kq ?kr) ?k1 ?k2 ?k3 ?k4 ?k5 ?kK ?kd ?ku ?_; (case kR => assumption); (case k1 => k_asm); (case k2 => k_asm); (case k3 => k_asm); (case k4 => k_asm); (case k5 => k_asm); (case kO => (repeat (first | assumption | (refine subC ?_)))); (case kK => first | exact rfl | assumption); (case kd => ktr_room); (case ku => ktr_units); (case kp => assumption); (case kq => first | assumption | omega | (law_clear; (try law_fm); omega) | ((simp (disch := omega) only [Int.fmod_eq_emod_of_nonneg, Int.fdiv_eq_ediv_of_nonneg]); omega)); (case kr => first | assumption | omega | (law_clear; (try law_fm); omega) | ((simp (disch := omega) only [Int.fmod_eq_emod_of_nonneg, Int.fdiv_eq_ediv_of_nonneg]); omega)); intro t9 h9 tk9 z9 F9 N9 P9; (try dsimp only); (try k_fold)))))
        )
      | (with_reducible ((with_reducible show wpAny _ _ (compareOp CmpOp.In (Value.int _ _) (Value.ref _)) _ _ _); (k_here; k_dflt (first
  | (refine' in_top4 ?F ?X ?l ?_; (case F => k_asm); (case X => k_asm); (case l => k_is); k_whole)
  | (refine' in_top5 ?F ?X ?l ?_; (case F => k_asm); (case X => k_asm); (case l => k_is); k_whole)
  | (refine' in_top6 ?F ?X ?l ?_; (case F => k_asm); (case X => k_asm); (case l => k_is); k_whole)))))
      | (k_unfold; (try dsimp only)) | (k_end; kc_close) | walk1 | (dsimp only; walk1) | (leave1; (try dsimp only)) | fail "no step"))
  all_goals (refine endI (Q := Q) (s := s) hret trivial ?_ (by k_asm) (by k_asm) subR)
  all_goals (clear hret; (simp (disch := omega) only [Int.fmod_eq_emod_of_nonneg]))


set_option maxHeartbeats 8000000 in
theorem c_mcal (news O : List (Addr × Obj)) (Y mo part : Int) (tY tm : Tok) (r : Addr) (HR : RowC w p loose mean mg mb part r O) (hO : ∀ p ∈ O, p ∈ news) (hp : 0 ≤ part ∧ part < 100000000) (hY : -3630 ≤ Y ∧ Y ≤ 7399) (hm : 1 ≤ mo ∧ mo ≤ 12) :
    Cl w p loose mean mg mb 11 120 news [.int Y tY, .int mo tm, .ref r] (RetMC (fun e n => ∃ f : Int, ((mo ≤ 7 ∧ f = (1948321 + (36524219878 * (Y + 621 - 622) + part) / 100000000) - 1 + (mo - 1) * 31 + 1) ∨ (7 < mo ∧ f = (1948321 + (36524219878 * (Y + 621 - 622) + part) / 100000000) - 1 + (mo - 1) * 30 + 6 + 1)) ∧ e = (f % 7 + 1) % 7 ∧ ((mo ≤ 6 ∧ n = 31) ∨ (6 < mo ∧ mo ≤ 11 ∧ n = 30) ∨ (mo = 12 ∧ n = (1948321 + (36524219878 * (Y + 622 - 622) + part) / 100000000) - (1948321 + (36524219878 * (Y + 621 - 622) + part) / 100000000) - 336)))) := by
  have hlb := len_bd Y part
  intro dp un gd cn cs a ccd cl outer A₀ base h₀ L m s Q E B F X N T hk hd hu hret
  refine wpAny_call ?_
  k_dflt cell_enter
  (repeat' (first
      | ((with_reducible show wpAny _ _ (call (Value.ref _) _) _ _ _); first
        | (with_reducible ((with_reducible show wpAny _ _ (call (Value.ref 28) _) _ _ _); (k_here; k_dflt (refine' use (c_jwday _ _ _) ?k1 ?k2 ?k3 ?k4 ?k5 ?kK ?kd ?ku ?_; (case k1 => k_asm); (case k2 => k_asm); (case k3 => k_asm); (case k4 => k_asm); (case k5 => k_asm); (case kK => first | exact rfl | assumption); (case kd => ktr_room); (case ku => ktr_units); intro t9 h9 tk9 z9 F9 N9 e9 P9; (try dsimp only); (try k_fold)))))
        | (with_reducible ((with_reducible show wpAny _ _ (call (Value.ref 33) _) _ _ _); (k_here; k_dflt (refine' use (c_helper _ _ _ _ _ ?kp ?kq) ?k1 ?k2 ?k3 ?k4 ?k5 ?kK ?kd ?ku ?_; (case kp => first | assumption | omega | (law_clear; (try law_fm); omega) | ((simp (disch := omega) only [Int.fmod_eq_emod_of_nonneg, Int.fdiv_eq_ediv_of_nonneg]); omega)); (case kq => first | assumption | omega | (law_clear; (try law_fm); omega) | ((simp (disch := omega) only [Int.fmod_eq_emod_of_nonneg, Int.fdiv_eq_ediv_of_nonneg]); omega)); (case k1 => k_asm); (case k2 => k_asm); (case k3 => k_asm); (case k4 => k_asm); (case k5 => k_asm); (case kK => first | exact rfl | assumption); (case kd => ktr_room); (case ku => ktr_units); intro D9 as9 c9 nw9 ds9 h9 tk9 F9 N9 sb9 ln9 wk9 sh9; (try dsimp only); (try k_fold)))))
        | (with_reducible ((with_reducible show wpAny _ _ (call (Value.ref 113) _) _ _ _); (k_here; k_dflt (refine' use (c_mlen _ _ _ _ _ _ _ _ ?kR ?kO ?kp ?kq ?kr) ?k1 ?k2 ?k3 ?k4 ?k5 ?kK ?kd ?ku ?_; (case kR => assumption); (case k1 => k_asm); (case k2 => k_asm); (case k3 => k_asm); (case k4 => k_asm); (case k5 => k_asm); (case kO => (repeat (first | assumption | (refine subC ?_)))); (case kK => first | exact rfl | assumption); (case kd => ktr_room); (case ku => ktr_units); (case kp => assumption); (case kq => first | assumption | omega | (law_clear; (try law_fm); omega) | ((simp (disch := omega) only [Int.fmod_eq_emod_of_nonneg, Int.fdiv_eq_ediv_of_nonneg]); omega)); (case kr => first | assumption | omega | (law_clear; (try law_fm); omega) | ((simp (disch := omega) only [Int.fmod_eq_emod_of_nonneg, Int.fdiv_eq_ediv_of_nonneg]); omega)); intro t9 h9 tk9 z9 F9 N9 P9; (try dsimp only); (try k_fold)))))
        | (with_reducible ((with_reducible show wpAny _ _ (call (Value.ref 85) _) _ _ _); (k_here; k_dflt (refine' use (c_tojdp _ _ _ _ _ _ _ _ _ _ ?kR ?kO ?kp ?kq ?kr) ?k1 ?k2 ?k3 ?k4 ?k5 ?kK ?kd ?ku ?_; (case kR => assumption); (case k1 => k_asm); (case k2 => k_asm); (case k3 => k_asm); (case k4 => k_asm); (case k5 => k_asm); (case kO => (repeat (first | assumption | (refine subC ?_)))); (case kK => first | exact rfl | assumption); (case kd => ktr_room); (case ku => ktr_units); (case kp => assumption); (case kq => first | assumption | omega | (law_clear; (try law_fm); omega) | ((simp (disch := omega) only [Int.fmod_eq_emod_of_nonneg, Int.fdiv_eq_ediv_of_nonneg]); omega)); (case kr => first | assumption | omega | (law_clear; (try law_fm); omega) | ((simp (disch := omega) only [Int.fmod_eq_emod_of_nonneg, Int.fdiv_eq_ediv_of_nonneg]); omega)); intro t9 h9 tk9 z9 F9 N9 P9; (try dsimp only); (try k_fold)))))
        )
      | (with_reducible ((with_reducible show wpAny _ _ (compareOp CmpOp.In (Value.int _ _) (Value.ref _)) _ _ _); (k_here; k_dflt (first
  | (refine' in_top4 ?F ?X ?l ?_; (case F => k_asm); (case X => k_asm); (case l => k_is); k_whole)
  | (refine' in_top5 ?F ?X ?l ?_; (case F => k_asm); (case X => k_asm); (case l => k_is); k_whole)
  | (refine' in_top6 ?F ?X ?l ?_; (case F => k_asm); (case X => k_asm); (case l => k_is); k_whole)))))
      | (k_unfold; (try dsimp only)) | (k_end; kc_close) | walk1 | (dsimp only; walk1) | (leave1; (try dsimp only)) | fail "no step"))
  refine' endW (Q := Q) (s := s) (hret _ _ ?P) ?F ?N ?hl ?hn ?ha ?hw ?hs
  case F => k_asm
  case N => k_asm
  case ha => assumption
  case hl => assumption
  case hn => exact subR
  case hw => assumption
  case hs => assumption
  case P => (refine ⟨_, by assumption, ?_, by assumption⟩; clear hret; law_clear; omega)
end

theorem subO {a b c : Addr × Obj} {news : List (Addr × Obj)} {h₀ h : Heap} {L : Addr} (_N : News h₀ L h news) (h1 : a ∈ news) (h2 : b ∈ news) (h3 : c ∈ news) : ∀ p ∈ [a, b, c], p ∈ news := fun p hp => by
  rcases List.mem_cons.mp hp with rfl | hp
  · exact h1
  · rcases List.mem_cons.mp hp with rfl | hp
    · exact h2
    · rw [List.mem_singleton.mp hp]; exact h3
theorem rowC_mk {w : World} {p : Program} {loose : List Str} {mean : ExcName → Option Value} {mg mb : Str → Option Value} {part : Int} {f c' cell : Addr} {name qual : Str} {params : Arguments} {body : Expr} {scope : Scope} {cl : List (Str × Addr)} {pm ctv : Value} {oc oCell : Obj} {vs : Array Value} {t tp : Tok} {news : List (Addr × Obj)} {h₀ h : Heap} {L : Addr}
    (_X : (Mine.hd.heap_39 w.params).In h₀) (_T : Top p loose mean mg mb h₀) (N : News h₀ L h news) (h1 : (f, kla_obj name qual params body scope cl pm c' ctv) ∈ news) (h2 : (c', oc) ∈ news) (d1 : oc.data = .fields vs) (d2 : vs[1]? = some (.str qual t)) (d3 : oCell.data = .cell (some (.int part tp))) (h3 : (cell, oCell) ∈ news) (hp : 0 ≤ part ∧ part < 100000000)
    (hb : ∀ (nw : List (Addr × Obj)) (y : Int) (ty : Tok), (f, kla_obj name qual params body scope cl pm c' ctv) ∈ nw → (c', oc) ∈ nw → (cell, oCell) ∈ nw → -6000 ≤ y ∧ y ≤ 12000 → 0 ≤ part ∧ part < 100000000 → Cl w p loose mean mg mb 3 f nw [.int y ty] (RetI (1948321 + (36524219878 * (y - 622) + part) / 100000000) (fun _ => True))) :
    RowC w p loose mean mg mb part f [(f, kla_obj name qual params body scope cl pm c' ctv), (c', oc), (cell, oCell)] ∧ (0 ≤ part ∧ part < 100000000) ∧ (∀ p ∈ [(f, kla_obj name qual params body scope cl pm c' ctv), (c', oc), (cell, oCell)], p ∈ news) :=
  ⟨⟨⟨_, _, _, _, .head _⟩, fun nw y ty hO hy => hb nw y ty (hO _ (.head _)) (hO _ (.tail _ (.head _))) (hO _ (.tail _ (.tail _ (.head _)))) hy hp⟩, hp, subO N h1 h2 h3⟩
theorem mod_letter {prog : Program} {w : World} {A : Around} {E : Value → Shared → Prop} {s : Shared} {a b : Int} {t u : Tok} {Q : Value → Shared → Prop} (hb : 0 < b) (h : ∀ z : Int, 0 ≤ z ∧ z < b → Q (.int z s.toks) { s with toks := s.toks + 1 }) :
    wpAny (model prog w) A (binaryOp .Mod (.int a t) (.int b u)) Q E s := mod_int' (by omega) (h _ ⟨Int.fmod_nonneg_of_pos a hb, Int.fmod_lt_of_pos a hb⟩)
section
variable {w : World} {p : Program} {loose : List Str} {mean : ExcName → Option Value} {mg mb : Str → Option Value}

set_option maxHeartbeats 4000000 in
theorem c_lsize (news : List (Addr × Obj)) (Y mo part : Int) (tY tm tp : Tok) (hp : 0 ≤ part ∧ part < 100000000) (hY : -3630 ≤ Y ∧ Y ≤ 7399) (hm : 1 ≤ mo ∧ mo ≤ 12) :
    Cl w p loose mean mg mb 2 162 news [.int Y tY, .int mo tm, .int part tp] (RetV (fun n => ((mo ≤ 6 ∧ n = 31) ∨ (6 < mo ∧ mo ≤ 11 ∧ n = 30) ∨ (mo = 12 ∧ n = (1948321 + (36524219878 * (Y + 622 - 622) + part) / 100000000) - (1948321 + (36524219878 * (Y + 621 - 622) + part) / 100000000) - 336)))) := by
  intro dp un gd cn cs a ccd cl outer A₀ base h₀ L m s Q E B F X N T hk hd hu hret
  refine wpAny_call ?_
  k_dflt cell_enter
  (repeat' (first
      | ((with_reducible show wpAny _ _ (call (Value.ref _) _) _ _ _); first
        | (with_reducible ((with_reducible show wpAny _ _ (call (Value.ref 155) _) _ _ _); (k_here; k_dflt (refine' use (c_dayof _ _ _ _ _ ?kp ?kq) ?k1 ?k2 ?k3 ?k4 ?k5 ?kK ?kd ?ku ?_; (case kp => first | assumption | omega | (law_clear; (try law_fm); omega) | ((simp (disch := omega) only [Int.fmod_eq_emod_of_nonneg, Int.fdiv_eq_ediv_of_nonneg]); omega)); (case kq => first | assumption | omega | (law_clear; (try law_fm); omega) | ((simp (disch := omega) only [Int.fmod_eq_emod_of_nonneg, Int.fdiv_eq_ediv_of_nonneg]); omega)); (case k1 => k_asm); (case k2 => k_asm); (case k3 => k_asm); (case k4 => k_asm); (case k5 => k_asm); (case kK => first | exact rfl | assumption); (case kd => ktr_room); (case ku => ktr_units); intro t9 h9 tk9 z9 F9 N9 e9 P9; (try dsimp only); (try k_fold)))))
        )
      | (with_reducible ((with_reducible show wpAny _ _ (compareOp CmpOp.In (Value.int _ _) (Value.ref _)) _ _ _); (k_here; k_dflt (first
  | (refine' in_top4 ?F ?X ?l ?_; (case F => k_asm); (case X => k_asm); (case l => k_is); k_whole)
  | (refine' in_top5 ?F ?X ?l ?_; (case F => k_asm); (case X => k_asm); (case l => k_is); k_whole)
  | (refine' in_top6 ?F ?X ?l ?_; (case F => k_asm); (case X => k_asm); (case l => k_is); k_whole)))))
      | (k_unfold; (try dsimp only)) | (k_end; kc_close) | walk1 | (dsimp only; walk1) | (leave1; (try dsimp only)) | fail "no step"))
  all_goals (refine endV (Q := Q) (s := s) hret ?_ (by k_asm) (by k_asm) subR)
  all_goals (clear hret; law_clear; omega)
theorem year_uniq (part jd n y : Int) (h1 : (1948321 + (36524219878 * (n - 622) + part) / 100000000) ≤ jd) (h2 : jd < (1948321 + (36524219878 * (n + 1 - 622) + part) / 100000000)) (h3 : (1948321 + (36524219878 * (y - 622) + part) / 100000000) ≤ jd) (h4 : jd < (1948321 + (36524219878 * (y + 1 - 622) + part) / 100000000)) : n = y := by omega
theorem c_fromjdpL (news O : List (Addr × Obj)) (jd y z part : Int) (tj : Tok) (r : Addr) (HR : RowC w p loose mean mg mb part r O) (hO : ∀ p ∈ O, p ∈ news) (hp : 0 ≤ part ∧ part < 100000000) (hs : z = (1948321 + (36524219878 * (y + 1 - 622) + part) / 100000000)) (h1 : (1948321 + (36524219878 * (y - 622) + part) / 100000000) ≤ jd) (h2 : jd < z) (hj : 443500 ≤ jd ∧ jd ≤ 4825000) :
    Cl w p loose mean mg mb 7 92 news [.int jd tj, .ref r] (RetV3 (fun x mo d => GoJ jd ∧ x = y - 621 ∧ ((jd - (1948321 + (36524219878 * (y - 622) + part) / 100000000) < 186 ∧ mo = (jd - (1948321 + (36524219878 * (y - 622) + part) / 100000000)) / 31 + 1 ∧ d = (jd - (1948321 + (36524219878 * (y - 622) + part) / 100000000)) % 31 + 1) ∨ (186 ≤ jd - (1948321 + (36524219878 * (y - 622) + part) / 100000000) ∧ mo = (jd - (1948321 + (36524219878 * (y - 622) + part) / 100000000) - 186) / 30 + 7 ∧ d = (jd - (1948321 + (36524219878 * (y - 622) + part) / 100000000) - 186) % 30 + 1)))) := by
  intro dp un gd cn cs a ccd cl outer A₀ base h₀ L m s Q E B F X N T hk hd hu hret
  refine c_fromjdp news O jd part tj r HR hO hp hj dp un gd cn cs a ccd cl outer A₀ base h₀ L m s Q E B F X N T hk hd hu ?_
  intro D t1 t2 t3 c h' tk' x' y' z' F' N' hP
  obtain ⟨hg, n, hb, q1, q2, q3, q4⟩ := hP
  have e : n = y := year_uniq part jd n y q1 q2 h1 (by rw [← hs]; exact h2)
  subst e
  exact hret D t1 t2 t3 c h' tk' x' y' z' F' N' ⟨hg, q3, q4⟩
theorem c_fromjdpM (news O : List (Addr × Obj)) (zs pa z1 y part : Int) (tj : Tok) (r : Addr) (HR : RowC w p loose mean mg mb part r O) (hO : ∀ p ∈ O, p ∈ news) (hp : 0 ≤ part ∧ part < 100000000) (es : zs = (1948321 + (36524219878 * (y - 622) + part) / 100000000)) (ez : z1 = (1948321 + (36524219878 * (y + 1 - 622) + part) / 100000000)) (q : 0 ≤ pa ∧ pa < z1 - zs) (hy : -3100 ≤ y ∧ y ≤ 8100) :
    Cl w p loose mean mg mb 7 92 news [.int (zs + pa) tj, .ref r] (RetV3 (fun x mo d => GoJ (zs + pa) ∧ x = y - 621 ∧ ((pa < 186 ∧ mo = pa / 31 + 1 ∧ d = pa % 31 + 1) ∨ (186 ≤ pa ∧ mo = (pa - 186) / 30 + 7 ∧ d = (pa - 186) % 30 + 1)))) := by
  have h := c_fromjdpL news O (zs + pa) y z1 part tj r HR hO hp ez (by omega) (by omega) (by omega) (w := w) (p := p) (loose := loose) (mean := mean) (mg := mg) (mb := mb)
  have e : zs + pa - (1948321 + (36524219878 * (y - 622) + part) / 100000000) = pa := by omega
  rw [e] at h
  exact h
end

/-- the row's day of the year y (kept shut) -/
def IsD (z y part : Int) : Prop := z = (1948321 + (36524219878 * (y - 622) + part) / 100000000)
theorem isD_bd {z y part : Int} (h : IsD z y part) (hp : 0 ≤ part ∧ part < 100000000) (hy : -3005 ≤ y ∧ y ≤ 8010) : 500000 ≤ z ∧ z ≤ 4700000 := by unfold IsD at h; omega
theorem isD_len {zs z1 y part : Int} (es : IsD zs y part) (ez : IsD z1 (y + 1) part) : 365 ≤ z1 - zs ∧ z1 - zs ≤ 366 := by
  have h := len_bd (y - 621) part
  unfold IsD at es ez
  have e1 : (1948321 + (36524219878 * (y - 621 + 621 - 622) + part) / 100000000) = zs := by rw [es]; congr 1; congr 1; omega
  have e2 : (1948321 + (36524219878 * (y - 621 + 622 - 622) + part) / 100000000) = z1 := by rw [ez]; congr 1; congr 1; omega
  rw [e1, e2] at h
  exact h
section
variable {w : World} {p : Program} {loose : List Str} {mean : ExcName → Option Value} {mg mb : Str → Option Value}

theorem c_fromjdpN (news O : List (Addr × Obj)) (zs pa z1 y part : Int) (tj : Tok) (r : Addr) (HR : RowC w p loose mean mg mb part r O) (hO : ∀ p ∈ O, p ∈ news) (hp : 0 ≤ part ∧ part < 100000000) (es : IsD zs y part) (ez : IsD z1 (y + 1) part) (hy : -3005 ≤ y ∧ y ≤ 8010) (q : 0 ≤ pa ∧ pa < z1 - zs) :
    Cl w p loose mean mg mb 7 92 news [.int (zs + pa) tj, .ref r] (RetV3 (fun x mo d => GoJ (zs + pa) ∧ x = y - 621 ∧ ((pa < 186 ∧ mo = pa / 31 + 1 ∧ d = pa % 31 + 1) ∨ (186 ≤ pa ∧ mo = (pa - 186) / 30 + 7 ∧ d = (pa - 186) % 30 + 1)))) :=
  c_fromjdpM news O zs pa z1 y part tj r HR hO hp es ez q (by omega)
theorem c_tojdpN (news O : List (Addr × Obj)) (zs y mo d part : Int) (tY tm td : Tok) (r : Addr) (HR : RowC w p loose mean mg mb part r O) (hO : ∀ p ∈ O, p ∈ news) (hp : 0 ≤ part ∧ part < 100000000) (es : IsD zs y part) (hy : -3005 ≤ y ∧ y ≤ 8010) (hm : 1 ≤ mo ∧ mo ≤ 12) :
    Cl w p loose mean mg mb 8 85 news [.int (y - 621) tY, .int mo tm, .int d td, .ref r] (RetV (fun z => (mo ≤ 7 ∧ z = zs - 1 + (mo - 1) * 31 + d) ∨ (7 < mo ∧ z = zs - 1 + (mo - 1) * 30 + 6 + d))) := by
  have h := c_tojdp news O (y - 621) mo d part tY tm td r HR hO hp (by omega) hm (w := w) (p := p) (loose := loose) (mean := mean) (mg := mg) (mb := mb)
  have e1 : (1948321 + (36524219878 * (y - 621 + 621 - 622) + part) / 100000000) = zs := by unfold IsD at es; rw [es]; congr 1; congr 1; omega
  rw [e1] at h
  exact h
theorem c_togregN (news O : List (Addr × Obj)) (J zs y mo d part : Int) (tY tm td : Tok) (r : Addr) (HR : RowC w p loose mean mg mb part r O) (hO : ∀ p ∈ O, p ∈ news) (hp : 0 ≤ part ∧ part < 100000000) (hG : GoJ J) (es : IsD zs y part) (hy : -3005 ≤ y ∧ y ≤ 8010) (hm : 1 ≤ mo ∧ mo ≤ 12)
    (hJ : (mo ≤ 7 ∧ J = zs - 1 + (mo - 1) * 31 + d) ∨ (7 < mo ∧ J = zs - 1 + (mo - 1) * 30 + 6 + d)) (hj : 443500 ≤ J ∧ J ≤ 4825000) :
    Cl w p loose mean mg mb 9 106 news [.int (y - 621) tY, .int mo tm, .int d td, .ref r] (RetV3 (fun x y z => x = gyear J ∧ y = gmonth J ∧ z = gday J)) := by
  have e1 : (1948321 + (36524219878 * (y - 621 + 621 - 622) + part) / 100000000) = zs := by unfold IsD at es; rw [es]; congr 1; congr 1; omega
  exact c_togreg news O J (y - 621) mo d part tY tm td r HR hO hp hG (by omega) hm (by rw [e1]; exact hJ) hj
theorem c_leapN (news O : List (Addr × Obj)) (zs z1 y part : Int) (tY : Tok) (r : Addr) (HR : RowC w p loose mean mg mb part r O) (hO : ∀ p ∈ O, p ∈ news) (hp : 0 ≤ part ∧ part < 100000000) (es : IsD zs y part) (ez : IsD z1 (y + 1) part) (hy : -3005 ≤ y ∧ y ≤ 8010) :
    Cl w p loose mean mg mb 9 64 news [.int (y - 621) tY, .ref r] (RetB (decide (z1 - zs > 365))) := by
  have h := c_leap news O (y - 621) part tY r HR hO hp (by omega) (w := w) (p := p) (loose := loose) (mean := mean) (mg := mg) (mb := mb)
  have e1 : (1948321 + (36524219878 * (y - 621 + 621 - 622) + part) / 100000000) = zs := by unfold IsD at es; rw [es]; congr 1; congr 1; omega
  have e2 : (1948321 + (36524219878 * (y - 621 + 622 - 622) + part) / 100000000) = z1 := by unfold IsD at ez; rw [ez]; congr 1; congr 1; omega
  rw [e1, e2] at h
  exact h
theorem c_mlenN (news O : List (Addr × Obj)) (zs z1 y mo part : Int) (tY tm : Tok) (r : Addr) (HR : RowC w p loose mean mg mb part r O) (hO : ∀ p ∈ O, p ∈ news) (hp : 0 ≤ part ∧ part < 100000000) (es : IsD zs y part) (ez : IsD z1 (y + 1) part) (hy : -3005 ≤ y ∧ y ≤ 8010) (hm : 1 ≤ mo ∧ mo ≤ 12) :
    Cl w p loose mean mg mb 10 113 news [.int (y - 621) tY, .int mo tm, .ref r] (RetV (fun n => ((mo ≤ 6 ∧ n = 31) ∨ (6 < mo ∧ mo ≤ 11 ∧ n = 30) ∨ (mo = 12 ∧ n = z1 - zs - 336)))) := by
  have h := c_mlen news O (y - 621) mo part tY tm r HR hO hp (by omega) hm (w := w) (p := p) (loose := loose) (mean := mean) (mg := mg) (mb := mb)
  have e1 : (1948321 + (36524219878 * (y - 621 + 621 - 622) + part) / 100000000) = zs := by unfold IsD at es; rw [es]; congr 1; congr 1; omega
  have e2 : (1948321 + (36524219878 * (y - 621 + 622 - 622) + part) / 100000000) = z1 := by unfold IsD at ez; rw [ez]; congr 1; congr 1; omega
  rw [e1, e2] at h
  exact h
theorem c_lsizeN (news : List (Addr × Obj)) (zs z1 y mo part : Int) (tY tm tp : Tok) (hp : 0 ≤ part ∧ part < 100000000) (es : IsD zs y part) (ez : IsD z1 (y + 1) part) (hy : -3005 ≤ y ∧ y ≤ 8010) (hm : 1 ≤ mo ∧ mo ≤ 12) :
    Cl w p loose mean mg mb 2 162 news [.int (y - 621) tY, .int mo tm, .int part tp] (RetV (fun n => ((mo ≤ 6 ∧ n = 31) ∨ (6 < mo ∧ mo ≤ 11 ∧ n = 30) ∨ (mo = 12 ∧ n = z1 - zs - 336)))) := by
  have h := c_lsize news (y - 621) mo part tY tm tp hp (by omega) hm (w := w) (p := p) (loose := loose) (mean := mean) (mg := mg) (mb := mb)
  have e1 : (1948321 + (36524219878 * (y - 621 + 621 - 622) + part) / 100000000) = zs := by unfold IsD at es; rw [es]; congr 1; congr 1; omega
  have e2 : (1948321 + (36524219878 * (y - 621 + 622 - 622) + part) / 100000000) = z1 := by unfold IsD at ez; rw [ez]; congr 1; congr 1; omega
  rw [e1, e2] at h
  exact h
theorem c_mcalN (news O : List (Addr × Obj)) (zs z1 y mo part : Int) (tY tm : Tok) (r : Addr) (HR : RowC w p loose mean mg mb part r O) (hO : ∀ p ∈ O, p ∈ news) (hp : 0 ≤ part ∧ part < 100000000) (es : IsD zs y part) (ez : IsD z1 (y + 1) part) (hy : -3005 ≤ y ∧ y ≤ 8010) (hm : 1 ≤ mo ∧ mo ≤ 12) :
    Cl w p loose mean mg mb 11 120 news [.int (y - 621) tY, .int mo tm, .ref r] (RetMC (fun e n => ∃ f : Int, ((mo ≤ 7 ∧ f = zs - 1 + (mo - 1) * 31 + 1) ∨ (7 < mo ∧ f = zs - 1 + (mo - 1) * 30 + 6 + 1)) ∧ e = (f % 7 + 1) % 7 ∧ ((mo ≤ 6 ∧ n = 31) ∨ (6 < mo ∧ mo ≤ 11 ∧ n = 30) ∨ (mo = 12 ∧ n = z1 - zs - 336)))) := by
  have h := c_mcal news O (y - 621) mo part tY tm r HR hO hp (by omega) hm (w := w) (p := p) (loose := loose) (mean := mean) (mg := mg) (mb := mb)
  have e1 : (1948321 + (36524219878 * (y - 621 + 621 - 622) + part) / 100000000) = zs := by unfold IsD at es; rw [es]; congr 1; congr 1; omega
  have e2 : (1948321 + (36524219878 * (y - 621 + 622 - 622) + part) / 100000000) = z1 := by unfold IsD at ez; rw [ez]; congr 1; congr 1; omega
  rw [e1, e2] at h
  exact h
theorem rowUseN {part : Int} {r : Addr} {O news : List (Addr × Obj)} {y : Int} {ty : Tok} (HR : RowC w p loose mean mg mb part r O) (hO : ∀ p ∈ O, p ∈ news) (hp : 0 ≤ part ∧ part < 100000000) (hy : -3005 ≤ y ∧ y ≤ 8010) :
    Cl w p loose mean mg mb 3 r news [.int y ty] (RetV (fun z => IsD z y part ∧ (500000 ≤ z ∧ z ≤ 4700000))) := by
  intro dp un gd cn cs a ccd cl outer A₀ base h₀ L m s Q E B F X N T hk hd hu hret
  refine HR.call news y ty hO (by omega) dp un gd cn cs a ccd cl outer A₀ base h₀ L m s Q E B F X N T hk hd hu ?_
  intro t h' tk' z F' N' e _
  exact hret t h' tk' z F' N' ⟨e, isD_bd (y := y) e hp hy⟩
end

/-- the Persian month and day of the year's day pa -/
def DateOf (pa Y Z : Int) : Prop := (pa < 186 ∧ Y = pa / 31 + 1 ∧ Z = pa % 31 + 1) ∨ (186 ≤ pa ∧ Y = (pa - 186) / 30 + 7 ∧ Z = (pa - 186) % 30 + 1)
/-- the Gregorian date of the day J -/
def GregOf (J x y z : Int) : Prop := x = gyear J ∧ y = gmonth J ∧ z = gday J
/-- the size of the month mo in a year from zs to z1 -/
def SizeOf (zs z1 mo n : Int) : Prop := (mo ≤ 6 ∧ n = 31) ∨ (6 < mo ∧ mo ≤ 11 ∧ n = 30) ∨ (mo = 12 ∧ n = z1 - zs - 336)
/-- the first day of the month mo of a year that begins at zs -/
def FirstOf (zs mo f : Int) : Prop := (mo ≤ 7 ∧ f = zs - 1 + (mo - 1) * 31 + 1) ∨ (7 < mo ∧ f = zs - 1 + (mo - 1) * 30 + 6 + 1)
theorem IsD.uniq {z z' y part : Int} (h : IsD z y part) (h' : IsD z' y part) : z' = z := by unfold IsD at h h'; rw [h, h']
theorem IsD.bd {z y part : Int} (h : IsD z y part) (hp : 0 ≤ part ∧ part < 100000000) (hy : -3000 ≤ y ∧ y ≤ 8001) : 500000 ≤ z ∧ z ≤ 4700000 := isD_bd h hp (by omega)
theorem dateOf_lo {pa : Int} (h : pa < 186) : DateOf pa (pa.fdiv 31 + 1) (pa.fmod 31 + 1) := by
  rw [Int.fdiv_eq_ediv_of_nonneg _ (by omega), Int.fmod_eq_emod_of_nonneg _ (by omega)]; exact .inl ⟨h, rfl, rfl⟩
theorem dateOf_hi {pa : Int} (h : ¬ pa < 186) : DateOf pa ((pa - 186).fdiv 30 + 7) ((pa - 186).fmod 30 + 1) := by
  rw [Int.fdiv_eq_ediv_of_nonneg _ (by omega), Int.fmod_eq_emod_of_nonneg _ (by omega)]; exact .inr ⟨by omega, rfl, rfl⟩
theorem DateOf.uniq {pa Y Z Y' Z' : Int} (h : DateOf pa Y Z) (h' : DateOf pa Y' Z') : Y' = Y ∧ Z' = Z := by unfold DateOf at h h'; omega
theorem DateOf.bd {pa Y Z len : Int} (h : DateOf pa Y Z) (h1 : 0 ≤ pa ∧ pa < len) (h2 : len ≤ 366) : 1 ≤ Y ∧ Y ≤ 12 := by unfold DateOf at h; omega
theorem DateOf.day {pa Y Z zs J : Int} (h : DateOf pa Y Z) (h0 : 0 ≤ pa) (hJ : (Y ≤ 7 ∧ J = zs - 1 + (Y - 1) * 31 + Z) ∨ (7 < Y ∧ J = zs - 1 + (Y - 1) * 30 + 6 + Z)) : J = zs + pa := by unfold DateOf at h; omega
theorem DateOf.back {pa Y Z zs : Int} (h : DateOf pa Y Z) (h0 : 0 ≤ pa) : (Y ≤ 7 ∧ zs + pa = zs - 1 + (Y - 1) * 31 + Z) ∨ (7 < Y ∧ zs + pa = zs - 1 + (Y - 1) * 30 + 6 + Z) := by unfold DateOf at h; omega
theorem GregOf.uniq {J x y z x' y' z' : Int} (h : GregOf J x y z) (h' : GregOf J x' y' z') : x' = x ∧ y' = y ∧ z' = z := by unfold GregOf at h h'; omega
theorem SizeOf.uniq {zs z1 mo n n' : Int} (h : SizeOf zs z1 mo n) (h' : SizeOf zs z1 mo n') : n' = n := by unfold SizeOf at h h'; omega
theorem SizeOf.bd {zs z1 mo n : Int} (h : SizeOf zs z1 mo n) (hl : 365 ≤ z1 - zs ∧ z1 - zs ≤ 366) : 29 ≤ n ∧ n ≤ 31 := by unfold SizeOf at h; omega
theorem FirstOf.uniq {zs mo f f' : Int} (h : FirstOf zs mo f) (h' : FirstOf zs mo f') : f' = f := by unfold FirstOf at h h'; omega
theorem FirstOf.bd {zs mo f : Int} (h : FirstOf zs mo f) (hm : 1 ≤ mo ∧ mo ≤ 12) (hz : 500000 ≤ zs ∧ zs ≤ 4700000) : 400000 ≤ f ∧ f ≤ 4800000 := by unfold FirstOf at h; omega
theorem FirstOf.next {zs z1 mo f n f' : Int} (h : FirstOf zs mo f) (hn : SizeOf zs z1 mo n) (h' : FirstOf zs (mo + 1) f') (hm : mo < 12) : f' = f + n := by unfold FirstOf at h h'; unfold SizeOf at hn; omega
theorem FirstOf.last {zs z1 mo f n : Int} (h : FirstOf zs mo f) (hn : SizeOf zs z1 mo n) (hm : mo ≤ 12) (hq : ¬ mo < 12) : z1 = f + n := by unfold FirstOf at h; unfold SizeOf at hn; omega

abbrev RetN (z : Int) (h₀ : Heap) (L : Addr) (m : Str → Option Value) (news : List (Addr × Obj)) (s : Shared) (Q : Value → Shared → Prop) : Prop :=
  ∀ (t : Tok) (h' : Heap) (tk' : Nat), Fr h₀ L h' m → News h₀ L h' news → Q (.int z t) { s with heap := h', toks := tk' }
abbrev RetX (x y z : Int) (h₀ : Heap) (L : Addr) (m : Str → Option Value) (news : List (Addr × Obj)) (s : Shared) (Q : Value → Shared → Prop) : Prop :=
  ∀ (D : Addr) (t1 t2 t3 : Tok) (c : Nat) (h' : Heap) (tk' : Nat), Fr h₀ L h' m → News h₀ L h' ((D, tup3 x y z t1 t2 t3 c) :: news) → Q (.ref D) { s with heap := h', toks := tk' }

/-- the ways of an expression meet in an int -/
structure JoinI (P : Int → Prop) (h₀ : Heap) (L : Addr) (m : Str → Option Value) (news : List (Addr × Obj)) (s : Shared) (v : Value) (s' : Shared) : Prop where
  out : ∃ (z : Int) (t : Tok) (h' : Heap) (tk' : Nat), v = .int z t ∧ s' = { s with heap := h', toks := tk' } ∧ Fr h₀ L h' m ∧ News h₀ L h' news ∧ P z
/-- the ways of an expression meet in a tuple of three ints -/
structure JoinT (P : Int → Int → Int → Prop) (h₀ : Heap) (L : Addr) (m : Str → Option Value) (news : List (Addr × Obj)) (s : Shared) (v : Value) (s' : Shared) : Prop where
  out : ∃ (x y z : Int) (D : Addr) (t1 t2 t3 : Tok) (c : Nat) (h' : Heap) (tk' : Nat), v = .ref D ∧ s' = { s with heap := h', toks := tk' } ∧ Fr h₀ L h' m ∧ News h₀ L h' ((D, tup3 x y z t1 t2 t3 c) :: news) ∧ P x y z
section
variable {prog : Program} {w : World} {A : Around} {E : Value → Shared → Prop} {s : Shared} {h₀ h' : Heap} {L : Addr} {m : Str → Option Value} {news news' : List (Addr × Obj)} {Q : Value → Shared → Prop} {t : Sem Value}
theorem joinI (P : Int → Prop) (F : Fr h₀ L s.heap m) (N : News h₀ L s.heap news) (walk : wpAny (model prog w) A t (JoinI P h₀ L m news s) E s)
    (h : ∀ (z : Int) (t : Tok) (h' : Heap) (tk' : Nat), P z → Fr h₀ L h' m → News h₀ L h' news → Q (.int z t) { s with heap := h', toks := tk' }) : wpAny (model prog w) A t Q E s :=
  wpAny_mono walk (fun v s' j => by obtain ⟨z, t, h', tk', rfl, rfl, F, N, hp⟩ := j.out; exact h z t h' tk' hp F N) fun _ _ e => e
theorem joinT (P : Int → Int → Int → Prop) (F : Fr h₀ L s.heap m) (N : News h₀ L s.heap news) (walk : wpAny (model prog w) A t (JoinT P h₀ L m news s) E s)
    (h : ∀ (x y z : Int) (D : Addr) (t1 t2 t3 : Tok) (c : Nat) (h' : Heap) (tk' : Nat), P x y z → Fr h₀ L h' m → News h₀ L h' ((D, tup3 x y z t1 t2 t3 c) :: news) → Q (.ref D) { s with heap := h', toks := tk' }) : wpAny (model prog w) A t Q E s :=
  wpAny_mono walk (fun v s' j => by obtain ⟨x, y, z, D, t1, t2, t3, c, h', tk', rfl, rfl, F, N, hp⟩ := j.out; exact h x y z D t1 t2 t3 c h' tk' hp F N) fun _ _ e => e
theorem joinDate {zs z1 pa y part : Int} (F : Fr h₀ L s.heap m) (N : News h₀ L s.heap news) (_q : 0 ≤ pa ∧ pa < z1 - zs) (_es : IsD zs y part)
    (h : ∀ (Y Z : Int) (D : Addr) (t1 t2 t3 : Tok) (c : Nat) (h' : Heap) (tk' : Nat), DateOf pa Y Z → Fr h₀ L h' m → News h₀ L h' ((D, tup3 (y - 621) Y Z t1 t2 t3 c) :: news) → Q (.ref D) { s with heap := h', toks := tk' })
    (walk : wpAny (model prog w) A t (JoinT (fun x Y Z => x = y - 621 ∧ DateOf pa Y Z) h₀ L m news s) E s) : wpAny (model prog w) A t Q E s :=
  joinT (fun x Y Z => x = y - 621 ∧ DateOf pa Y Z) F N walk (fun x Y Z D t1 t2 t3 c h' tk' hp => by obtain ⟨rfl, hp⟩ := hp; exact h Y Z D t1 t2 t3 c h' tk' hp)
theorem joinB {zs z1 mo f n : Int} (F : Fr h₀ L s.heap m) (N : News h₀ L s.heap news) (_f : FirstOf zs mo f) (_n : SizeOf zs z1 mo n)
    (h : ∀ (t : Tok) (h' : Heap) (tk' : Nat), Fr h₀ L h' m → News h₀ L h' news → Q (.int (f + n) t) { s with heap := h', toks := tk' })
    (walk : wpAny (model prog w) A t (JoinI (fun z => z = f + n) h₀ L m news s) E s) : wpAny (model prog w) A t Q E s :=
  joinI (fun z => z = f + n) F N walk (fun z t h' tk' hp => by subst hp; exact h t h' tk')
theorem JoinI.of {P : Int → Prop} {z : Int} {t : Tok} {tk' : Nat} (hp : P z) (F : Fr h₀ L h' m) (N : News h₀ L h' news') (hn : ∀ p ∈ news, p ∈ news') : JoinI P h₀ L m news s (.int z t) { s with heap := h', toks := tk' } :=
  ⟨z, t, h', tk', rfl, rfl, F, fun p h => N p (hn p h), hp⟩
theorem JoinT.of {P : Int → Int → Int → Prop} {x y z : Int} {D : Addr} {t1 t2 t3 : Tok} {c : Nat} {tk' : Nat} (hp : P x y z) (F : Fr h₀ L h' m) (N : News h₀ L h' news') (hd : (D, tup3 x y z t1 t2 t3 c) ∈ news') (hn : ∀ p ∈ news, p ∈ news') : JoinT P h₀ L m news s (.ref D) { s with heap := h', toks := tk' } :=
  ⟨x, y, z, D, t1, t2, t3, c, h', tk', rfl, rfl, F, fun p h => by
    rcases List.mem_cons.mp h with rfl | h
    · exact N _ hd
    · exact N p (hn p h), hp⟩
end
section
variable {w : World} {p : Program} {loose : List Str} {mean : ExcName → Option Value} {mg mb : Str → Option Value}

theorem d_row (news O : List (Addr × Obj)) (y part : Int) (ty : Tok) (r : Addr) (HR : RowC w p loose mean mg mb part r O) (hO : ∀ p ∈ O, p ∈ news) (hp : 0 ≤ part ∧ part < 100000000) (hy : -3000 ≤ y ∧ y ≤ 8001) :
    Cl w p loose mean mg mb 3 r news [.int y ty] (RetV (fun z => IsD z y part)) := by
  intro dp un gd cn cs a ccd cl outer A₀ base h₀ L m s Q E B F X N T hk hd hu hret
  refine HR.call news y ty hO (by omega) dp un gd cn cs a ccd cl outer A₀ base h₀ L m s Q E B F X N T hk hd hu ?_
  intro t h' tk' z F' N' e _
  exact hret t h' tk' z F' N' e
theorem d_row' (news O : List (Addr × Obj)) (z y part : Int) (ty : Tok) (r : Addr) (HR : RowC w p loose mean mg mb part r O) (hO : ∀ p ∈ O, p ∈ news) (ez : IsD z y part) (hy : -3000 ≤ y ∧ y ≤ 8001) :
    Cl w p loose mean mg mb 3 r news [.int y ty] (RetN z) := by
  intro dp un gd cn cs a ccd cl outer A₀ base h₀ L m s Q E B F X N T hk hd hu hret
  refine HR.call news y ty hO (by omega) dp un gd cn cs a ccd cl outer A₀ base h₀ L m s Q E B F X N T hk hd hu ?_
  intro t h' tk' z' F' N' e _
  rw [ez.uniq e]
  exact hret t h' tk' F' N'
theorem d_fromjdp (news O : List (Addr × Obj)) (zs pa z1 y Y Z part : Int) (tj : Tok) (r : Addr) (HR : RowC w p loose mean mg mb part r O) (hO : ∀ p ∈ O, p ∈ news) (hp : 0 ≤ part ∧ part < 100000000) (es : IsD zs y part) (ez : IsD z1 (y + 1) part) (hy : -3000 ≤ y ∧ y ≤ 8000) (q : 0 ≤ pa ∧ pa < z1 - zs) (hD : DateOf pa Y Z) :
    Cl w p loose mean mg mb 7 92 news [.int (zs + pa) tj, .ref r] (RetX (y - 621) Y Z) := by
  intro dp un gd cn cs a ccd cl outer A₀ base h₀ L m s Q E B F X N T hk hd hu hret
  refine c_fromjdpM news O zs pa z1 y part tj r HR hO hp es ez q (by omega) dp un gd cn cs a ccd cl outer A₀ base h₀ L m s Q E B F X N T hk hd hu ?_
  intro D t1 t2 t3 c h' tk' x' y' z' F' N' hP
  obtain ⟨_, rfl, hP⟩ := hP
  obtain ⟨rfl, rfl⟩ := hD.uniq hP
  exact hret D t1 t2 t3 c h' tk' F' N'
theorem d_fromgreg (news O : List (Addr × Obj)) (zs pa z1 y Y Z part gx gy gz : Int) (tx ty tz : Tok) (r : Addr) (HR : RowC w p loose mean mg mb part r O) (hO : ∀ p ∈ O, p ∈ news) (hp : 0 ≤ part ∧ part < 100000000) (es : IsD zs y part) (ez : IsD z1 (y + 1) part) (hy : -3000 ≤ y ∧ y ≤ 8000) (q : 0 ≤ pa ∧ pa < z1 - zs) (hD : DateOf pa Y Z) (hG : GregOf (zs + pa) gx gy gz) :
    Cl w p loose mean mg mb 8 99 news [.int gx tx, .int gy ty, .int gz tz, .ref r] (RetX (y - 621) Y Z) := by
  intro dp un gd cn cs a ccd cl outer A₀ base h₀ L m s Q E B F X N T hk hd hu hret
  have hb := es.bd hp (by omega)
  have hl := isD_len es ez
  refine c_fromgreg news O (zs + pa) gx gy gz part tx ty tz r HR hO hp trivial hG.1 hG.2.1 hG.2.2 (by omega) dp un gd cn cs a ccd cl outer A₀ base h₀ L m s Q E B F X N T hk hd hu ?_
  intro D t1 t2 t3 c h' tk' x' y' z' F' N' hP
  obtain ⟨n, hb', q1, q2, q3, q4⟩ := hP
  unfold IsD at es ez
  have e : n = y := year_uniq part (zs + pa) n y q1 q2 (by omega) (by omega)
  subst e
  subst q3
  have e : zs + pa - (1948321 + (36524219878 * (n - 622) + part) / 100000000) = pa := by omega
  rw [e] at q4
  obtain ⟨rfl, rfl⟩ := hD.uniq q4
  exact hret D t1 t2 t3 c h' tk' F' N'
theorem d_tojdp (news O : List (Addr × Obj)) (zs z1 pa y Y Z part : Int) (tY tm td : Tok) (r : Addr) (HR : RowC w p loose mean mg mb part r O) (hO : ∀ p ∈ O, p ∈ news) (hp : 0 ≤ part ∧ part < 100000000) (es : IsD zs y part) (ez : IsD z1 (y + 1) part) (hy : -3000 ≤ y ∧ y ≤ 8000) (q : 0 ≤ pa ∧ pa < z1 - zs) (hD : DateOf pa Y Z) :
    Cl w p loose mean mg mb 8 85 news [.int (y - 621) tY, .int Y tm, .int Z td, .ref r] (RetN (zs + pa)) := by
  intro dp un gd cn cs a ccd cl outer A₀ base h₀ L m s Q E B F X N T hk hd hu hret
  refine c_tojdpN news O zs y Y Z part tY tm td r HR hO hp es (by omega) (hD.bd q (isD_len es ez).2) dp un gd cn cs a ccd cl outer A₀ base h₀ L m s Q E B F X N T hk hd hu ?_
  intro t h' tk' z F' N' hP
  rw [hD.day q.1 hP]
  exact hret t h' tk' F' N'
theorem d_first (news O : List (Addr × Obj)) (zs y mo part : Int) (tY tm td : Tok) (r : Addr) (HR : RowC w p loose mean mg mb part r O) (hO : ∀ p ∈ O, p ∈ news) (hp : 0 ≤ part ∧ part < 100000000) (es : IsD zs y part) (hy : -3000 ≤ y ∧ y ≤ 8000) (hm : 1 ≤ mo ∧ mo ≤ 12) :
    Cl w p loose mean mg mb 8 85 news [.int (y - 621) tY, .int mo tm, .int 1 td, .ref r] (RetV (FirstOf zs mo)) :=
  c_tojdpN news O zs y mo 1 part tY tm td r HR hO hp es (by omega) hm
theorem d_lawgreg (news : List (Addr × Obj)) (jd : Int) (tj : Tok) (hj : 0 ≤ jd ∧ jd ≤ 6000000) : Cl w p loose mean mg mb 4 134 news [.int jd tj] (RetV3 (GregOf jd)) :=
  c_lawgreg news jd tj hj
theorem d_togreg (news O : List (Addr × Obj)) (zs z1 pa y Y Z part gx gy gz : Int) (tY tm td : Tok) (r : Addr) (HR : RowC w p loose mean mg mb part r O) (hO : ∀ p ∈ O, p ∈ news) (hp : 0 ≤ part ∧ part < 100000000) (es : IsD zs y part) (ez : IsD z1 (y + 1) part) (hy : -3000 ≤ y ∧ y ≤ 8000) (q : 0 ≤ pa ∧ pa < z1 - zs) (hD : DateOf pa Y Z) (hG : GregOf (zs + pa) gx gy gz) :
    Cl w p loose mean mg mb 9 106 news [.int (y - 621) tY, .int Y tm, .int Z td, .ref r] (RetX gx gy gz) := by
  intro dp un gd cn cs a ccd cl outer A₀ base h₀ L m s Q E B F X N T hk hd hu hret
  have hb := es.bd hp (by omega)
  have hl := isD_len es ez
  refine c_togregN news O (zs + pa) zs y Y Z part tY tm td r HR hO hp trivial es (by omega) (hD.bd q hl.2) (hD.back q.1) (by omega) dp un gd cn cs a ccd cl outer A₀ base h₀ L m s Q E B F X N T hk hd hu ?_
  intro D t1 t2 t3 c h' tk' x' y' z' F' N' hP
  obtain ⟨rfl, rfl, rfl⟩ := hG.uniq hP
  exact hret D t1 t2 t3 c h' tk' F' N'
theorem d_leap (news O : List (Addr × Obj)) (zs z1 y part : Int) (tY : Tok) (r : Addr) (HR : RowC w p loose mean mg mb part r O) (hO : ∀ p ∈ O, p ∈ news) (hp : 0 ≤ part ∧ part < 100000000) (es : IsD zs y part) (ez : IsD z1 (y + 1) part) (hy : -3000 ≤ y ∧ y ≤ 8000) :
    Cl w p loose mean mg mb 9 64 news [.int (y - 621) tY, .ref r] (RetB (decide (z1 - zs > 365))) :=
  c_leapN news O zs z1 y part tY r HR hO hp es ez (by omega)
theorem d_lsize (news : List (Addr × Obj)) (zs z1 y mo part : Int) (tY tm tp : Tok) (hp : 0 ≤ part ∧ part < 100000000) (es : IsD zs y part) (ez : IsD z1 (y + 1) part) (hy : -3000 ≤ y ∧ y ≤ 8000) (hm : 1 ≤ mo ∧ mo ≤ 12) :
    Cl w p loose mean mg mb 2 162 news [.int (y - 621) tY, .int mo tm, .int part tp] (RetV (SizeOf zs z1 mo)) :=
  c_lsizeN news zs z1 y mo part tY tm tp hp es ez (by omega) hm
theorem d_mlen (news O : List (Addr × Obj)) (zs z1 y mo n part : Int) (tY tm : Tok) (r : Addr) (HR : RowC w p loose mean mg mb part r O) (hO : ∀ p ∈ O, p ∈ news) (hp : 0 ≤ part ∧ part < 100000000) (es : IsD zs y part) (ez : IsD z1 (y + 1) part) (hy : -3000 ≤ y ∧ y ≤ 8000) (hm : 1 ≤ mo ∧ mo ≤ 12) (hn : SizeOf zs z1 mo n) :
    Cl w p loose mean mg mb 10 113 news [.int (y - 621) tY, .int mo tm, .ref r] (RetN n) := by
  intro dp un gd cn cs a ccd cl outer A₀ base h₀ L m s Q E B F X N T hk hd hu hret
  refine c_mlenN news O zs z1 y mo part tY tm r HR hO hp es ez (by omega) hm dp un gd cn cs a ccd cl outer A₀ base h₀ L m s Q E B F X N T hk hd hu ?_
  intro t h' tk' z F' N' hP
  rw [hn.uniq hP]
  exact hret t h' tk' F' N'
theorem d_mcal (news O : List (Addr × Obj)) (zs z1 y mo f n part : Int) (tY tm : Tok) (r : Addr) (HR : RowC w p loose mean mg mb part r O) (hO : ∀ p ∈ O, p ∈ news) (hp : 0 ≤ part ∧ part < 100000000) (es : IsD zs y part) (ez : IsD z1 (y + 1) part) (hy : -3000 ≤ y ∧ y ≤ 8000) (hm : 1 ≤ mo ∧ mo ≤ 12) (hf : FirstOf zs mo f) (hn : SizeOf zs z1 mo n) :
    Cl w p loose mean mg mb 11 120 news [.int (y - 621) tY, .int mo tm, .ref r] (RetW ((f + 1) % 7) n) := by
  intro dp un gd cn cs a ccd cl outer A₀ base h₀ L m s Q E B F X N T hk hd hu hret
  refine c_mcalN news O zs z1 y mo part tY tm r HR hO hp es ez (by omega) hm dp un gd cn cs a ccd cl outer A₀ base h₀ L m s Q E B F X N T hk hd hu ?_
  intro e' n' hP
  obtain ⟨f', hf', he, hn'⟩ := hP
  have e1 := hf.uniq hf'
  have e2 := hn.uniq hn'
  subst e1 e2
  have e3 : e' = (f' + 1) % 7 := by omega
  subst e3
  exact hret
end

section
open PyProof.Rows.LCg
variable {prog : Program} {w : World} {A : Around} {E : Value → Shared → Prop} {s : Shared} {h₀ : Heap} {L : Addr} {m : Str → Option Value} {env : Env}
/-- an element's end: an int, nothing made -/
structure EltN (h₀ : Heap) (L : Addr) (m : Str → Option Value) (s₁ : Shared) (cur : List (Addr × Obj)) (k : Int) (y : Value) (s₂ : Shared) : Prop where
  out : ∃ t h' tk', y = .int k t ∧ s₂ = { s₁ with heap := h', toks := tk' } ∧ Fr h₀ L h' m ∧ News h₀ L h' cur
theorem EltN.intro {cur cur' : List (Addr × Obj)} {k k' : Int} {s₁ : Shared} {t : Tok} {h' : Heap} {tk' : Nat} (hk : k' = k) (F : Fr h₀ L h' m) (N : News h₀ L h' cur') (hn : ∀ p ∈ cur, p ∈ cur') :
    EltN h₀ L m s₁ cur k (.int k' t) { s₁ with heap := h', toks := tk' } := by
  subst hk
  exact ⟨t, h', tk', rfl, rfl, F, fun p hp => N p (hn p hp)⟩
theorem Shows.snoc {a : List Value} {p : List (Option Int)} (h : Shows a p) (k : Int) (t : Tok) : Shows (a ++ [.int k t]) (p ++ [some k]) := h.append (.num k t .nil)
theorem Shows.same (k : Int) (t : Tok) : ∀ n : Nat, Shows (List.replicate n (.int k t)) (List.replicate n (some k))
  | 0 => .nil
  | n + 1 => .num k t (Shows.same k t n)
theorem off1_mem {D : Addr} : ∀ {l : List (Addr × Obj)}, Off1 D l → ∀ p ∈ l, p.1 ≠ D
  | [], _, _, h => nomatch h
  | _ :: _, x, p, h => by
    rcases List.mem_cons.mp h with rfl | h
    · exact x.1
    · exact off1_mem x.2 p h
theorem comp_lens {elt : Expr} {x : Str} {scope : Scope} {cl : List (Str × Addr)} {s₁ : Shared} {ax : Addr} {as : List Addr} {wk : Nat → List Value} {cx : Nat} {news : List (Addr × Obj)} {Fin : List Value → List (Addr × Obj) → Prop} (g : Heap)
    (hm : (ax, (W.listOf (as.map Value.ref).toArray cx : Obj)) ∈ news) (hin : ∀ j a, as[j]? = some a → ∃ c, (a, (W.listOf (wk j).toArray c : Obj)) ∈ news) (h7 : ∀ j, j < as.length → (wk j).length = 7)
    (helt : ∀ (j : Nat) (a : Addr) (c : Nat) (I : Addr) (oI : Obj) (C : Addr) (oC : Obj) (D : Addr) (oD : Obj) (m₂ : Str → Option Value) (h : Heap) (tk : Nat) (E' : Value → Shared → Prop), j < as.length → NsObj oC m₂ → m₂ x = some (.ref a) → (a, (W.listOf (wk j).toArray c : Obj)) ∈ news → Fr h₀ L h m → News h₀ L h ((I, oI) :: (C, oC) :: (D, oD) :: news) →
      wpAny (model prog w) A (eval elt (compEnvC scope cl C env)) (EltN h₀ L m { s₁ with heap := h, toks := tk } ((I, oI) :: (C, oC) :: (D, oD) :: news) (wk j).length) E' { s₁ with heap := h, toks := tk })
    (hfin : ∀ ys, Shows ys (List.replicate as.length (some 7)) → Fin ys news) :
    ∀ (k i : Nat) (ys : List Value), k + i = as.length → Shows ys (List.replicate i (some 7)) →
      CompRest prog w A h₀ L m env elt x scope cl { s₁ with heap := g } (SrcAt h₀ ax (as.map Value.ref).toArray) (fun i v => (as.map Value.ref).toArray[i]? = some v) Fin k i ys news := by
  intro k
  induction k with
  | zero =>
    intro i ys hk hs
    have e : i = as.length := by omega
    subst e
    exact CompRest.zero (hfin ys hs)
  | succ k ih =>
    intro i ys hk hs
    refine CompRest.succ ?_
    intro v I oI C oC D m₂ h tk E' hP hC hx F N off hne
    have hil : i < as.length := by omega
    have hv : v = .ref as[i] := by
      have e : (as.map Value.ref).toArray[i]? = some (.ref as[i]) := by simp [hil]
      rw [e] at hP; exact (Option.some.inj hP).symm
    subst hv
    obtain ⟨c, hc⟩ := hin i as[i] (by simp [hil])
    refine wpAny_mono (helt i as[i] c I oI C oC D _ m₂ h tk E' hil hC hx hc F N) (fun y s' q => ?_) fun _ _ e => e
    obtain ⟨t, h', tk', rfl, rfl, F', N'⟩ := q.out
    refine CompEnd.intro F' N' news (fun p hp => hp) off (.inr ⟨_, hm, rfl, _, rfl⟩) ?_
    have e7 : (((wk i).length : Nat) : Int) = 7 := by rw [h7 i hil]; rfl
    refine ih (i + 1) _ (by omega) ?_
    rw [List.replicate_succ', e7]
    exact hs.snoc 7 t
theorem lens_src {elt : Expr} {x : Str} {scope : Scope} {cl : List (Str × Addr)} {Q : Value → Shared → Prop} {s₁ : Shared} {ax : Addr} {as : List Addr} {wk : Nat → List Value} {cx : Nat} {news : List (Addr × Obj)} (hh : A.handled = none) (F : Fr h₀ L s₁.heap m) (N : News h₀ L s₁.heap news)
    (hm : (ax, (W.listOf (as.map Value.ref).toArray cx : Obj)) ∈ news) (hin : ∀ j a, as[j]? = some a → ∃ c, (a, (W.listOf (wk j).toArray c : Obj)) ∈ news) (h7 : ∀ j, j < as.length → (wk j).length = 7) (hlen : as.length ≤ 1000)
    (helt : ∀ (j : Nat) (a : Addr) (c : Nat) (I : Addr) (oI : Obj) (C : Addr) (oC : Obj) (D : Addr) (oD : Obj) (m₂ : Str → Option Value) (h : Heap) (tk : Nat) (E' : Value → Shared → Prop), j < as.length → NsObj oC m₂ → m₂ x = some (.ref a) → (a, (W.listOf (wk j).toArray c : Obj)) ∈ news → Fr h₀ L h m → News h₀ L h ((I, oI) :: (C, oC) :: (D, oD) :: news) →
      wpAny (model prog w) A (eval elt (compEnvC scope cl C env)) (EltN h₀ L m { s₁ with heap := h, toks := tk } ((I, oI) :: (C, oC) :: (D, oD) :: news) (wk j).length) E' { s₁ with heap := h, toks := tk })
    (hfin : ∀ (D : Addr) (ys : List Value) (h : Heap) (tk : Nat), Shows ys (List.replicate as.length (some 7)) → Fr h₀ L h m → News h₀ L h ((D, W.listOf ys.toArray ys.length) :: news) → (∀ p ∈ news, p.1 ≠ D) → Q (.ref D) { s₁ with heap := h, toks := tk }) :
    CompSrc prog w A h₀ L m env elt x scope cl (fun s₂ => FinE h₀ L m s₂ Q) (.ref ax) s₁ := by
  refine CompSrc.ledger hh F N hm (by rw [List.size_toArray, List.length_map, sizeLine_eq]; omega) (fun g => ?_)
  have e : (as.map Value.ref).toArray.size = as.length := by rw [List.size_toArray, List.length_map]
  rw [e]
  refine comp_lens (s₁ := s₁) (cx := cx) g hm hin h7 helt (fun ys hs D h tk F' N' o1 => ?_) as.length 0 [] rfl .nil
  refine hfin D ys h tk hs F' N' ?_
  exact off1_mem o1
end
theorem week_len (days : List Value) (e n : Int) (as : List Addr) (he : 0 ≤ e ∧ e ≤ 6) (hn : 29 ≤ n ∧ n ≤ 31) (hl : as.length = ((e + n + 6) / 7).toNat) (hs : Shows days (pat e.toNat n.toNat 7)) :
    ∀ j, j < as.length → ((days.drop (7 * j)).take 7).length = 7 := by
  intro j hj
  rw [List.length_take, List.length_drop, hs.length, pat_len]
  omega
theorem hin_tail {as : List Addr} {wk : Nat → List Value} {nw : List (Addr × Obj)} {p : Addr × Obj} (h : ∀ j a, as[j]? = some a → ∃ c, (a, (W.listOf (wk j).toArray c : Obj)) ∈ nw) : ∀ j a, as[j]? = some a → ∃ c, (a, (W.listOf (wk j).toArray c : Obj)) ∈ p :: nw :=
  fun j a e => by obtain ⟨c, hc⟩ := h j a e; exact ⟨c, .tail _ hc⟩
theorem mem3 {x a b c : Addr × Obj} {news : List (Addr × Obj)} (h : x ∈ news) : x ∈ a :: b :: c :: news := .tail _ (.tail _ (.tail _ h))
section
variable {prog : Program} {w : World} {A : Around} {E : Value → Shared → Prop} {s : Shared} {h₀ : Heap} {L : Addr} {news : List (Addr × Obj)} {l : Addr} {c : Nat} {Q : Value → Shared → Prop}
theorem len_told {as : List Addr} (N : News h₀ L s.heap news) (hm : (l, (W.listOf (as.map Value.ref).toArray c : Obj)) ∈ news) (hz : as.length ≤ 1000) (h : Q (.int (as.length : Int) (s.toks + 1)) { s with toks := s.toks + 1 + 1 }) :
    wpAny (model prog w) A (call (.builtin "len") [.ref l]) Q E s := by
  refine len_list (items := (as.map Value.ref).toArray) ⟨_, (N _ hm).1, rfl, _, rfl⟩ (by rw [List.size_toArray, List.length_map]; omega) ?_
  rw [List.size_toArray, List.length_map]
  exact h
theorem len_week {days : List Value} {j : Nat} (N : News h₀ L s.heap news) (hm : (l, (W.listOf ((days.drop (7 * j)).take 7).toArray c : Obj)) ∈ news) (h : Q (.int (((days.drop (7 * j)).take 7).length : Int) (s.toks + 1)) { s with toks := s.toks + 1 + 1 }) :
    wpAny (model prog w) A (call (.builtin "len") [.ref l]) Q E s := by
  have hz : ((days.drop (7 * j)).take 7).length ≤ 7 := List.length_take_le _ _
  refine len_list (items := ((days.drop (7 * j)).take 7).toArray) ⟨_, (N _ hm).1, rfl, _, rfl⟩ (by rw [List.size_toArray]; omega) ?_
  rw [List.size_toArray]
  exact h
end
theorem rhs_shows {f n : Int} {vs : List Value} {k : Nat} (hI : IntsAre vs (rangeKs 1 k)) (hk : k = n.toNat) :
    Shows (List.replicate ((f + 1).fmod 7).toNat .none ++ vs ++ List.replicate ((-((f + 1).fmod 7 + n)).fmod 7).toNat .none) (pat ((f + 1) % 7).toNat n.toNat ((-((f + 1) % 7 + n)) % 7).toNat) := by
  rw [Int.fmod_eq_emod_of_nonneg _ (by omega), Int.fmod_eq_emod_of_nonneg _ (by omega)]
  subst hk
  exact ((Shows.nos _).append (Shows.ints hI)).append (Shows.nos _)
theorem days_shows (days : List Value) (e n : Int) (as : List Addr) (he : 0 ≤ e ∧ e ≤ 6) (hn : 29 ≤ n ∧ n ≤ 31) (hl : as.length = ((e + n + 6) / 7).toNat) (hs : Shows days (pat e.toNat n.toNat 7)) :
    Shows ((List.range as.length).flatMap fun j => (days.drop (7 * j)).take 7) (pat e.toNat n.toNat ((-(e + n)) % 7).toNat) := by
  rw [weeks_flat, hl]
  have h := hs.take (7 * ((e + n + 6) / 7).toNat)
  rw [pat_take _ _ _ _ (by omega) (by omega)] at h
  have e1 : 7 * ((e + n + 6) / 7).toNat - (e.toNat + n.toNat) = ((-(e + n)) % 7).toNat := by omega
  rw [e1] at h
  exact h
theorem lhs_shows {f n : Int} (days : List Value) (as : List Addr) (hn : 29 ≤ n ∧ n ≤ 31) (hl : as.length = (((f + 1) % 7 + n + 6) / 7).toNat) (hs : Shows days (pat ((f + 1) % 7).toNat n.toNat 7)) :
    Shows ((List.range as.length).flatMap fun j => (days.drop (7 * j)).take 7) (pat ((f + 1) % 7).toNat n.toNat ((-((f + 1) % 7 + n)) % 7).toNat) :=
  days_shows days ((f + 1) % 7) n as (by omega) hn hl hs
theorem seven {f n : Int} (days : List Value) (as : List Addr) (hn : 29 ≤ n ∧ n ≤ 31) (hl : as.length = (((f + 1) % 7 + n + 6) / 7).toNat) (hs : Shows days (pat ((f + 1) % 7).toNat n.toNat 7)) :
    ∀ j, j < as.length → ((days.drop (7 * j)).take 7).length = 7 := week_len days ((f + 1) % 7) n as (by omega) hn hl hs
theorem few {f n : Int} {as : List Addr} (hn : 29 ≤ n ∧ n ≤ 31) (hl : as.length = (((f + 1) % 7 + n + 6) / 7).toNat) : as.length ≤ 1000 := by omega
theorem few' {f n : Int} {as : List Addr} (hn : 29 ≤ n ∧ n ≤ 31) (hl : as.length = (((f + 1) % 7 + n + 6) / 7).toNat) : 0 ≤ (as.length : Int) ∧ (as.length : Int) ≤ 100 := by omega
section
open PyProof.Rows.LCg
variable {prog : Program} {w : World} {A : Around} {E : Value → Shared → Prop} {s : Shared} {h₀ : Heap} {L : Addr} {m : Str → Option Value} {env : Env}
theorem flat_src {Fin : Addr → List Value → List (Addr × Obj) → Shared → Prop} {s₁ : Shared} {ax : Addr} {as : List Addr} {c : Nat} {days : List Value} {news nw : List (Addr × Obj)} {f n : Int} (hh : A.handled = none) (F : Fr h₀ L s₁.heap m) (N : News h₀ L s₁.heap news) (hm : (ax, (W.listOf (as.map Value.ref).toArray c : Obj)) ∈ news)
    (hin : ∀ j a, as[j]? = some a → ∃ c, (a, W.listOf ((days.drop (7 * j)).take 7).toArray c) ∈ nw) (hsub : ∀ p ∈ nw, p ∈ news) (hn : 29 ≤ n ∧ n ≤ 31) (hl : as.length = (((f + 1) % 7 + n + 6) / 7).toNat)
    (h : ∀ D, (∀ p ∈ news, p.1 < D) → Fin D ((List.range as.length).flatMap fun j => (days.drop (7 * j)).take 7) news s₁) : SrcF A h₀ L m Fin (.ref ax) s₁ :=
  SrcF.mk (wk := fun j => (days.drop (7 * j)).take 7) hh F N hm (fun j a e => by obtain ⟨c, hc⟩ := hin j a e; exact ⟨c, hsub _ hc⟩) (fun i => List.length_take_le _ _) (few hn hl) h
theorem lens_week {elt : Expr} {x : Str} {scope : Scope} {cl : List (Str × Addr)} {Q : Value → Shared → Prop} {s₁ : Shared} {ax : Addr} {as : List Addr} {days : List Value} {cx : Nat} {news nw : List (Addr × Obj)} {f n : Int} (hh : A.handled = none) (F : Fr h₀ L s₁.heap m) (N : News h₀ L s₁.heap news)
    (hm : (ax, (W.listOf (as.map Value.ref).toArray cx : Obj)) ∈ news) (hin : ∀ j a, as[j]? = some a → ∃ c, (a, W.listOf ((days.drop (7 * j)).take 7).toArray c) ∈ nw) (hsub : ∀ p ∈ nw, p ∈ news) (hn : 29 ≤ n ∧ n ≤ 31) (hl : as.length = (((f + 1) % 7 + n + 6) / 7).toNat) (hs : Shows days (pat ((f + 1) % 7).toNat n.toNat 7))
    (helt : ∀ (j : Nat) (a : Addr) (c : Nat) (I : Addr) (oI : Obj) (C : Addr) (oC : Obj) (D : Addr) (oD : Obj) (m₂ : Str → Option Value) (h : Heap) (tk : Nat) (E' : Value → Shared → Prop), j < as.length → NsObj oC m₂ → m₂ x = some (.ref a) → (a, (W.listOf ((days.drop (7 * j)).take 7).toArray c : Obj)) ∈ news → Fr h₀ L h m → News h₀ L h ((I, oI) :: (C, oC) :: (D, oD) :: news) →
      wpAny (model prog w) A (eval elt (compEnvC scope cl C env)) (EltN h₀ L m { s₁ with heap := h, toks := tk } ((I, oI) :: (C, oC) :: (D, oD) :: news) ((days.drop (7 * j)).take 7).length) E' { s₁ with heap := h, toks := tk })
    (hfin : ∀ (D : Addr) (ys : List Value) (h : Heap) (tk : Nat), Shows ys (List.replicate as.length (some 7)) → Fr h₀ L h m → News h₀ L h ((D, W.listOf ys.toArray ys.length) :: news) → (∀ p ∈ news, p.1 ≠ D) → Q (.ref D) { s₁ with heap := h, toks := tk }) :
    CompSrc prog w A h₀ L m env elt x scope cl (fun s₂ => FinE h₀ L m s₂ Q) (.ref ax) s₁ :=
  lens_src (wk := fun j => (days.drop (7 * j)).take 7) hh F N hm (fun j a e => by obtain ⟨c, hc⟩ := hin j a e; exact ⟨c, hsub _ hc⟩) (seven days as hn hl hs) (few hn hl) helt hfin
end
theorem sub_mem {α : Type} {l nw : List α} (h : ∀ p ∈ l, p ∈ nw) {x : α} (hx : x ∈ l) : x ∈ nw := h x hx
theorem fm7 (x : Int) : 0 ≤ x.fmod 7 ∧ x.fmod 7 ≤ 100 := by rw [Int.fmod_eq_emod_of_nonneg _ (by omega)]; omega

set_option maxHeartbeats 8000000 in
theorem law_holds : PySem.Challenge.rw_ja0018_01.Holds := Mine.hd (by
  w_strict (
    k_go0
    all_goals try k_fold
    (repeat' (first
        | ((with_reducible show wpAny _ _ (call (Value.ref _) _) _ _ _); first
          | (with_reducible ((with_reducible show wpAny _ _ (call (Value.ref 120) _) _ _ _); (k_here; k_dflt (refine' use (d_mcal _ _ _ _ _ _ _ _ _ _ _ _ ?kR ?kO ?hp ?es ?ez ?hy ?hm ?hf ?hn) ?k1 ?k2 ?k3 ?k4 ?k5 ?kK ?kd ?ku ?_; (case kR => assumption); (case hp => assumption); (case es => assumption); (case ez => assumption); (case hy => assumption); (case hm => first | assumption | omega | (law_clear; (try law_fm); omega)); (case hf => assumption); (case hn => assumption); (case k1 => k_asm); (case k2 => k_asm); (case k3 => k_asm); (case k4 => k_asm); (case k5 => k_asm); (case kK => first | exact rfl | assumption); (case kd => ktr_room); (case ku => ktr_units); (case kO => (repeat (first | assumption | (refine subC ?_)))); skip); intro D9 as9 c9 nw9 ds9 h9 tk9 F9 N9 sb9 ln9 wk9 sh9; (try dsimp only); (try k_fold))))
          | (with_reducible ((with_reducible show wpAny _ _ (call (Value.ref 113) _) _ _ _); (k_here; k_dflt (refine' use (d_mlen _ _ _ _ _ _ _ _ _ _ _ ?kR ?kO ?hp ?es ?ez ?hy ?hm ?hn) ?k1 ?k2 ?k3 ?k4 ?k5 ?kK ?kd ?ku ?_; (case kR => assumption); (case hp => assumption); (case es => assumption); (case ez => assumption); (case hy => assumption); (case hm => first | assumption | omega | (law_clear; (try law_fm); omega)); (case hn => assumption); (case k1 => k_asm); (case k2 => k_asm); (case k3 => k_asm); (case k4 => k_asm); (case k5 => k_asm); (case kK => first | exact rfl | assumption); (case kd => ktr_room); (case ku => ktr_units); (case kO => (repeat (first | assumption | (refine subC ?_)))); skip); intro t9 h9 tk9 F9 N9; (try dsimp only); (try k_fold))))
          | (with_reducible ((with_reducible show wpAny _ _ (call (Value.ref 162) _) _ _ _); (k_here; k_dflt (refine' use (d_lsize _ _ _ _ _ _ _ _ _ ?hp ?es ?ez ?hy ?hm) ?k1 ?k2 ?k3 ?k4 ?k5 ?kK ?kd ?ku ?_; (case hp => assumption); (case es => assumption); (case ez => assumption); (case hy => assumption); (case hm => first | assumption | omega | (law_clear; (try law_fm); omega)); (case k1 => k_asm); (case k2 => k_asm); (case k3 => k_asm); (case k4 => k_asm); (case k5 => k_asm); (case kK => first | exact rfl | assumption); (case kd => ktr_room); (case ku => ktr_units); skip); intro t9 h9 tk9 z9 F9 N9 sz9; (have b9 := SizeOf.bd sz9 (by assumption)); (try dsimp only); (try k_fold))))
          | (with_reducible ((with_reducible show wpAny _ _ (call (Value.ref 64) _) _ _ _); (k_here; k_dflt (refine' use (d_leap _ _ _ _ _ _ _ _ ?kR ?kO ?hp ?es ?ez ?hy) ?k1 ?k2 ?k3 ?k4 ?k5 ?kK ?kd ?ku ?_; (case kR => assumption); (case hp => assumption); (case es => assumption); (case ez => assumption); (case hy => assumption); (case k1 => k_asm); (case k2 => k_asm); (case k3 => k_asm); (case k4 => k_asm); (case k5 => k_asm); (case kK => first | exact rfl | assumption); (case kd => ktr_room); (case ku => ktr_units); (case kO => (repeat (first | assumption | (refine subC ?_)))); skip); intro h9 tk9 F9 N9; (try dsimp only); (try k_fold))))
          | (with_reducible ((with_reducible show wpAny _ _ (call (Value.ref 99) _) _ _ _); (k_here; k_dflt (refine' use (d_fromgreg _ _ _ _ _ _ _ _ _ _ _ _ _ _ _ _ ?kR ?kO ?hp ?es ?ez ?hy ?q ?hD ?hG) ?k1 ?k2 ?k3 ?k4 ?k5 ?kK ?kd ?ku ?_; (case kR => assumption); (case hG => assumption); (case hp => assumption); (case es => assumption); (case ez => assumption); (case hy => assumption); (case q => assumption); (case hD => assumption); (case k1 => k_asm); (case k2 => k_asm); (case k3 => k_asm); (case k4 => k_asm); (case k5 => k_asm); (case kK => first | exact rfl | assumption); (case kd => ktr_room); (case ku => ktr_units); (case kO => (repeat (first | assumption | (refine subC ?_)))); skip); intro D9 t91 t92 t93 c9 h9 tk9 F9 N9; (try dsimp only); (try k_fold))))
          | (with_reducible ((with_reducible show wpAny _ _ (call (Value.ref 106) _) _ _ _); (k_here; k_dflt (refine' use (d_togreg _ _ _ _ _ _ _ _ _ _ _ _ _ _ _ _ ?kR ?kO ?hp ?es ?ez ?hy ?q ?hD ?hG) ?k1 ?k2 ?k3 ?k4 ?k5 ?kK ?kd ?ku ?_; (case kR => assumption); (case hG => assumption); (case hp => assumption); (case es => assumption); (case ez => assumption); (case hy => assumption); (case q => assumption); (case hD => assumption); (case k1 => k_asm); (case k2 => k_asm); (case k3 => k_asm); (case k4 => k_asm); (case k5 => k_asm); (case kK => first | exact rfl | assumption); (case kd => ktr_room); (case ku => ktr_units); (case kO => (repeat (first | assumption | (refine subC ?_)))); skip); intro D9 t91 t92 t93 c9 h9 tk9 F9 N9; (try dsimp only); (try k_fold))))
          | (with_reducible ((with_reducible show wpAny _ _ (call (Value.ref 134) _) _ _ _); (k_here; k_dflt (refine' use (d_lawgreg _ _ _ ?hj) ?k1 ?k2 ?k3 ?k4 ?k5 ?kK ?kd ?ku ?_; (case hj => first | assumption | omega | (law_clear; (try law_fm); omega)); (case k1 => k_asm); (case k2 => k_asm); (case k3 => k_asm); (case k4 => k_asm); (case k5 => k_asm); (case kK => first | exact rfl | assumption); (case kd => ktr_room); (case ku => ktr_units); skip); intro D9 t91 t92 t93 c9 h9 tk9 x9 y9 z9 F9 N9 hG9; (try dsimp only); (try k_fold))))
          | (with_reducible ((with_reducible show wpAny _ _ (call (Value.ref 85) [Value.int _ _, Value.int _ _, Value.int 1 _, Value.ref _]) _ _ _); (k_here; k_dflt (refine' use (d_first _ _ _ _ _ _ _ _ _ _ ?kR ?kO ?hp ?es ?hy ?hm) ?k1 ?k2 ?k3 ?k4 ?k5 ?kK ?kd ?ku ?_; (case kR => assumption); (case hp => assumption); (case es => assumption); (case hy => assumption); (case hm => first | assumption | omega | (law_clear; (try law_fm); omega)); (case k1 => k_asm); (case k2 => k_asm); (case k3 => k_asm); (case k4 => k_asm); (case k5 => k_asm); (case kK => first | exact rfl | assumption); (case kd => ktr_room); (case ku => ktr_units); (case kO => (repeat (first | assumption | (refine subC ?_)))); skip); intro t9 h9 tk9 z9 F9 N9 f9; (have b9 := FirstOf.bd f9 (by first | assumption | omega) (by assumption)); (try dsimp only); (try k_fold))))
          | (with_reducible ((with_reducible show wpAny _ _ (call (Value.ref 85) _) _ _ _); (k_here; k_dflt (refine' use (d_tojdp _ _ _ _ _ _ _ _ _ _ _ _ _ ?kR ?kO ?hp ?es ?ez ?hy ?q ?hD) ?k1 ?k2 ?k3 ?k4 ?k5 ?kK ?kd ?ku ?_; (case kR => assumption); (case hD => assumption); (case hp => assumption); (case es => assumption); (case ez => assumption); (case hy => assumption); (case q => assumption); (case k1 => k_asm); (case k2 => k_asm); (case k3 => k_asm); (case k4 => k_asm); (case k5 => k_asm); (case kK => first | exact rfl | assumption); (case kd => ktr_room); (case ku => ktr_units); (case kO => (repeat (first | assumption | (refine subC ?_)))); skip); intro t9 h9 tk9 F9 N9; (try dsimp only); (try k_fold))))
          | (with_reducible ((with_reducible show wpAny _ _ (call (Value.ref 92) _) _ _ _); (k_here; k_dflt (refine' use (d_fromjdp _ _ _ _ _ _ _ _ _ _ _ ?kR ?kO ?hp ?es ?ez ?hy ?q ?hD) ?k1 ?k2 ?k3 ?k4 ?k5 ?kK ?kd ?ku ?_; (case kR => assumption); (case hp => assumption); (case es => assumption); (case ez => assumption); (case hy => assumption); (case q => assumption); (case hD => assumption); (case k1 => k_asm); (case k2 => k_asm); (case k3 => k_asm); (case k4 => k_asm); (case k5 => k_asm); (case kK => first | exact rfl | assumption); (case kd => ktr_room); (case ku => ktr_units); (case kO => (repeat (first | assumption | (refine subC ?_)))); skip); intro D9 t91 t92 t93 c9 h9 tk9 F9 N9; (try dsimp only); (try k_fold))))
          | (with_reducible ((first | (with_reducible show wpAny _ _ (call (Value.ref _) [Value.int _ _]) _ _ _) | (k_dflt show wpAny _ _ (call (Value.ref _) [Value.int _ _]) _ _ _)); (k_here; k_dflt (refine' use (d_row' _ _ _ _ _ _ _ ?kR ?kO ?ez ?hy) ?k1 ?k2 ?k3 ?k4 ?k5 ?kK ?kd ?ku ?_; (case kR => assumption); (case ez => assumption); (case hy => first | assumption | omega | (law_clear; (try law_fm); omega)); (case k1 => k_asm); (case k2 => k_asm); (case k3 => k_asm); (case k4 => k_asm); (case k5 => k_asm); (case kK => first | exact rfl | assumption); (case kd => ktr_room); (case ku => ktr_units); (case kO => (repeat (first | assumption | (refine subC ?_)))); skip); intro t9 h9 tk9 F9 N9; (try dsimp only); (try k_fold))))
          | (with_reducible ((first | (with_reducible show wpAny _ _ (call (Value.ref _) [Value.int _ _]) _ _ _) | (k_dflt show wpAny _ _ (call (Value.ref _) [Value.int _ _]) _ _ _)); (k_here; k_dflt (refine' use (d_row _ _ _ _ _ _ ?kR ?kO ?hp ?hy) ?k1 ?k2 ?k3 ?k4 ?k5 ?kK ?kd ?ku ?_; (case kR => assumption); (case hp => assumption); (case hy => first | assumption | omega | (law_clear; (try law_fm); omega)); (case k1 => k_asm); (case k2 => k_asm); (case k3 => k_asm); (case k4 => k_asm); (case k5 => k_asm); (case kK => first | exact rfl | assumption); (case kd => ktr_room); (case ku => ktr_units); (case kO => (repeat (first | assumption | (refine subC ?_)))); skip); intro t9 h9 tk9 z9 F9 N9 es9; (have b9 := IsD.bd es9 (by assumption) (by first | assumption | omega)); (try (have ln9 := isD_len (by assumption) es9)); (try dsimp only); (try k_fold))))
          | (with_reducible ((with_reducible show wpAny _ _ (call (Value.ref 155) _) _ _ _); (k_here; k_dflt (refine' use (c_dayof _ _ _ _ _ ?kp ?kq) ?k1 ?k2 ?k3 ?k4 ?k5 ?kK ?kd ?ku ?_; (case kp => first | assumption | omega | (law_clear; (try law_fm); omega) | ((simp (disch := omega) only [Int.fmod_eq_emod_of_nonneg, Int.fdiv_eq_ediv_of_nonneg]); omega)); (case kq => first | assumption | omega | (law_clear; (try law_fm); omega) | ((simp (disch := omega) only [Int.fmod_eq_emod_of_nonneg, Int.fdiv_eq_ediv_of_nonneg]); omega)); (case k1 => k_asm); (case k2 => k_asm); (case k3 => k_asm); (case k4 => k_asm); (case k5 => k_asm); (case kK => first | exact rfl | assumption); (case kd => ktr_room); (case ku => ktr_units); intro t9 h9 tk9 z9 F9 N9 e9 P9; (try dsimp only); (try k_fold)))))
          )
        | (with_reducible ((with_reducible show GrownAll _ _); (k_dflt (refine And.intro (GrownAt.of (by k_asm) (by first | k_mem | (repeat (first | exact sub_mem (by assumption) (by k_mem) | refine List.Mem.tail _ ?_)))) True.intro))))
        | (with_reducible ((with_reducible show wpAny _ _ (compareOp CmpOp.Eq (Value.ref _) (Value.ref _)) _ _ _); (k_here; k_dflt (first
  | (refine' eq_shows ?N ?h1 ?h2 ?hx ?hy ?hu ?_; (case N => k_asm); (case h1 => k_mem); (case h2 => k_mem); (case hx => exact lhs_shows _ _ (by assumption) (by assumption) (by assumption)); (case hy => exact rhs_shows (by assumption) (by omega)); (case hu => first | decide | ktr_units))
  | (refine' eq_shows ?N ?h1 ?h2 ?hx ?hy ?hu ?_; (case N => k_asm); (case h1 => k_mem); (case h2 => k_mem); (case hx => assumption); (case hy => exact Shows.same _ _ _); (case hu => first | decide | ktr_units))))))
        | (with_reducible ((with_reducible show wpAny _ _ (binaryOp Operator.Add (Value.ref _) (Value.ref _)) _ _ _); (k_here; k_dflt (refine' add_lsts ?F ?N ?l ?l2 ?z ?_; (case F => k_asm); (case N => k_asm); (case l => k_mem); (case l2 => k_mem); (case z => ((try (have e9 := IntsAre.length (by assumption); simp only [rangeKs_length] at e9)); (try simp only [List.length_append, List.length_replicate, List.length_cons, List.length_nil]); law_clear; (try law_fm); omega))); intro D' h' F' N' l1; (try k_lt l1))))
        | (with_reducible ((with_reducible show wpAny _ _ (binaryOp Operator.Mult (Value.ref _) (Value.int _ _)) _ _ _); (k_here; k_dflt (refine' mul_one ?F ?N ?l ?z ?_; (case F => k_asm); (case N => k_asm); (case l => k_mem); (case z => first | exact fm7 _ | exact few' (by assumption) (by assumption))); intro D' h' F' N' l1; (try k_lt l1))))
        | (with_reducible ((with_reducible show wpAny _ _ (call (Value.builtin "len") [Value.ref _]) _ _ _); (k_here; k_dflt (first
  | (refine' len_week ?N ?m ?_; (case N => k_asm); (case m => exact mem3 (by assumption)))
  | (refine' len_told ?N ?m ?z ?_; (case N => k_asm); (case m => k_mem); (case z => exact few (by assumption) (by assumption)))))))
        | (with_reducible ((with_reducible show EltN _ _ _ _ _ _ _ _); (k_dflt (refine' EltN.intro ?hk ?F ?N ?hn; (case F => k_asm); (case N => k_asm); (case hk => rfl); (case hn => (repeat (first | exact subR | (refine subC ?_))))))))
        | (with_reducible ((with_reducible show PyProof.Rows.LCg.CompSrc _ _ _ _ _ _ _ _ _ _ _ _ _ _); (k_here; k_dflt (refine' lens_week ?hh ?F ?N ?hm ?hin ?hsub ?hn ?hl ?hs ?_ ?_; (case hh => rfl); (case F => k_asm); (case N => k_asm); (case hm => k_mem); (case hin => assumption); (case hsub => (repeat (first | exact subR | (refine subC ?_)))); (case hl => assumption); (case hn => assumption); (case hs => assumption)); intro j9 a9 c9 I9 oI9 C9 oC9 D9 oD9 m9 h9 tk9 E9 hj9 hC9 hx9 hc9 F9 N9; rotate_left; intro D9 ys9 h9 tk9 hs9 F9 N9 ne9; rotate_left)))
        | (with_reducible ((with_reducible show wpAny _ _ (eval (PySem.Expr.ListComp (PySem.Expr.Call _ _ _ _) _ _ _) _) _ _ _); (k_here; k_dflt (refine LCg.ListComp_U (F₀ := by k_asm) (by with_unfolding_all rfl) (by decide) (by rfl) (by decide) (by rfl) ?_))))
        | (with_reducible ((with_reducible show SrcF _ _ _ _ _ _ _); (k_dflt (refine' flat_src ?hh ?F ?N ?hm ?hin ?hsub ?hn ?hl ?_; (case hh => rfl); (case F => k_asm); (case N => k_asm); (case hm => k_mem); (case hin => assumption); (case hsub => (repeat (first | exact subR | (refine subC ?_)))); (case hl => assumption); (case hn => assumption); intro D9 l1 h9 tk9 F9 N9))))
        | (with_reducible ((with_reducible show wpAny _ _ (exec (PySem.Stmt.Assign _ (PySem.Expr.ListComp _ (_ :: _ :: _) _ _) _) _) _ _ _); (k_here; k_dflt (refine Assign_ListComp_F (_F₀ := by k_asm) (by rfl) (by with_unfolding_all rfl) (by with_unfolding_all rfl) (by decide) (by rfl) (by decide) (by rfl) (by rfl) (by rfl) (by rfl) (by rfl) (by rfl) ?_))))
        | (with_reducible ((with_reducible show wpAny _ _ (eval (PySem.Expr.IfExp _ (PySem.Expr.Call _ _ _ _) _ _) _) _ _ _); (k_here; k_dflt (refine' joinB ?kF ?kN ?kf ?kn ?_ ?_; (case kF => k_asm); (case kN => k_asm); (case kf => assumption); (case kn => assumption)); intro t8 h8 tk8 F8 N8; rotate_left; refine IfExp_ ?_; rotate_left)))
        | (with_reducible ((with_reducible show JoinT _ _ _ _ _ _ _ _); (k_dflt (refine' JoinT.of ?hp ?F ?N ?hd ?hn; (case F => k_asm); (case N => k_asm); (case hd => k_mem); (case hn => (repeat (first | exact subR | (refine subC ?_)))); (case hp => (refine ⟨rfl, ?_⟩; first | exact dateOf_lo (by assumption) | exact dateOf_hi (by assumption)))))))
        | (with_reducible ((with_reducible show wpAny _ _ (eval (PySem.Expr.IfExp _ (PySem.Expr.Tuple _ _ _) _ _) _) _ _ _); (k_here; k_dflt (refine' joinDate ?kF ?kN ?kq ?ke ?_ ?_; (case kF => k_asm); (case kN => k_asm); (case kq => assumption); (case ke => assumption)); intro y8 z8 D8 t81 t82 t83 c8 h8 tk8 hD8 F8 N8; rotate_left; refine IfExp_ ?_; rotate_left)))
        | (with_reducible ((with_reducible show JoinI _ _ _ _ _ _ _ _); (k_dflt (refine' JoinI.of ?hp ?F ?N ?hn; (case hp => first | exact FirstOf.next (by assumption) (by assumption) (by assumption) (by assumption) | exact FirstOf.last (by assumption) (by assumption) (by omega) (by assumption) | (law_clear; (try law_fm); omega)); (case F => k_asm); (case N => k_asm); (case hn => exact subR)))))
        | (with_reducible ((with_reducible show wpAny _ _ (eval (PySem.Expr.IfExp _ (PySem.Expr.BinOp _ _ _ _) _ _) _) _ _ _); (k_here; k_dflt (refine' joinI (fun z => -3000 ≤ z ∧ z ≤ 8000) ?kF ?kN ?_ ?_; (case kF => k_asm); (case kN => k_asm)); refine IfExp_ ?_; rotate_left; intro z8 t8 h8 tk8 hy8 F8 N8)))
        | (with_reducible ((with_reducible show wpAny _ _ (callWith _ (Value.ref _) _ _ _) _ _ _); (k_here; k_dflt (refine' callWith_F ?k1 ?_; (case k1 => (refine' rowFn ?kR ?kO ?kN; (case kR => assumption); (case kN => k_asm); (case kO => (repeat (first | assumption | (refine subC ?_)))))); k_whole))))
        | (with_reducible ((with_reducible show FnAt _ _); (k_here; k_dflt (refine' rowFn ?kR ?kO ?kN; (case kR => assumption); (case kN => k_asm); (case kO => (repeat (first | assumption | (refine subC ?_))))))))
        | (with_reducible ((with_reducible show wpAny _ _ (eval (PySem.Expr.Lambda _ _ _ _) _) _ _ _); (k_here; kn_here; k_dflt (refine' kla_eval ?d0 ?_; (case d0 => exact rfl)); k_dflt (refine' kla_nest ?F ?N ?T ?C ?cd ?U ?t ?n ?cl ?_; (case F => k_asm); (case N => k_asm); (case T => k_asm); (case cd => exact rfl); (case C => kn_code); (case U => k_updF); (case t => kn_triples); (case n => kn_among); (case cl => exact rfl); k_whole); intro f' c' oc' vs' t' ct' h' tk' F' N' d1' d2' l1 l2; (try dsimp only at N'); (try k_lt l1); (try k_lt2 l2); k_dflt (have HR0 := rowC_mk (by assumption) (by assumption) N' (by k_mem) (by k_mem) d1' d2' (by assumption) (by k_mem) (by (law_clear; (try law_fm); omega)) (by (intro nw y ty m1 m2 m3 hy hpp dp un gd cn cs a ccd cl outer A₀ base h₀ L m s Q E B F X N T hk hd hu hret; refine wpAny_call ?_; k_dflt (refine' kla_code ?k1 ?k2 ?k3 ?k4 ?k5 ?kA ?kF ?kK ?k6 ?k7 ?k8 ?k9 ?kB ?_ ?c2 ?c3 ?c4 ?c5; (case kA => exact rfl); (case kF => exact rfl); (case kK => assumption); (case k1 => k_asm); (case k2 => k_asm); (case k3 => k_asm); (case k4 => k_asm); (case k5 => k_asm); (case k6 => exact m1); (case k7 => exact codeRec_news N m2 d1' d2'); (case k8 => ktr_room); (case k9 => exact rfl); (case c5 => decide); (case kB => exact locs rfl); (case c2 => exact rfl); (case c3 => exact rfl); (case c4 => exact rfl); k_whole; intro g' L' h' FG' F' N' B' X' T'; (try dsimp only); (try k_lift B'); (try k_fold)); (repeat' (first | ((with_reducible show wpAny _ _ (call (Value.ref _) _) _ _ _); first | (with_reducible ((with_reducible show wpAny _ _ (call (Value.ref 155) _) _ _ _); (k_here; k_dflt (refine' use (c_dayof _ _ _ _ _ ?kp ?kq) ?k1 ?k2 ?k3 ?k4 ?k5 ?kK ?kd ?ku ?_; (case kp => first | assumption | omega | (law_clear; (try law_fm); omega) | ((simp (disch := omega) only [Int.fmod_eq_emod_of_nonneg, Int.fdiv_eq_ediv_of_nonneg]); omega)); (case kq => first | assumption | omega | (law_clear; (try law_fm); omega) | ((simp (disch := omega) only [Int.fmod_eq_emod_of_nonneg, Int.fdiv_eq_ediv_of_nonneg]); omega)); (case k1 => k_asm); (case k2 => k_asm); (case k3 => k_asm); (case k4 => k_asm); (case k5 => k_asm); (case kK => first | exact rfl | assumption); (case kd => ktr_room); (case ku => ktr_units); intro t9 h9 tk9 z9 F9 N9 e9 P9; (try dsimp only); (try k_fold))))) ) | (k_unfold; (try dsimp only)) | (k_end; kc_close) | walk1 | (dsimp only; walk1) | (leave1; (try dsimp only)) | fail "no step")); all_goals (refine endI (Q := Q) (s := s) hret trivial ?_ (by k_asm) (by k_asm) subR); all_goals (clear hret; law_clear; omega)))); (obtain ⟨HR, hp, hO⟩ := HR0))))
        | (with_reducible ((with_reducible show wpAny _ _ (binaryOp Operator.Mod (Value.int _ _) (Value.int (_ - _) _)) _ _ _); (k_here; k_dflt (refine' mod_letter ?hb ?_; (case hb => first | decide | omega | (law_clear; omega))); intro z9 q9)))
        | (with_reducible ((with_reducible show wpAny _ _ (binaryOp Operator.Mod (Value.int _ _) (Value.int 12 _)) _ _ _); (k_here; k_dflt (refine' mod_letter ?hb ?_; (case hb => first | decide | omega | (law_clear; omega))); intro z9 q9)))
        | (with_reducible ((with_reducible show wpAny _ _ (binaryOp Operator.Mod (Value.int _ _) (Value.int 11000 _)) _ _ _); (k_here; k_dflt (refine' mod_letter ?hb ?_; (case hb => first | decide | omega | (law_clear; omega))); intro z9 q9)))
        | (with_reducible ((with_reducible show wpAny _ _ (binaryOp Operator.Mod (Value.int _ _) (Value.int 100000000 _)) _ _ _); (k_here; k_dflt (refine' mod_letter ?hb ?_; (case hb => first | decide | omega | (law_clear; omega))); intro z9 q9)))
        | (with_reducible ((with_reducible show wpAny _ _ (compareOp CmpOp.In (Value.int _ _) (Value.ref _)) _ _ _); (k_here; k_dflt (first
  | (refine' in_top4 ?F ?X ?l ?_; (case F => k_asm); (case X => k_asm); (case l => k_is); k_whole)
  | (refine' in_top5 ?F ?X ?l ?_; (case F => k_asm); (case X => k_asm); (case l => k_is); k_whole)
  | (refine' in_top6 ?F ?X ?l ?_; (case F => k_asm); (case X => k_asm); (case l => k_is); k_whole)))))
        | (k_unfold; (try dsimp only)) | (k_end; kc_close) | walk1 | (dsimp only; walk1) | (leave1; (try dsimp only)) | fail "no step"))))
end Mine
theorem PySem.Challenge.cw_ja0018_01_holds : PySem.Challenge.rw_ja0018_01.Holds :=
  Mine.law_holds
