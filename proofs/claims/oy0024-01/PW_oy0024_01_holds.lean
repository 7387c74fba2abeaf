import PyProof.Rows.All
import Wide.All
import OpenK.AllK
import Wide.FinOn
import PySem.Challenge.RW_oy0024_01
open PySem PySem.W PyProof.Rows
set_option Elab.async false
set_option maxRecDepth 100000
set_option maxHeartbeats 8000000
set_option linter.unusedVariables false
set_option linter.unusedSimpArgs false
namespace Mine
open_top hd for PySem.Challenge.rw_oy0024_01

-- the common lines
local macro_rules | `(tactic| walk_at $s:str) => `(tactic| k_extra $s)
local macro_rules | `(tactic| k_enter) => `(tactic| first
  | (refine' code_def ?k1 ?k2 ?k3 ?k4 ?k5 ?kA ?kF ?kK ?k6 ?k7 ?k8 ?k9 ?kB ?_ ?c2 ?c3 ?c4 ?c5; (case kA => exact rfl); (case kF => exact rfl); (case kK => first | exact rfl | assumption); (case k1 => k_asm); (case k2 => k_asm); (case k3 => k_asm); (case k4 => k_asm); (case k5 => k_asm); (case k6 => k_is); (case k7 => k_is); (case k8 => ktr_room); (case k9 => first | exact BindsTo.of_eq rfl | exact binds_K (by k_in) rfl (by k_is) rfl rfl rfl); (case c5 => decide); (case kB => exact locs rfl); (case c2 => exact rfl); (case c3 => exact rfl); (case c4 => exact rfl); k_whole; intro g' L' h' FG' F' N' B' X' T'; (try dsimp only); (try k_lift B'); (try k_fold))
  | (refine' code_defC ?k1 ?k2 ?k3 ?k4 ?k5 ?kA ?kF ?kK ?k6 ?k7 ?k8 ?k9 ?kB ?kD ?_ ?c2 ?c3 ?c4; (case kA => exact rfl); (case kF => exact rfl); (case kK => first | exact rfl | assumption); (case k1 => k_asm); (case k2 => k_asm); (case k3 => k_asm); (case k4 => k_asm); (case k5 => k_asm); (case k6 => k_is); (case k7 => k_is); (case k8 => ktr_room); (case k9 => first | exact BindsTo.of_eq rfl | exact binds_K (by k_in) rfl (by k_is) rfl rfl rfl); (case kB => exact rfl); (case kD => decide +kernel); (case c2 => exact rfl); (case c3 => exact rfl); (case c4 => exact rfl); k_whole; intro g' L' h' tk' cells' FG' F' N' Y' B' X' T' l1; (try k_lt l1); k_cells Y'; (try simp only [List.cons_append, List.nil_append] at N'); (try dsimp only); (try k_lift B'); (try k_fold)))

-- part P0
section
noncomputable abbrev prg : Program := PySem.Challenge.rw_oy0024_01.row.prog
noncomputable abbrev lse : List Str := looseW hd.view_39 [Str.ofString "b2a_base64", Str.ofString "b64encode"]

def Ctr (w : World) (mean : ExcName → Option Value) (mg mb : Str → Option Value) (f : Addr) (args : List Value) (news : List (Addr × Obj)) (d : Nat) (Ret : Value → List (Addr × Obj) → Prop) : Prop :=
  ∀ (dp un : Nat) (gd : Option (List Code)) (cn : Str) (cs : Scope) (a : Addr) (ccd : Value) (cl : List (Str × Addr)) (outer : List Env) (A₀ : Around) (base h₀ : Heap) (L : Addr) (m : Str → Option Value) (s : Shared) (Q E : Value → Shared → Prop),
    Below A₀ base outer h₀ → Fr h₀ L s.heap m → (hd.heap_39 w.params).In h₀ → News h₀ L s.heap news → Top hd.view_39 lse mean mg mb h₀ → cs.kind = .function →
    dp + d < recursionLimit → un + 8 * d < cLine →
    (∀ v news' h' tk', Ret v news' → Fr h₀ L h' m → News h₀ L h' news' → Q v { s with heap := h', toks := tk' }) →
    wpAny (model prg w) (ktrTop dp un gd cn cs L a ccd cl outer) (call (.ref f) args) Q E s

def HeapP : List Int → Prop
  | [a, b] => a ≤ b
  | [a, b, c] => a ≤ b ∧ a ≤ c
  | [a, b, c, d] => a ≤ b ∧ a ≤ c ∧ b ≤ d
  | [a, b, c, d, e] => a ≤ b ∧ a ≤ c ∧ b ≤ d ∧ b ≤ e
  | _ => False

def HrRet (l : Addr) (rest : List (Addr × Obj)) (x0 : Int) (zs : List Int) (v : Value) (news' : List (Addr × Obj)) : Prop :=
  ∃ t vs' ys n', v = .int x0 t ∧ news' = (l, listOf vs'.toArray n') :: rest ∧ IntsAre vs' ys ∧ HeapP ys ∧ ys.Perm zs
theorem hr_ret {h₀ h' : Heap} {L l : Addr} {m : Str → Option Value} {rest : List (Addr × Obj)} {s : Shared} {Q : Value → Shared → Prop} {x0 x0' : Int} {zs : List Int} {t : Tok} {tk' n' : Nat} {vs' : List Value} {ys : List Int}
    (ret : ∀ v news' h' tk', HrRet l rest x0 zs v news' → Fr h₀ L h' m → News h₀ L h' news' → Q v { s with heap := h', toks := tk' })
    (F : Fr h₀ L h' m) (N : News h₀ L h' ((l, listOf vs'.toArray n') :: rest)) (hi : IntsAre vs' ys) (e0 : x0' = x0) (hH : HeapP ys) (hp : ys.Perm zs) : Q (.int x0' t) { s with heap := h', toks := tk' } :=
  ret _ _ _ _ ⟨t, vs', ys, n', by rw [e0], rfl, hi, hH, hp⟩ F N
end

-- part C1
section
local macro_rules | `(tactic| k_all) => `(tactic| assumption)

theorem c_hr2 {w : World} {mean : ExcName → Option Value} {mg mb : Str → Option Value} {l : Addr} {rest : List (Addr × Obj)} {n : Nat} {x0 x1 y : Int} {t0 t1 ty : Tok} (hr : ∀ p ∈ rest, p.1 ≠ l) (hH : HeapP [x0, x1]) :
   Ctr w mean mg mb 28 [.ref l, .int y ty] ((l, listOf #[Value.int x0 t0, Value.int x1 t1] n) :: rest) 3 (HrRet l rest x0 [y, x1]) := by
  k_with_none
  (k_with "call ref" => (k_here; refine wpAny_call ?_; k_dflt k_enter))
  w_on
  intro dp un gd cn cs a ccd cl outer A₀ base h₀ L m s Q E B F X N T hk hd hu ret
  refine wpAny_call ?_
  k_dflt k_enter
  k_steps
  all_goals refine hr_ret (Q := Q) ret (by k_asm) (by k_asm) (by repeat constructor) rfl ?_ ?_
  all_goals simp only [List.getD_cons_zero, List.getD_cons_succ, Int.reduceMul, Int.reduceAdd, Int.reduceSub, Int.reduceToNat, Int.toNat_zero, HeapP] at *
  all_goals first | omega | (refine List.perm_iff_count.mpr (fun z => ?_); simp only [List.count_cons, List.count_nil] <;> omega)
theorem c_hr3 {w : World} {mean : ExcName → Option Value} {mg mb : Str → Option Value} {l : Addr} {rest : List (Addr × Obj)} {n : Nat} {x0 x1 x2 y : Int} {t0 t1 t2 ty : Tok} (hr : ∀ p ∈ rest, p.1 ≠ l) (hH : HeapP [x0, x1, x2]) :
   Ctr w mean mg mb 28 [.ref l, .int y ty] ((l, listOf #[Value.int x0 t0, Value.int x1 t1, Value.int x2 t2] n) :: rest) 3 (HrRet l rest x0 [y, x1, x2]) := by
  k_with_none
  (k_with "call ref" => (k_here; refine wpAny_call ?_; k_dflt k_enter))
  w_on
  intro dp un gd cn cs a ccd cl outer A₀ base h₀ L m s Q E B F X N T hk hd hu ret
  refine wpAny_call ?_
  k_dflt k_enter
  k_steps
  all_goals refine hr_ret (Q := Q) ret (by k_asm) (by k_asm) (by repeat constructor) rfl ?_ ?_
  all_goals simp only [List.getD_cons_zero, List.getD_cons_succ, Int.reduceMul, Int.reduceAdd, Int.reduceSub, Int.reduceToNat, Int.toNat_zero, HeapP] at *
  all_goals first | omega | (refine List.perm_iff_count.mpr (fun z => ?_); simp only [List.count_cons, List.count_nil] <;> omega)
theorem c_hr4 {w : World} {mean : ExcName → Option Value} {mg mb : Str → Option Value} {l : Addr} {rest : List (Addr × Obj)} {n : Nat} {x0 x1 x2 x3 y : Int} {t0 t1 t2 t3 ty : Tok} (hr : ∀ p ∈ rest, p.1 ≠ l) (hH : HeapP [x0, x1, x2, x3]) :
   Ctr w mean mg mb 28 [.ref l, .int y ty] ((l, listOf #[Value.int x0 t0, Value.int x1 t1, Value.int x2 t2, Value.int x3 t3] n) :: rest) 3 (HrRet l rest x0 [y, x1, x2, x3]) := by
  k_with_none
  (k_with "call ref" => (k_here; refine wpAny_call ?_; k_dflt k_enter))
  w_on
  intro dp un gd cn cs a ccd cl outer A₀ base h₀ L m s Q E B F X N T hk hd hu ret
  refine wpAny_call ?_
  k_dflt k_enter
  k_steps
  all_goals refine hr_ret (Q := Q) ret (by k_asm) (by k_asm) (by repeat constructor) rfl ?_ ?_
  all_goals simp only [List.getD_cons_zero, List.getD_cons_succ, Int.reduceMul, Int.reduceAdd, Int.reduceSub, Int.reduceToNat, Int.toNat_zero, HeapP] at *
  all_goals first | omega | (refine List.perm_iff_count.mpr (fun z => ?_); simp only [List.count_cons, List.count_nil] <;> omega)
theorem c_hr5 {w : World} {mean : ExcName → Option Value} {mg mb : Str → Option Value} {l : Addr} {rest : List (Addr × Obj)} {n : Nat} {x0 x1 x2 x3 x4 y : Int} {t0 t1 t2 t3 t4 ty : Tok} (hr : ∀ p ∈ rest, p.1 ≠ l) (hH : HeapP [x0, x1, x2, x3, x4]) :
   Ctr w mean mg mb 28 [.ref l, .int y ty] ((l, listOf #[Value.int x0 t0, Value.int x1 t1, Value.int x2 t2, Value.int x3 t3, Value.int x4 t4] n) :: rest) 3 (HrRet l rest x0 [y, x1, x2, x3, x4]) := by
  k_with_none
  (k_with "call ref" => (k_here; refine wpAny_call ?_; k_dflt k_enter))
  w_on
  intro dp un gd cn cs a ccd cl outer A₀ base h₀ L m s Q E B F X N T hk hd hu ret
  refine wpAny_call ?_
  k_dflt k_enter
  k_steps
  all_goals refine hr_ret (Q := Q) ret (by k_asm) (by k_asm) (by repeat constructor) rfl ?_ ?_
  all_goals simp only [List.getD_cons_zero, List.getD_cons_succ, Int.reduceMul, Int.reduceAdd, Int.reduceSub, Int.reduceToNat, Int.toNat_zero, HeapP] at *
  all_goals first | omega | (refine List.perm_iff_count.mpr (fun z => ?_); simp only [List.count_cons, List.count_nil] <;> omega)
end

-- part C1b
section
theorem ints_cons {vs : List Value} {x : Int} {xs : List Int} (h : IntsAre vs (x :: xs)) : ∃ t vs', vs = Value.int x t :: vs' ∧ IntsAre vs' xs := by
  cases h with
  | cons n t h => exact ⟨t, _, rfl, h⟩
theorem ints_nil {vs : List Value} (h : IntsAre vs []) : vs = [] := by
  cases h
  rfl

theorem ctr_mono {w : World} {mean : ExcName → Option Value} {mg mb : Str → Option Value} {f : Addr} {args : List Value} {news news₁ : List (Addr × Obj)} {d : Nat} {R R₁ : Value → List (Addr × Obj) → Prop}
    (C : Ctr w mean mg mb f args news₁ d R₁) (hn : ∀ p ∈ news₁, p ∈ news) (hR : ∀ v n', R₁ v n' → ∃ n'', R v n'' ∧ ∀ p ∈ n'', p ∈ n') : Ctr w mean mg mb f args news d R := by
  intro dp un gd cn cs a ccd cl outer A₀ base h₀ L m s Q E B F X N T hk hd hu ret
  refine C dp un gd cn cs a ccd cl outer A₀ base h₀ L m s Q E B F X (fun p hp => N p (hn p hp)) T hk hd hu ?_
  intro v n' h' tk' hr F' N'
  obtain ⟨n'', h1, h2⟩ := hR v n' hr
  exact ret v n'' h' tk' h1 F' (fun p hp => N' p (h2 p hp))

def HrOut (nf : Obj → List (Addr × Obj)) (x0 : Int) (zs : List Int) (v : Value) (news' : List (Addr × Obj)) : Prop :=
  ∃ t vs' ys n', v = .int x0 t ∧ news' = nf (listOf vs'.toArray n') ∧ IntsAre vs' ys ∧ HeapP ys ∧ ys.Perm zs

theorem c_heapreplace {w : World} {mean : ExcName → Option Value} {mg mb : Str → Option Value} {l : Addr} {n : Nat} {vs : List Value} {xs : List Int} {y : Int} {ty : Tok} {news : List (Addr × Obj)} {nf : Obj → List (Addr × Obj)}
    (hi : IntsAre vs xs) (hH : HeapP xs) (U : UpdF l (listOf vs.toArray n) news nf) :
    Ctr w mean mg mb 28 [.ref l, .int y ty] news 3 (HrOut nf (xs.headD 0) (y :: xs.tail)) := by
  obtain ⟨pre, post, rfl, hnf, hpre, hpost⟩ := U.split
  have hr : ∀ p ∈ pre ++ post, p.1 ≠ l := fun p hp => (List.mem_append.mp hp).elim (hpre p) (hpost p)
  have key : ∀ {x0 : Int} {zs : List Int} {o : Obj}, o = listOf vs.toArray n → Ctr w mean mg mb 28 [.ref l, .int y ty] ((l, o) :: (pre ++ post)) 3 (HrRet l (pre ++ post) x0 zs) → Ctr w mean mg mb 28 [.ref l, .int y ty] (pre ++ (l, listOf vs.toArray n) :: post) 3 (HrOut nf x0 zs) := by
    intro x0 zs o ho C
    subst ho
    refine ctr_mono C ?_ ?_
    · intro p hp
      simp only [List.mem_cons, List.mem_append] at hp ⊢
      rcases hp with h | h | h
      · exact .inr (.inl h)
      · exact .inl h
      · exact .inr (.inr h)
    · rintro v n' ⟨t, vs', ys, m', rfl, rfl, h1, h2, h3⟩
      refine ⟨_, ⟨t, vs', ys, m', rfl, rfl, h1, h2, h3⟩, ?_⟩
      rw [hnf]
      intro p hp
      simp only [List.mem_cons, List.mem_append] at hp ⊢
      rcases hp with h | h | h
      · exact .inr (.inl h)
      · exact .inl h
      · exact .inr (.inr h)
  match xs, hH with
  | [a, b], hH =>
    obtain ⟨t0, vs0, rfl, hi0⟩ := ints_cons hi
    obtain ⟨t1, vs1, rfl, hi1⟩ := ints_cons hi0
    obtain rfl := ints_nil hi1
    exact key rfl (c_hr2 hr hH)
  | [a, b, c], hH =>
    obtain ⟨t0, vs0, rfl, hi0⟩ := ints_cons hi
    obtain ⟨t1, vs1, rfl, hi1⟩ := ints_cons hi0
    obtain ⟨t2, vs2, rfl, hi2⟩ := ints_cons hi1
    obtain rfl := ints_nil hi2
    exact key rfl (c_hr3 hr hH)
  | [a, b, c, d], hH =>
    obtain ⟨t0, vs0, rfl, hi0⟩ := ints_cons hi
    obtain ⟨t1, vs1, rfl, hi1⟩ := ints_cons hi0
    obtain ⟨t2, vs2, rfl, hi2⟩ := ints_cons hi1
    obtain ⟨t3, vs3, rfl, hi3⟩ := ints_cons hi2
    obtain rfl := ints_nil hi3
    exact key rfl (c_hr4 hr hH)
  | [a, b, c, d, e], hH =>
    obtain ⟨t0, vs0, rfl, hi0⟩ := ints_cons hi
    obtain ⟨t1, vs1, rfl, hi1⟩ := ints_cons hi0
    obtain ⟨t2, vs2, rfl, hi2⟩ := ints_cons hi1
    obtain ⟨t3, vs3, rfl, hi3⟩ := ints_cons hi2
    obtain ⟨t4, vs4, rfl, hi4⟩ := ints_cons hi3
    obtain rfl := ints_nil hi4
    exact key rfl (c_hr5 hr hH)
end

-- part C2
section
/-- what _law_even gives -/
def evenI (sc wt few : Int) : Int := few * (Int.fdiv wt sc) + (if Int.fmod wt sc < few then Int.fmod wt sc else few)

theorem allLt_mem {d : Addr} : ∀ {l : List (Addr × Obj)}, AllLt d l → ∀ p ∈ l, p.1 < d
  | [], _, _, h => nomatch h
  | _ :: _, h, _, .head _ => h.1
  | _ :: _, h, p, .tail _ m => allLt_mem h.2 p m

theorem c_even {w : World} {mean : ExcName → Option Value} {mg mb : Str → Option Value} {news : List (Addr × Obj)} {sc wt few : Int} {t0 t1 t2 : Tok} (h0 : 0 < sc) (hsc : sc ≤ 5) (hf : 0 ≤ few) (hf2 : few ≤ 5) :
   Ctr w mean mg mb 93 [.int sc t0, .int wt t1, .int few t2] news 1 (fun v news' => ∃ t, v = .int (evenI sc wt few) t ∧ news' = news) := by
  k_with_none
  (k_with "call ref" => (k_here; refine wpAny_call ?_; k_dflt k_enter))
  (k_with "call type:range" => ((rename Fr _ _ _ _ => F'); (rename News _ _ _ _ => N'); with_unfolding_all refine range1_rows F' N' ?_; intro _ _ _ _ _ _ _ _ _))
  (k_with "call builtin:list.append" => (k_here; k_dflt (refine' append_K ?zq2k1 ?zq2k2 ?zq2k3 ?_ ?zq2z; (case zq2k1 => k_asm); (case zq2k2 => k_asm); (case zq2k3 => k_upd); (case zq2z => size_fits); k_whole); intro h' F' N'; (try k_sweep)))
  w_on
  intro dp un gd cn cs a ccd cl outer A₀ base h₀ L m s Q E B F X N T hk hd hu ret
  refine wpAny_call ?_
  k_dflt k_enter
  k_steps
  all_goals (refine ret _ news _ _ ⟨_, rfl, rfl⟩ ?_ ?_ <;> k_asm)

def wayAt (bf : List Int) (b q sc few kept : Int) : Int := b * bf.getD kept.toNat 0 + evenI (sc - kept) (q - b * bf.getD kept.toNat 0) (few - kept)

def waysAt (bf : List Int) (b q sc few : Int) : List Int := (b * bf.getD few.toNat 0) :: (rangeKs 0 few.toNat).map (wayAt bf b q sc few)

def HvInv (bf : List Int) (b q sc : Int) (n : Nat) (S : List Int) : Prop :=
  ∀ i : Nat, i < n → S.getD i 0 ∈ waysAt bf b q sc i ∧ ∀ a ∈ waysAt bf b q sc i, a ≤ S.getD i 0

theorem hv_start {bf : List Int} {b q sc : Int} : (([] : List Int).length = ([] : List Int).length) ∧ HvInv bf b q sc ([] : List Int).length [] := ⟨rfl, fun i h => nomatch h⟩

theorem hv_step {bf : List Int} {b q sc : Int} {pre sums ways : List Int} {k M : Int} (hl : sums.length = pre.length) (hI : HvInv bf b q sc pre.length sums) (hk : k = 0 + (pre.length : Int))
    (hw : ways = (b * bf.getD k.toNat 0) :: (rangeKs 0 (k - 0).toNat).map (wayAt bf b q sc k))
    (h1 : M ∈ ways) (h2 : ∀ a, a ∈ ways → a ≤ M) : ((sums ++ [M]).length = (pre ++ [k]).length) ∧ HvInv bf b q sc (pre ++ [k]).length (sums ++ [M]) := by
  refine ⟨by simp [hl], fun i hi => ?_⟩
  rw [List.length_append, List.length_singleton] at hi
  have ek : k = (pre.length : Int) := by omega
  have ew : ways = waysAt bf b q sc k := by rw [hw]; unfold waysAt; rw [Int.sub_zero]
  rcases Nat.lt_or_ge i pre.length with h3 | h3
  · have e : (sums ++ [M]).getD i 0 = sums.getD i 0 := by
      simp only [List.getD_eq_getElem?_getD]
      rw [List.getElem?_append_left (by omega)]
    rw [e]
    exact hI i h3
  · have ei : i = pre.length := by omega
    have e : (sums ++ [M]).getD i 0 = M := by
      simp only [List.getD_eq_getElem?_getD]
      rw [List.getElem?_append_right (by omega), ei, hl]
      simp
    rw [e, ei, ← ek, ← ew]
    exact ⟨h1, h2⟩

theorem way_start {x : Int} {f : Int → Int} : ([x] : List Int).length = ([] : List Int).length + 1 ∧ [x] = x :: ([] : List Int).map f := ⟨rfl, rfl⟩
theorem way_step {x v k : Int} {f : Int → Int} {pre ways : List Int} (h1 : ways.length = pre.length + 1) (h2 : ways = x :: pre.map f) (hv : v = f k) : (ways ++ [v]).length = (pre ++ [k]).length + 1 ∧ (ways ++ [v]) = x :: (pre ++ [k]).map f := by
  refine ⟨by simp [h1], ?_⟩
  rw [h2, hv]
  simp

def HvOut (l : Addr) (o : Obj) (rest : List (Addr × Obj)) (bf : List Int) (b q sc : Int) (v : Value) (news' : List (Addr × Obj)) : Prop :=
  ∃ (r : Addr) (n' : Nat) (vs' : List Value) (S : List Int), v = .ref r ∧ news' = (r, listOf vs'.toArray n') :: (l, o) :: rest ∧ (∀ p ∈ (l, o) :: rest, p.1 < r) ∧ IntsAre vs' S ∧ (S.length : Int) = sc + 1 ∧ HvInv bf b q sc S.length S

theorem hv_ret {h₀ h' : Heap} {L l r : Addr} {o : Obj} {m : Str → Option Value} {rest : List (Addr × Obj)} {s : Shared} {Q : Value → Shared → Prop} {bf S : List Int} {b q sc : Int} {tk' n' : Nat} {vs' : List Value}
    (ret : ∀ v news' h' tk', HvOut l o rest bf b q sc v news' → Fr h₀ L h' m → News h₀ L h' news' → Q v { s with heap := h', toks := tk' }) (h0 : 2 ≤ sc)
    (F : Fr h₀ L h' m) (N : News h₀ L h' ((r, listOf vs'.toArray n') :: (l, o) :: rest)) (hlt : l < r ∧ AllLt r rest) (hi : IntsAre vs' S)
    (hL : S.length = (rangeKs 0 (sc + 1 - 0).toNat).length) (hI : HvInv bf b q sc (rangeKs 0 (sc + 1 - 0).toNat).length S) : Q (.ref r) { s with heap := h', toks := tk' } := by
  refine ret _ _ _ _ ⟨r, n', vs', S, rfl, rfl, ?_, hi, ?_, ?_⟩ F N
  · intro p hp
    rcases List.mem_cons.mp hp with rfl | hp
    · exact hlt.1
    · exact allLt_mem hlt.2 p hp
  · rw [hL, rangeKs_length]; omega
  · rw [hL]; exact hI

theorem c_heav {w : World} {mean : ExcName → Option Value} {mg mb : Str → Option Value} {rest : List (Addr × Obj)} {l : Addr} {vs : List Value} {bf : List Int} {n : Nat} {b q sc : Int} {t0 t1 t2 : Tok} (hi : IntsAre vs bf) (hlen : (bf.length : Int) = sc + 1) (h0 : 2 ≤ sc) (hs : sc ≤ 5) (hb : 0 ≤ b) (hb2 : b ≤ 64) :
   Ctr w mean mg mb 100 [.ref l, .int b t0, .int q t1, .int sc t2] ((l, listOf vs.toArray n) :: rest) 2 (HvOut l (listOf vs.toArray n) rest bf b q sc) := by
  k_with_none
  (k_with "call ref" => (k_here; refine wpAny_call ?_; k_dflt k_enter))
  (k_with "call type:range" => ((rename Fr _ _ _ _ => F'); (rename News _ _ _ _ => N'); with_unfolding_all refine range1_rows F' N' ?_; intro _ _ _ _ _ _ _ _ _))
  (k_with "call builtin:list.append" => (k_here; k_dflt (refine' append_K ?zq2k1 ?zq2k2 ?zq2k3 ?_ ?zq2z; (case zq2k1 => k_asm); (case zq2k2 => k_asm); (case zq2k3 => k_upd); (case zq2z => size_fits); k_whole); intro h' F' N'; (try k_sweep)))
  w_on
  intro dp un gd cn cs a ccd cl outer A₀ base h₀ L m s Q E B F X N T hk hd hu ret
  refine wpAny_call ?_
  k_dflt k_enter
  (k_with "pyIter ref" => (k_of "few" => k_state_given ["before", "base", "quotient", "scales"] (fun bf b q sc pre sums => sums.length = pre.length ∧ HvInv bf b q sc pre.length sums) "sums"))
  (k_with "pyIter ref" => (k_of "kept" => k_state_given ["before", "base", "quotient", "scales", "few"] (fun bf b q sc few pre ways => ways.length = pre.length + 1 ∧ ways = (b * bf.getD few.toNat 0) :: pre.map (wayAt bf b q sc few)) "ways"))
  (k_with "state" => first | exact hv_start | exact way_start | exact way_step (by assumption) (by assumption) rfl | exact hv_step (by assumption) (by assumption) (by assumption) (by assumption) (by assumption) (by assumption))
  k_steps
  all_goals (refine hv_ret (Q := Q) ret (by assumption) (by k_asm) (by k_asm) (by assumption) (by assumption) (by assumption) (by assumption))
end

-- part C3a
section
theorem heap_min {xs : List Int} {M : Int} (hH : HeapP xs) (h1 : M ∈ xs) (h2 : ∀ a, a ∈ xs → M ≤ a) : xs.headD 0 = M := by
  match xs, hH with
  | [a, b], hH => simp only [HeapP, List.mem_cons, List.not_mem_nil, or_false, forall_eq_or_imp, forall_eq, List.headD_cons] at *; omega
  | [a, b, c], hH => simp only [HeapP, List.mem_cons, List.not_mem_nil, or_false, forall_eq_or_imp, forall_eq, List.headD_cons] at *; omega
  | [a, b, c, d], hH => simp only [HeapP, List.mem_cons, List.not_mem_nil, or_false, forall_eq_or_imp, forall_eq, List.headD_cons] at *; omega
  | [a, b, c, d, e], hH => simp only [HeapP, List.mem_cons, List.not_mem_nil, or_false, forall_eq_or_imp, forall_eq, List.headD_cons] at *; omega

theorem heapP_len {xs : List Int} (hH : HeapP xs) : 2 ≤ xs.length ∧ xs.length ≤ 5 := by
  match xs, hH with
  | [a, b], hH => exact ⟨by simp, by simp⟩
  | [a, b, c], hH => exact ⟨by simp, by simp⟩
  | [a, b, c, d], hH => exact ⟨by simp, by simp⟩
  | [a, b, c, d, e], hH => exact ⟨by simp, by simp⟩

/-- the power of the turn at hand -/
structure Mk (p : Int) : Prop where
theorem u_fdiv {w : World} {A : Around} {s : Shared} {Q E : Value → Shared → Prop} {a b c : Int} {t u : Tok} (hb : b ≠ 0) (e : a.fdiv b = c) (hp : b.natAbs.log2 < 9000) (h : Mk c → Q (.int c s.toks) { s with toks := s.toks + 1 }) : wpAny (model prg w) A (binaryOp .FloorDiv (.int a t) (.int b u)) Q E s :=
  floordiv_int hb (by rw [e]; exact h ⟨⟩) (Or.inl (PyProof.noPylong_of_log2 hp))
/-- t greedy steps by p from hs0 -/
inductive Grd (p : Int) (hs0 : List Int) : Nat → List Int → Prop
  | zero : HeapP hs0 → Grd p hs0 0 hs0
  | succ {t : Nat} {hs hs' : List Int} : Grd p hs0 t hs → HeapP hs' → hs'.Perm ((hs.headD 0 + p) :: hs.tail) → Grd p hs0 (t + 1) hs'
theorem Grd.heap {p : Int} {hs0 hs : List Int} {t : Nat} (h : Grd p hs0 t hs) : HeapP hs := by
  cases h with
  | zero h => exact h
  | succ _ h _ => exact h
theorem Grd.len {p : Int} {hs0 hs : List Int} {t : Nat} (h : Grd p hs0 t hs) : hs.length = hs0.length := by
  induction h with
  | zero _ => rfl
  | @succ t hs hs' g hH hp ih =>
    rw [hp.length_eq, ← ih]
    have := heapP_len g.heap
    simp only [List.length_cons, List.length_tail]
    omega

theorem heapP_zero {ns : List Int} {sc : Int} (h0 : 2 ≤ sc) (hs : sc ≤ 5) (h : ns = List.replicate sc.toNat 0) : HeapP ns := by
  have : sc = 2 ∨ sc = 3 ∨ sc = 4 ∨ sc = 5 := by omega
  rcases this with e | e | e | e <;> subst e <;> subst h <;> simp [HeapP, List.replicate]
theorem grd_start0 {p : Int} {hs : List Int} {sc : Int} (h0 : 2 ≤ sc) (h5 : sc ≤ 5) (h : hs = List.replicate sc.toNat 0) : hs.length = hs.length ∧ Grd p hs ([] : List Int).length hs := ⟨rfl, .zero (heapP_zero h0 h5 h)⟩
theorem grd_start1 {p p' : Int} {hs0 hs : List Int} {t : Nat} (h : Grd p' hs0 t hs) : hs.length = hs.length ∧ Grd p hs ([] : List Int).length hs := ⟨rfl, .zero h.heap⟩
theorem grd_step {p k : Int} {pre hs0 hs ys : List Int} (h : Grd p hs0 pre.length hs) (hH : HeapP ys) (hp : ys.Perm ((hs.headD 0 + p) :: hs.tail)) : ys.length = hs0.length ∧ Grd p hs0 (pre ++ [k]).length ys := by
  have g : Grd p hs0 (pre.length + 1) ys := .succ h hH hp
  exact ⟨g.len, by rw [List.length_append]; exact g⟩

section
variable {w : World} {mean : ExcName → Option Value} {mg mb : Str → Option Value} {dp un : Nat} {gd : Option (List Code)} {cn : Str} {cs : Scope} {a : Addr} {ccd : Value} {cl : List (Str × Addr)} {outer : List Env} {A₀ : Around} {base h₀ : Heap} {L : Addr} {m : Str → Option Value} {s : Shared} {Q E : Value → Shared → Prop} {news : List (Addr × Obj)}
theorem u_heapreplace {l : Addr} {n : Nat} {vs : List Value} {xs : List Int} {M p : Int} {ty : Tok} {nf : Obj → List (Addr × Obj)} (B : Below A₀ base outer h₀) (F : Fr h₀ L s.heap m) (X : (hd.heap_39 w.params).In h₀) (N : News h₀ L s.heap news) (T : Top hd.view_39 lse mean mg mb h₀) (hk : cs.kind = .function)
    (hdp : dp + 3 < recursionLimit) (hun : un + 24 < cLine) (U : UpdF l (listOf vs.toArray n) news nf) (hi : IntsAre vs xs) (hH : HeapP xs) (h1 : M ∈ xs) (h2 : ∀ a, a ∈ xs → M ≤ a)
    (ret : ∀ (t : Tok) (vs' : List Value) (ys : List Int) (n' : Nat) (h' : Heap) (tk' : Nat), Fr h₀ L h' m → News h₀ L h' (nf (listOf vs'.toArray n')) → IntsAre vs' ys → HeapP ys → ys.Perm ((xs.headD 0 + p) :: xs.tail) → Q (.int M t) { s with heap := h', toks := tk' }) :
    wpAny (model prg w) (ktrTop dp un gd cn cs L a ccd cl outer) (call (.ref 28) [.ref l, .int (M + p) ty]) Q E s := by
  refine c_heapreplace hi hH U dp un gd cn cs a ccd cl outer A₀ base h₀ L m s Q E B F X N T hk hdp hun ?_
  rintro v news' h' tk' ⟨t, vs', ys, n', rfl, rfl, hi', hH', hp⟩ F' N'
  have e := heap_min hH h1 h2
  rw [e]
  exact ret t vs' ys n' h' tk' F' N' hi' hH' (by rw [e]; exact hp)

theorem u_heav {l : Addr} {n : Nat} {vs : List Value} {bf : List Int} {b q sc : Int} {t0 t1 t2 : Tok} (B : Below A₀ base outer h₀) (F : Fr h₀ L s.heap m) (X : (hd.heap_39 w.params).In h₀) (N : News h₀ L s.heap news) (T : Top hd.view_39 lse mean mg mb h₀) (hk : cs.kind = .function)
    (hdp : dp + 2 < recursionLimit) (hun : un + 16 < cLine) (hm : (l, listOf vs.toArray n) ∈ news) (hi : IntsAre vs bf) (hlen : (bf.length : Int) = sc + 1) (h0 : 2 ≤ sc) (hs : sc ≤ 5) (hb : 0 ≤ b) (hb2 : b ≤ 64)
    (ret : ∀ (r : Addr) (vs' : List Value) (S : List Int) (n' : Nat) (h' : Heap) (tk' : Nat), Fr h₀ L h' m → News h₀ L h' ((r, listOf vs'.toArray n') :: news) → (∀ p ∈ news, p.1 < r) → IntsAre vs' S → (S.length : Int) = sc + 1 → HvInv bf b q sc S.length S → Q (.ref r) { s with heap := h', toks := tk' }) :
    wpAny (model prg w) (ktrTop dp un gd cn cs L a ccd cl outer) (call (.ref 100) [.ref l, .int b t0, .int q t1, .int sc t2]) Q E s := by
  refine c_heav (rest := news) (n := n) hi hlen h0 hs hb hb2 dp un gd cn cs a ccd cl outer A₀ base h₀ L m s Q E B F X ?_ T hk hdp hun ?_
  · intro p hp
    rcases List.mem_cons.mp hp with rfl | hp
    · exact N _ hm
    · exact N p hp
  · rintro v news' h' tk' ⟨r, n', vs', S, rfl, rfl, hlt, hi', hl', hI⟩ F' N'
    refine ret r vs' S n' h' tk' F' (fun p hp => N' p ?_) (fun p hp => hlt p (List.mem_cons_of_mem _ hp)) hi' hl' hI
    rcases List.mem_cons.mp hp with rfl | hp
    · exact List.mem_cons_self ..
    · exact List.mem_cons_of_mem _ (List.mem_cons_of_mem _ hp)

theorem ints_rep0 (t : Tok) : ∀ n : Nat, IntsAre (List.replicate n [Value.int 0 t]).flatten (List.replicate n 0)
  | 0 => .nil
  | n + 1 => by
    rw [List.replicate_succ, List.flatten_cons, List.replicate_succ]
    exact .cons 0 t (ints_rep0 t n)
theorem u_mul0 {l : Addr} {x : Int} {t u : Tok} {A : Around} (F : Fr h₀ L s.heap m) (N : News h₀ L s.heap news) (hl : s.heap.IsList l [Value.int 0 t].toArray) (h0 : 0 ≤ x) (h1 : x ≤ 6)
    (h : ∀ D h' (vs : List Value) (ns : List Int), Fr h₀ L h' m → News h₀ L h' ((D, listOf vs.toArray 0) :: news) → (∀ p ∈ news, p.1 < D) → IntsAre vs ns → ns = List.replicate x.toNat 0 → (ns.length : Int) = x → Q (.ref D) { s with heap := h' }) :
    wpAny (model prg w) A (binaryOp .Mult (.ref l) (.int x u)) Q E s :=
  KMa.mul F N hl (by omega) (by omega) (by simp only [List.length_cons, List.length_nil]; omega) rfl fun D h' F' N' l1 => h D h' _ _ F' N' l1 (ints_rep0 t _) rfl (by rw [List.length_replicate]; omega)
end
end

-- part M1
section
/-- sorted, the heaviest first -/
def SD (D : List Int) : Prop := D.Pairwise (fun a b => b ≤ a)

def evI (sc wt few : Int) : Int := few * (Int.fdiv wt sc) + (if Int.fmod wt sc < few then Int.fmod wt sc else few)

theorem sum_ge {c : Int} : ∀ {l : List Int}, (∀ y ∈ l, c ≤ y) → (l.length : Int) * c ≤ l.sum
  | [], _ => by simp
  | x :: r, h => by
    have h1 := h x (List.mem_cons_self ..)
    have h2 := sum_ge (c := c) (l := r) (fun y hy => h y (List.mem_cons_of_mem _ hy))
    simp only [List.length_cons, List.sum_cons, Int.natCast_add, Int.add_mul, Int.natCast_one, Int.one_mul]
    omega
theorem sum_le {c : Int} : ∀ {l : List Int}, (∀ y ∈ l, y ≤ c) → l.sum ≤ (l.length : Int) * c
  | [], _ => by simp
  | x :: r, h => by
    have h1 := h x (List.mem_cons_self ..)
    have h2 := sum_le (c := c) (l := r) (fun y hy => h y (List.mem_cons_of_mem _ hy))
    simp only [List.length_cons, List.sum_cons, Int.natCast_add, Int.add_mul, Int.natCast_one, Int.one_mul]
    omega
theorem sum_lt {c : Int} : ∀ {l : List Int}, (∀ y ∈ l, y ≤ c + 1) → c ∈ l → l.sum < (l.length : Int) * (c + 1)
  | x :: r, h, hm => by
    have h1 := h x (List.mem_cons_self ..)
    have h2 := sum_le (c := c + 1) (l := r) (fun y hy => h y (List.mem_cons_of_mem _ hy))
    simp only [List.length_cons, List.sum_cons, Int.natCast_add, Int.add_mul, Int.natCast_one, Int.one_mul] at *
    rcases List.mem_cons.mp hm with e | hm
    · omega
    · have h3 := sum_lt (c := c) (l := r) (fun y hy => h y (List.mem_cons_of_mem _ hy)) hm
      omega

theorem sum_take_drop (R : List Int) (f : Nat) : (R.take f).sum + (R.drop f).sum = R.sum := by
  rw [← List.sum_append, List.take_append_drop]

theorem cut (R : List Int) (hS : SD R) (f : Nat) (q : Int) : (∀ y ∈ R.take f, q + 1 ≤ y) ∨ (∀ y ∈ R.drop f, y ≤ q) := by
  have h : ((R.take f) ++ (R.drop f)).Pairwise (fun a b => b ≤ a) := by rw [List.take_append_drop]; exact hS
  have h3 := (List.pairwise_append.mp h).2.2
  by_cases hc : ∀ y ∈ R.take f, q + 1 ≤ y
  · exact .inl hc
  · refine .inr fun z hz => ?_
    have ⟨y, hy⟩ := Classical.not_forall.mp hc
    have ⟨hy1, hy2⟩ := Classical.not_imp.mp hy
    have := h3 y hy1 z hz
    omega

theorem fdm (a b : Int) (hb : 0 < b) : a = b * a.fdiv b + a.fmod b ∧ 0 ≤ a.fmod b ∧ a.fmod b < b := by
  rw [Int.fdiv_eq_ediv_of_nonneg _ (Int.le_of_lt hb), Int.fmod_eq_emod_of_nonneg _ (Int.le_of_lt hb)]
  have h1 := Int.mul_ediv_add_emod a b
  have h2 := Int.emod_nonneg a (Int.ne_of_gt hb)
  have h3 := Int.emod_lt_of_pos a hb
  omega

theorem even_le_top (R : List Int) (hS : SD R) (f : Nat) (hf : f ≤ R.length) (hm : 0 < R.length) : evI R.length R.sum f ≤ (R.take f).sum := by
  have ⟨h1, h2, h3⟩ := fdm R.sum R.length (by omega)
  unfold evI
  generalize hq : R.sum.fdiv R.length = q at *
  generalize hr : R.sum.fmod R.length = r at *
  have hs := sum_take_drop R f
  have e1 : ((R.take f).length : Int) = (f : Int) := by rw [List.length_take, Nat.min_eq_left hf]
  have e2 : ((R.drop f).length : Int) = (R.length : Int) - (f : Int) := by rw [List.length_drop]; omega
  have hmin : (if r < (f : Int) then r else (f : Int)) ≤ r ∧ (if r < (f : Int) then r else (f : Int)) ≤ f := by split <;> omega
  rcases cut R hS f q with h | h
  · have := sum_ge h
    rw [e1, Int.mul_add, Int.mul_one] at this
    omega
  · have := sum_le h
    rw [e2, Int.sub_mul] at this
    omega

theorem even_of_flat (R : List Int) (f : Nat) (hf : f ≤ R.length) (v : Int) (hv : v ∈ R) (hb : ∀ y ∈ R, v ≤ y ∧ y ≤ v + 1) : (R.take f).sum ≤ evI R.length R.sum f := by
  have hm : 0 < R.length := List.length_pos_of_mem hv
  have ⟨h1, h2, h3⟩ := fdm R.sum R.length (by omega)
  have a1 := sum_ge (l := R) (c := v) (fun y hy => (hb y hy).1)
  have a2 := sum_lt (l := R) (c := v) (fun y hy => (hb y hy).2) hv
  rw [Int.mul_add, Int.mul_one] at a2
  have hq : R.sum.fdiv R.length = v := by
    generalize R.sum.fdiv R.length = q at *
    rcases Int.lt_trichotomy q v with h | h | h
    · have : (R.length : Int) * (q + 1) ≤ R.length * v := Int.mul_le_mul_of_nonneg_left (by omega) (by omega)
      rw [Int.mul_add, Int.mul_one] at this
      omega
    · exact h
    · have : (R.length : Int) * (v + 1) ≤ R.length * q := Int.mul_le_mul_of_nonneg_left (by omega) (by omega)
      rw [Int.mul_add, Int.mul_one] at this
      omega
  unfold evI
  rw [hq] at h1 ⊢
  generalize hr : R.sum.fmod R.length = r at *
  have hs := sum_take_drop R f
  have e1 : ((R.take f).length : Int) = (f : Int) := by rw [List.length_take, Nat.min_eq_left hf]
  have e2 : ((R.drop f).length : Int) = (R.length : Int) - (f : Int) := by rw [List.length_drop]; omega
  have b1 := sum_le (l := R.take f) (c := v + 1) (fun y hy => (hb y (List.mem_of_mem_take hy)).2)
  have b2 := sum_ge (l := R.drop f) (c := v) (fun y hy => (hb y (List.mem_of_mem_drop hy)).1)
  rw [e1, Int.mul_add, Int.mul_one] at b1
  rw [e2, Int.sub_mul] at b2
  split <;> omega

/-- what greedy dealing keeps: D behind t units dealt, D0 ahead -/
structure Dealt (D0 : List Int) (t : Int) (D : List Int) : Prop where
  len : D.length = D0.length
  up : ∀ k, (D0.take k).sum ≤ (D.take k).sum
  sum : D.sum = D0.sum + t
  sd : SD D
  flat : ∃ j v, D.take j = D0.take j ∧ (∀ y ∈ D.drop j, v ≤ y ∧ y ≤ v + 1) ∧ (j < D.length → v ∈ D.drop j)

theorem Dealt.zero {D0 : List Int} (h : SD D0) : Dealt D0 0 D0 :=
  ⟨rfl, fun _ => Int.le_refl _, by omega, h, D0.length, 0, rfl, fun y hy => (by simp at hy), fun hj => absurd hj (Nat.lt_irrefl _)⟩

theorem tail_min {D : List Int} {v : Int} (hS : SD D) (hv : v ∈ D) (hm : ∀ y ∈ D, v ≤ y) : ∃ A c, D = A ++ v :: List.replicate c v ∧ ∀ y ∈ A, v + 1 ≤ y := by
  induction D with
  | nil => cases hv
  | cons x R ih =>
    have hS' := List.pairwise_cons.mp hS
    by_cases e : x = v
    · subst e
      refine ⟨[], R.length, ?_, fun y hy => (nomatch hy)⟩
      rw [List.nil_append]
      congr 1
      refine List.eq_replicate_of_mem fun y hy => ?_
      have h1 := hS'.1 y hy
      have h2 := hm y (List.mem_cons_of_mem _ hy)
      omega
    · have hv' : v ∈ R := by
        rcases List.mem_cons.mp hv with h | h
        · exact absurd h.symm e
        · exact h
      obtain ⟨A, c, h1, h2⟩ := ih hS'.2 hv' (fun y hy => hm y (List.mem_cons_of_mem _ hy))
      refine ⟨x :: A, c, by rw [h1]; rfl, fun y hy => ?_⟩
      rcases List.mem_cons.mp hy with h | h
      · have := hm x (List.mem_cons_self ..)
        omega
      · exact h2 y h

theorem take_up (A B : List Int) (v : Int) (k : Nat) : ((A ++ v :: B).take k).sum ≤ ((A ++ (v + 1) :: B).take k).sum := by
  rw [List.take_append, List.take_append, List.sum_append, List.sum_append]
  cases k - A.length with
  | zero => simp
  | succ n => simp only [List.take_succ_cons, List.sum_cons]; omega

theorem Dealt.succ {D0 A : List Int} {t v : Int} {c : Nat} (h : Dealt D0 t (A ++ v :: List.replicate c v)) (hA : ∀ y ∈ A, v + 1 ≤ y) : Dealt D0 (t + 1) (A ++ (v + 1) :: List.replicate c v) := by
  obtain ⟨hl, hu, hs, hd, j, v0, h1, h2, h3⟩ := h
  refine ⟨by simpa using hl, fun k => Int.le_trans (hu k) (take_up _ _ _ _), ?_, ?_, ?_⟩
  · rw [List.sum_append, List.sum_cons] at hs ⊢
    omega
  · unfold SD at *
    rw [List.pairwise_append] at hd ⊢
    refine ⟨hd.1, ?_, ?_⟩
    · rw [List.pairwise_cons] at hd ⊢
      refine ⟨fun y hy => ?_, hd.2.1.2⟩
      have := List.eq_of_mem_replicate hy
      omega
    · intro a ha b hb
      have := hA a ha
      rcases List.mem_cons.mp hb with e | hb
      · omega
      · have := List.eq_of_mem_replicate hb
        omega
  · -- the flat part
    have hkey : ∀ y ∈ A.drop j, y = v + 1 := by
      intro y hy
      have hjA : j < A.length := by
        rcases Nat.lt_or_ge j A.length with h | h
        · exact h
        · rw [List.drop_eq_nil_of_le h] at hy; cases hy
      have e : (A ++ v :: List.replicate c v).drop j = A.drop j ++ v :: List.replicate c v := by
        rw [List.drop_append, show j - A.length = 0 by omega, List.drop_zero]
      rw [e] at h2 h3
      have hv0 := h3 (by simp only [List.length_append, List.length_cons]; omega)
      have a1 := (h2 v (List.mem_append_right _ (List.mem_cons_self ..))).1
      have a2 := (h2 y (List.mem_append_left _ hy)).2
      have a3 := hA y (List.mem_of_mem_drop hy)
      have a4 : v ≤ v0 := by
        rcases List.mem_append.mp hv0 with h | h
        · have := hA v0 (List.mem_of_mem_drop h); omega
        · rcases List.mem_cons.mp h with h | h
          · omega
          · have := List.eq_of_mem_replicate h; omega
      omega
    have hdrop : (A ++ (v + 1) :: List.replicate c v).drop (min j A.length) = A.drop (min j A.length) ++ (v + 1) :: List.replicate c v := by
      rw [List.drop_append, show min j A.length - A.length = 0 by omega, List.drop_zero]
    have hkey' : ∀ y ∈ A.drop (min j A.length), y = v + 1 := by
      intro y hy
      rcases Nat.le_total j A.length with h | h
      · rw [Nat.min_eq_left h] at hy; exact hkey y hy
      · rw [Nat.min_eq_right h, List.drop_length] at hy; cases hy
    have htake : (A ++ (v + 1) :: List.replicate c v).take (min j A.length) = D0.take (min j A.length) := by
      have e1 : (A ++ (v + 1) :: List.replicate c v).take (min j A.length) = (A ++ v :: List.replicate c v).take (min j A.length) := by
        rw [List.take_append, List.take_append, show min j A.length - A.length = 0 by omega, List.take_zero, List.take_zero]
      rw [e1]
      have e2 := congrArg (List.take (min j A.length)) h1
      rw [List.take_take, List.take_take, show min (min j A.length) j = min j A.length by omega] at e2
      exact e2
    cases c with
    | zero =>
      refine ⟨min j A.length, v + 1, htake, ?_, ?_⟩
      · intro y hy
        rw [hdrop] at hy
        rcases List.mem_append.mp hy with h | h
        · have := hkey' y h; omega
        · rcases List.mem_cons.mp h with h | h
          · omega
          · cases h
      · intro _
        rw [hdrop]
        exact List.mem_append_right _ (List.mem_cons_self ..)
    | succ c =>
      refine ⟨min j A.length, v, htake, ?_, ?_⟩
      · intro y hy
        rw [hdrop] at hy
        rcases List.mem_append.mp hy with h | h
        · have := hkey' y h; omega
        · rcases List.mem_cons.mp h with h | h
          · omega
          · have := List.eq_of_mem_replicate h; omega
      · intro _
        rw [hdrop, List.replicate_succ]
        exact List.mem_append_right _ (List.mem_cons_of_mem _ (List.mem_cons_self ..))

/-- the heaviest few by the sums alone: every way is at most it, and some way is it -/
theorem Dealt.ways {D0 D : List Int} {t : Int} (h : Dealt D0 t D) {k : Nat} (hk : k ≤ D.length) {kept : Nat} (hkept : kept < k) :
    (D0.take kept).sum + evI ((D.length : Int) - kept) (D.sum - (D0.take kept).sum) ((k : Int) - kept) ≤ (D.take k).sum := by
  have hu := h.up kept
  have hlen : kept < D.length := by omega
  -- the rest, the excess laid on its first
  obtain ⟨x, R, hR⟩ : ∃ x R, D.drop kept = x :: R := by
    cases e : D.drop kept with
    | nil => have := congrArg List.length e; simp at this; omega
    | cons x R => exact ⟨x, R, rfl⟩
  have hSd : SD (D.drop kept) := List.Pairwise.drop h.sd
  rw [hR] at hSd
  have hSd' := List.pairwise_cons.mp hSd
  have e : SD ((x + ((D.take kept).sum - (D0.take kept).sum)) :: R) := by
    refine List.pairwise_cons.mpr ⟨fun y hy => ?_, hSd'.2⟩
    have := hSd'.1 y hy
    omega
  have hl : (x :: R).length = D.length - kept := by rw [← hR, List.length_drop]
  rw [List.length_cons] at hl
  have hT := even_le_top _ e (k - kept) (by rw [List.length_cons]; omega) (by rw [List.length_cons]; omega)
  have hsum := sum_take_drop D kept
  rw [hR, List.sum_cons] at hsum
  have e1 : (((x + ((D.take kept).sum - (D0.take kept).sum)) :: R).length : Int) = (D.length : Int) - kept := by rw [List.length_cons]; omega
  have e2 : ((x + ((D.take kept).sum - (D0.take kept).sum)) :: R).sum = D.sum - (D0.take kept).sum := by rw [List.sum_cons]; omega
  have e3 : ((k - kept : Nat) : Int) = (k : Int) - kept := by omega
  rw [e1, e2, e3] at hT
  obtain ⟨f, hf⟩ : ∃ f, k - kept = f + 1 := ⟨k - kept - 1, by omega⟩
  have e4 : (D.take k).sum = (D.take kept).sum + ((D.drop kept).take (k - kept)).sum := by
    rw [← List.sum_append]
    congr 1
    rw [← List.take_add, show kept + (k - kept) = k by omega]
  rw [hR, hf, List.take_succ_cons, List.sum_cons] at e4
  rw [hf, List.take_succ_cons, List.sum_cons] at hT
  omega

theorem Dealt.some {D0 D : List Int} {t : Int} (h : Dealt D0 t D) {k : Nat} (hk : k ≤ D.length) :
    (D.take k).sum = (D0.take k).sum ∨ ∃ kept : Nat, kept < k ∧ (D.take k).sum ≤ (D0.take kept).sum + evI ((D.length : Int) - kept) (D.sum - (D0.take kept).sum) ((k : Int) - kept) := by
  obtain ⟨j, v, h1, h2, h3⟩ := h.flat
  rcases Nat.lt_or_ge j k with hj | hj
  · refine .inr ⟨j, hj, ?_⟩
    have hv := h3 (by omega)
    have hT := even_of_flat (D.drop j) (k - j) (by rw [List.length_drop]; omega) v hv h2
    have hsum := sum_take_drop D j
    have e1 : ((D.drop j).length : Int) = (D.length : Int) - j := by rw [List.length_drop]; omega
    have e2 : (D.drop j).sum = D.sum - (D0.take j).sum := by rw [← h1]; omega
    have e3 : ((k - j : Nat) : Int) = (k : Int) - j := by omega
    rw [e1, e2, e3] at hT
    have e4 : (D.take k).sum = (D.take j).sum + ((D.drop j).take (k - j)).sum := by
      rw [← List.sum_append]
      congr 1
      rw [← List.take_add, show j + (k - j) = k by omega]
    rw [e4, ← h1] at *
    omega
  · refine .inl ?_
    have e := congrArg (List.take k) h1
    rw [List.take_take, List.take_take, Nat.min_eq_left hj] at e
    rw [e]
end

-- part M2
section
theorem u_ne {w : World} {A : Around} {s : Shared} {Q E : Value → Shared → Prop} {a b : Addr} {vs us : List Value} {xs ys : List Int} (hl : s.heap.IsList a vs.toArray) (hi : IntsAre vs xs) (hl' : s.heap.IsList b us.toArray) (hi' : IntsAre us ys) (hu : A.units + 64 < cLine)
    (e : xs = ys) (h : Q (.bool false) s) : wpAny (model prg w) A (compareOp .NotEq (.ref a) (.ref b)) Q E s :=
  ne_intsK hl hi hl' hi' hu (by simpa [e] using h)

theorem news_drop4 {h₀ h : Heap} {L : Addr} {a b c d : Addr × Obj} {r : List (Addr × Obj)} (N : News h₀ L h (a :: b :: c :: d :: r)) : News h₀ L h r :=
  fun p hp => N p (List.mem_cons_of_mem _ (List.mem_cons_of_mem _ (List.mem_cons_of_mem _ (List.mem_cons_of_mem _ hp))))

theorem heap_head {hs : List Int} (h : HeapP hs) : ∃ x r, hs = x :: r ∧ ∀ y ∈ hs, x ≤ y := by
  match hs, h with
  | [a, b], h => exact ⟨a, _, rfl, by simp only [HeapP, List.mem_cons, List.not_mem_nil, or_false, forall_eq_or_imp, forall_eq] at *; omega⟩
  | [a, b, c], h => exact ⟨a, _, rfl, by simp only [HeapP, List.mem_cons, List.not_mem_nil, or_false, forall_eq_or_imp, forall_eq] at *; omega⟩
  | [a, b, c, d], h => exact ⟨a, _, rfl, by simp only [HeapP, List.mem_cons, List.not_mem_nil, or_false, forall_eq_or_imp, forall_eq] at *; omega⟩
  | [a, b, c, d, e], h => exact ⟨a, _, rfl, by simp only [HeapP, List.mem_cons, List.not_mem_nil, or_false, forall_eq_or_imp, forall_eq] at *; omega⟩

theorem grd_dealt {p : Int} (hp : 0 < p) {hs0 hs : List Int} {t : Nat} (hG : Grd p hs0 t hs) {D0 : List Int} (hD : SD D0) (hP : (D0.map (· * p)).Perm hs0) : ∃ D, (D.map (· * p)).Perm hs ∧ Dealt D0 t D := by
  induction hG with
  | zero _ => exact ⟨D0, hP, Dealt.zero hD⟩
  | @succ t hs hs' g hH hperm ih =>
    obtain ⟨D, hDP, hDD⟩ := ih
    obtain ⟨x, r, e, hmin⟩ := heap_head g.heap
    have hx : x ∈ D.map (· * p) := hDP.mem_iff.mpr (by rw [e]; exact List.mem_cons_self ..)
    obtain ⟨v, hv, hvx⟩ := List.mem_map.mp hx
    have hle : ∀ y ∈ D, v ≤ y := by
      intro y hy
      have := hmin (y * p) (hDP.mem_iff.mp (List.mem_map.mpr ⟨y, hy, rfl⟩))
      rw [← hvx] at this
      exact Int.le_of_mul_le_mul_right this hp
    obtain ⟨A, c, eD, hA⟩ := tail_min hDD.sd hv hle
    subst eD
    refine ⟨A ++ (v + 1) :: List.replicate c v, ?_, by rw [Int.natCast_add]; exact hDD.succ hA⟩
    rw [List.map_append, List.map_cons] at hDP ⊢
    subst e
    simp only [List.headD_cons, List.tail_cons] at hperm
    have h1 : (x :: (List.map (· * p) A ++ List.map (· * p) (List.replicate c v))).Perm (x :: r) := by
      have := (List.perm_middle (a := v * p) (l₁ := List.map (· * p) A) (l₂ := List.map (· * p) (List.replicate c v))).symm.trans hDP
      have hvx' : v * p = x := hvx
      rw [hvx'] at this
      exact this
    have h2 := List.Perm.cons_inv h1
    refine (List.perm_middle).trans ?_
    have e3 : (v + 1) * p = x + p := by rw [Int.add_mul, Int.one_mul]; exact congrArg (· + p) hvx
    rw [e3]
    exact (List.Perm.cons _ h2).trans hperm.symm

structure Told (sc p q : Int) (hs S : List Int) : Prop where
  heap : HeapP hs
  slen : (S.length : Int) = sc + 1
  ex : ∃ D, SD D ∧ (D.map (· * p)).Perm hs ∧ D.sum = q ∧ (D.length : Int) = sc ∧ ∀ k : Nat, (k : Int) ≤ sc → S.getD k 0 = (D.take k).sum

theorem told_zero {sc p : Int} {hs S : List Int} (h0 : 2 ≤ sc) (h5 : sc ≤ 5) (e : hs = List.replicate sc.toNat 0) (eS : S = List.replicate (sc + 1).toNat 0) : Told sc p 0 hs S := by
  refine ⟨heapP_zero h0 h5 e, by rw [eS, List.length_replicate]; omega, List.replicate sc.toNat 0, ?_, ?_, ?_, ?_, ?_⟩
  · exact List.pairwise_replicate.mpr (.inr (Int.le_refl _))
  · rw [e, List.map_replicate, Int.zero_mul]
  · simp
  · rw [List.length_replicate]; omega
  · intro k hk
    rw [eS, List.take_replicate]
    have : k < (sc + 1).toNat := by omega
    simp [List.getD_eq_getElem?_getD, this]

theorem sum_map_mul (b : Int) : ∀ l : List Int, (l.map (b * ·)).sum = b * l.sum
  | [] => by simp
  | x :: r => by simp only [List.map_cons, List.sum_cons, sum_map_mul b r, Int.mul_add]
theorem sum_map_mul' (b : Int) : ∀ l : List Int, (l.map (· * b)).sum = l.sum * b
  | [] => by simp
  | x :: r => by simp only [List.map_cons, List.sum_cons, sum_map_mul' b r, Int.add_mul]

theorem told_next {sc b p P q0 q f : Int} {hs0 S0 hs S : List Int} (hG : Grd p hs0 (rangeKs 0 (f - 0).toNat).length hs) (hT : Told sc P q0 hs0 S0) (hv : HvInv S0 b q sc S.length S) (hl : (S.length : Int) = sc + 1)
    (hp : 0 < p) (hb : 0 < b) (hP : P = b * p) (hf : 0 ≤ f) (hq : q = b * q0 + f) : Told sc p q hs S := by
  obtain ⟨_, hS0, D0, hD, hperm, hsum, hlen, hpre⟩ := hT
  rw [rangeKs_length] at hG
  have hD' : SD (D0.map (b * ·)) := by
    refine List.Pairwise.map _ (fun x y h => ?_) hD
    exact Int.mul_le_mul_of_nonneg_left h (Int.le_of_lt hb)
  have hP' : ((D0.map (b * ·)).map (· * p)).Perm hs0 := by
    have e : (D0.map (b * ·)).map (· * p) = D0.map (· * P) := by
      rw [List.map_map]
      refine List.map_congr_left fun x _ => ?_
      show b * x * p = x * P
      rw [hP, Int.mul_comm b x, Int.mul_assoc]
    rw [e]
    exact hperm
  obtain ⟨D, hDP, hDD⟩ := grd_dealt hp hG hD' hP'
  have hDsum : D.sum = q := by
    rw [hDD.sum, sum_map_mul, hsum, hq]
    omega
  have hDlen : (D.length : Int) = sc := by rw [hDD.len, List.length_map]; exact hlen
  refine ⟨hG.heap, hl, D, hDD.sd, hDP, hDsum, hDlen, ?_⟩
  intro k hk
  have hpre' : ∀ i : Nat, (i : Int) ≤ sc → b * S0.getD i 0 = ((D0.map (b * ·)).take i).sum := by
    intro i hi
    rw [hpre i hi, ← List.map_take, sum_map_mul]
  have hk' : k ≤ D.length := by omega
  obtain ⟨h1, h2⟩ := hv k (by omega)
  have hway : ∀ i : Nat, i < k → wayAt S0 b q sc k i = ((D0.map (b * ·)).take i).sum + evI ((D.length : Int) - i) (D.sum - ((D0.map (b * ·)).take i).sum) ((k : Int) - i) := by
    intro i hi
    unfold wayAt
    rw [Int.toNat_natCast, hpre' i (by omega), hDlen, hDsum]
    rfl
  have hle : S.getD k 0 ≤ (D.take k).sum := by
    unfold waysAt at h1
    rcases List.mem_cons.mp h1 with e | h1
    · rw [e, Int.toNat_natCast, hpre' k hk]
      exact hDD.up k
    · obtain ⟨c, hc, e⟩ := List.mem_map.mp h1
      have hc' := mem_rangeKs hc
      obtain ⟨i, rfl⟩ : ∃ i : Nat, c = (i : Int) := ⟨c.toNat, by omega⟩
      rw [← e, hway i (by omega)]
      exact hDD.ways hk' (by omega)
  have hge : (D.take k).sum ≤ S.getD k 0 := by
    rcases hDD.some hk' with e | ⟨i, hi, e⟩
    · rw [e, ← hpre' k hk]
      refine h2 _ ?_
      unfold waysAt
      rw [Int.toNat_natCast]
      exact List.mem_cons_self ..
    · rw [← hway i hi] at e
      refine Int.le_trans e (h2 _ ?_)
      unfold waysAt
      refine List.mem_cons_of_mem _ (List.mem_map.mpr ⟨(i : Int), ?_, rfl⟩)
      refine List.mem_map.mpr ⟨i, List.mem_range.mpr (by omega), by omega⟩
  omega

theorem sd_eq {p : Int} (hp : 0 < p) {D n' hs : List Int} (hD : SD D) (h1 : (D.map (· * p)).Perm hs) (h2 : n'.Perm hs) (h3 : n'.Pairwise (· ≤ ·)) : n'.reverse = D.map (· * p) := by
  refine List.Perm.eq_of_pairwise (le := fun a b : Int => decide (b ≤ a)) ?_ ?_ ?_ ?_
  · intro a b _ _ x y
    have := of_decide_eq_true x
    have := of_decide_eq_true y
    omega
  · rw [List.pairwise_reverse]
    exact h3.imp fun h => decide_eq_true h
  · refine List.Pairwise.map _ (fun x y h => ?_) hD
    exact decide_eq_true (Int.mul_le_mul_of_nonneg_right h (Int.le_of_lt hp))
  · exact (List.reverse_perm n').trans (h2.trans h1.symm)

theorem told_eq {sc p q : Int} {hs S n' : List Int} {g : Int → Int} {C : Int → Prop} [DecidablePred C] (hT : Told sc p q hs S) (h2 : n'.Perm hs) (h3 : n'.Pairwise (· ≤ ·)) (hp : 0 < p) (h0 : 2 ≤ sc)
    (hC : ∀ k, C k) : List.map (fun k' => if C k' then (List.take k'.toNat n'.reverse).sum else g k') (rangeKs 0 (sc + 1 - 0).toNat) = List.map (fun k' => k' * p) S := by
  obtain ⟨_, hl, D, hD, hperm, _, _, hpre⟩ := hT
  rw [sd_eq hp hD hperm h2 h3]
  refine List.ext_getElem (by rw [List.length_map, List.length_map, rangeKs_length]; omega) ?_
  intro i hi1 hi2
  rw [List.length_map] at hi2
  rw [List.getElem_map, List.getElem_map, if_pos (hC _)]
  have e : (rangeKs 0 (sc + 1 - 0).toNat)[i]'(by rw [List.length_map] at hi1; exact hi1) = (i : Int) := by
    unfold rangeKs
    rw [List.getElem_map, List.getElem_range]
    omega
  rw [e, Int.toNat_natCast, ← List.map_take, sum_map_mul']
  have := hpre i (by omega)
  rw [← this]
  simp [List.getD_eq_getElem?_getD, hi2]
end

-- part M3
section
theorem fr_put {h₀ h : Heap} {L : Addr} {m : Str → Option Value} {x : Str} {v : Value} (F : Fr h₀ L h m) (e : m x = some v) : Fr h₀ L h (fun y => if y = x then some v else m y) := by
  have em : (fun y => if y = x then some v else m y) = m := by
    funext y
    by_cases hy : y = x
    · rw [if_pos hy, hy, e]
    · rw [if_neg hy]
  rw [em]
  exact F

theorem fr_puts {h₀ h : Heap} {L : Addr} {m : Str → Option Value} {x x1 x2 x3 x4 x5 : Str} {v v1 v2 v3 v4 v5 : Value} (F : Fr h₀ L h (fun y => if y = x then some v else m y)) (e1 : m x1 = some v1) (e2 : m x2 = some v2) (e3 : m x3 = some v3) (e4 : m x4 = some v4) (e5 : m x5 = some v5) :
    Fr h₀ L h (fun y => if y = x then some v else if y = x1 then some v1 else if y = x2 then some v2 else if y = x3 then some v3 else if y = x4 then some v4 else if y = x5 then some v5 else m y) := by
  have em : (fun y => if y = x then some v else if y = x1 then some v1 else if y = x2 then some v2 else if y = x3 then some v3 else if y = x4 then some v4 else if y = x5 then some v5 else m y) = (fun y => if y = x then some v else m y) := by
    funext y
    by_cases h0 : y = x
    · rw [if_pos h0, if_pos h0]
    · rw [if_neg h0, if_neg h0]
      by_cases h1 : y = x1
      · rw [if_pos h1, h1, e1]
      · rw [if_neg h1]
        by_cases h2 : y = x2
        · rw [if_pos h2, h2, e2]
        · rw [if_neg h2]
          by_cases h3 : y = x3
          · rw [if_pos h3, h3, e3]
          · rw [if_neg h3]
            by_cases h4 : y = x4
            · rw [if_pos h4, h4, e4]
            · rw [if_neg h4]
              by_cases h5 : y = x5
              · rw [if_pos h5, h5, e5]
              · rw [if_neg h5]
  rw [em]
  exact F
theorem u_fdivP {w : World} {A : Around} {s : Shared} {Q E : Value → Shared → Prop} {P b p : Int} {t u : Tok} (hP : P = b * p) (hb : b ≠ 0) (hl : b.natAbs.log2 < 9000) (h : Q (.int p s.toks) { s with toks := s.toks + 1 }) : wpAny (model prg w) A (binaryOp .FloorDiv (.int P t) (.int b u)) Q E s :=
  floordiv_int hb (by rw [hP, Int.mul_fdiv_cancel_left _ hb]; exact h) (Or.inl (PyProof.noPylong_of_log2 hl))

/-- the state between two turns of the dealing -/
structure TS (b num sc : Int) (lf : Addr) (fo : Obj) (d0 : Addr) (o0 : Obj) (L I : Addr) (p q : Int) (lh ls : Addr) (vh vs : List Value) (hs S : List Int) (nh ns : Nat) (oP oL : Obj) (t1 t2 t3 tP : Tok) (vL : Option Value) (m : Str → Option Value) (news : List (Addr × Obj)) : Prop where
  led : news = [(lh, listOf vh.toArray nh), (ls, listOf vs.toArray ns), (L + 1 + 1, oL), (L + 1, oP), (lf, fo), (d0, o0)]
  mb : m (Str.ofString "base") = some (.int b t1)
  mn : m (Str.ofString "number") = some (.int num t2)
  mc : m (Str.ofString "scales") = some (.int sc t3)
  mh : m (Str.ofString "heap") = some (.ref lh)
  ms : m (Str.ofString "sums") = some (.ref ls)
  cP : oP.data = Data.cell (some (.int p tP))
  cL : oL.data = Data.cell vL
  ih : IntsAre vh hs
  is : IntsAre vs S
  told : Told sc p q hs S
  lenh : (hs.length : Int) = sc
  lens : (S.length : Int) = sc + 1
  o1 : @LT.lt Nat _ (L + 1 + 1) lh
  o2 : @LT.lt Nat _ lh I
  o3 : @LT.lt Nat _ ls I ∨ @LT.lt Nat _ I ls
  o4 : @LT.lt Nat _ lh ls
  o5 : @LT.lt Nat _ lf L
  o6 : @LT.lt Nat _ d0 L

def TSE (b num sc : Int) (lf : Addr) (fo : Obj) (d0 : Addr) (o0 : Obj) (L I : Addr) (p q : Int) (m : Str → Option Value) (news : List (Addr × Obj)) : Prop :=
  ∃ lh ls vh vs hs S nh ns oP oL t1 t2 t3 tP vL, TS b num sc lf fo d0 o0 L I p q lh ls vh vs hs S nh ns oP oL t1 t2 t3 tP vL m news

theorem grd_told {sc p p' q : Int} {hs S : List Int} (h : Told sc p' q hs S) : hs.length = hs.length ∧ Grd p hs ([] : List Int).length hs := ⟨rfl, .zero h.heap⟩
theorem told_len {sc p q : Int} {hs S : List Int} (h : Told sc p q hs S) : (hs.length : Int) = sc := by
  obtain ⟨_, _, D, _, hperm, _, hl, _⟩ := h
  rw [← hperm.length_eq, List.length_map]
  exact hl

section
variable {prog : Program} {w : World} {A : Around} {E : Value → Shared → Prop} {s : Shared} {env : Env} {h₀ : Heap} {x : Str} {body : List Stmt} {Q : Flow → Shared → Prop}
def StepP (prog : Program) (w : World) (A : Around) (E : Value → Shared → Prop) (h₀ : Heap) (env : Env) (x : Str) (body : List Stmt) (Q : Flow → Shared → Prop) (s : Shared) (I : Addr) (b num : Int) (T : Int → Int → (Str → Option Value) → List (Addr × Obj) → Prop) : Prop :=
  ∀ (P p q0 f : Int) (tf : Tok) (m : Str → Option Value) (news : List (Addr × Obj)) (it : Obj) (h : Heap) (tk : Nat), 0 < p → p ≤ 16777216 → P = b * p → 0 ≤ f → f < 64 → num.fdiv p = b * q0 + f → T P q0 m news → it.cls = .type "list_iterator" →
    Fr h₀ env.locals h (fun y => if y = x then some (.int f tf) else m y) → News h₀ env.locals h ((I, it) :: news) →
    wpAny (model prog w) A (execs body env) (UnrPost h₀ env.locals { s with heap := h, toks := tk } I it (T p (num.fdiv p)) Q) E { s with heap := h, toks := tk }
def FinP (h₀ : Heap) (env : Env) (Q : Flow → Shared → Prop) (s : Shared) (p q : Int) (T : Int → Int → (Str → Option Value) → List (Addr × Obj) → Prop) : Prop :=
  ∀ (m : Str → Option Value) (news : List (Addr × Obj)) (h : Heap) (tk : Nat), T p q m news → Fr h₀ env.locals h m → News h₀ env.locals h news → Q .next { s with heap := h, toks := tk }

theorem one_step {I : Addr} {lp : Addr × Obj} {b num : Int} {T : Int → Int → (Str → Option Value) → List (Addr × Obj) → Prop} (step : StepP prog w A E h₀ env x body Q s I b num T) (hlp : ∀ p q m news, T p q m news → lp ∈ news)
    {P p q0 f : Int} {tf : Tok} {r : List Value} {m : Str → Option Value} {news : List (Addr × Obj)} (hp : 0 < p) (hp2 : p ≤ 16777216) (hP : P = b * p) (hf : 0 ≤ f) (hf2 : f < 64) (hq : num.fdiv p = b * q0 + f) (hT : T P q0 m news)
    (k : ∀ m' news', T p (num.fdiv p) m' news' → ListRest prog w A E h₀ env x body Q s I lp r m' news') : ListRest prog w A E h₀ env x body Q s I lp (.int f tf :: r) m news := by
  refine ListRest.succ fun it h tk hit F N => ?_
  refine wpAny_mono (step P p q0 f tf m news it h tk hp hp2 hP hf hf2 hq hT hit F N) (fun fl s₂ => ?_) (fun _ _ y => y)
  have up : ∀ s₂, UnrEnd h₀ env.locals { s with heap := h, toks := tk } I it (T p (num.fdiv p)) s₂ → UnrEnd h₀ env.locals { s with heap := h, toks := tk } I it (fun m' n' => lp ∈ n' ∧ ListRest prog w A E h₀ env x body Q s I lp r m' n') s₂ := by
    rintro s₂ ⟨h', tk', m', news', e, F', N', off, hT'⟩
    exact ⟨h', tk', m', news', e, F', N', off, hlp _ _ _ _ hT', k _ _ hT'⟩
  cases fl with
  | ret v => exact fun y => y
  | brk => exact fun y => y
  | next => exact up s₂
  | cont => exact up s₂

theorem list_sub {I : Addr} {lp : Addr × Obj} {v : Value} {r : List Value} {m : Str → Option Value} {news full : List (Addr × Obj)} (sub : ∀ p ∈ news, p ∈ full) (h : ListRest prog w A E h₀ env x body Q s I lp (v :: r) m news) : ListRest prog w A E h₀ env x body Q s I lp (v :: r) m full :=
  ListRest.succ fun it h' tk hit F N => h it h' tk hit F fun p hp => N p (by
    rcases List.mem_cons.mp hp with rfl | hp
    · exact List.mem_cons_self ..
    · exact List.mem_cons_of_mem _ (sub p hp))

theorem four_steps {I : Addr} {lp : Addr × Obj} {b num : Int} {T : Int → Int → (Str → Option Value) → List (Addr × Obj) → Prop} {m : Str → Option Value} {news : List (Addr × Obj)} {f0 f1 f2 f3 : Int} {t0 t1 t2 t3 : Tok} {P p0 p1 p2 p3 : Int}
    (init : T P 0 m news) (hlp : ∀ p q m news, T p q m news → lp ∈ news)
    (h0 : 0 < p0 ∧ p0 ≤ 16777216 ∧ P = b * p0) (h1 : 0 < p1 ∧ p1 ≤ 16777216 ∧ p0 = b * p1) (h2 : 0 < p2 ∧ p2 ≤ 16777216 ∧ p1 = b * p2) (h3 : 0 < p3 ∧ p3 ≤ 16777216 ∧ p2 = b * p3)
    (g0 : 0 ≤ f0 ∧ f0 < 64) (g1 : 0 ≤ f1 ∧ f1 < 64) (g2 : 0 ≤ f2 ∧ f2 < 64) (g3 : 0 ≤ f3 ∧ f3 < 64)
    (q0 : num.fdiv p0 = b * 0 + f0) (q1 : num.fdiv p1 = b * num.fdiv p0 + f1) (q2 : num.fdiv p2 = b * num.fdiv p1 + f2) (q3 : num.fdiv p3 = b * num.fdiv p2 + f3)
    (step : StepP prog w A E h₀ env x body Q s I b num T) (fin : FinP h₀ env Q s p3 (num.fdiv p3) T) {full : List (Addr × Obj)} (sub : ∀ p ∈ news, p ∈ full) :
    ListRest prog w A E h₀ env x body Q s I lp [.int f0 t0, .int f1 t1, .int f2 t2, .int f3 t3] m full :=
  list_sub sub <| one_step step hlp h0.1 h0.2.1 h0.2.2 g0.1 g0.2 q0 init fun _ _ a1 =>
  one_step step hlp h1.1 h1.2.1 h1.2.2 g1.1 g1.2 q1 a1 fun _ _ a2 =>
  one_step step hlp h2.1 h2.2.1 h2.2.2 g2.1 g2.2 q2 a2 fun _ _ a3 =>
  one_step step hlp h3.1 h3.2.1 h3.2.2 g3.1 g3.2 q3 a3 fun m' n' a4 => ListRest.zero fun h tk F N => fin m' n' h tk a4 F N
end

theorem tse_lp {b num sc : Int} {lf : Addr} {fo : Obj} {d0 : Addr} {o0 : Obj} {L I : Addr} : ∀ p q m news, TSE b num sc lf fo d0 o0 L I p q m news → (lf, fo) ∈ news := by
  rintro p q m news ⟨lh, ls, vh, vs, hs, S, nh, ns, oP, oL, t1, t2, t3, tP, vL, h⟩
  rw [h.led]
  simp

structure D0Is (d : Addr) (o : Obj) : Prop where
theorem four_ts {prog : Program} {w : World} {A : Around} {E : Value → Shared → Prop} {s : Shared} {env : Env} {h₀ : Heap} {x : Str} {body : List Stmt} {Q : Flow → Shared → Prop}
    {I L lf d0 : Addr} {fo o0 : Obj} {b num sc : Int} {m : Str → Option Value} {news : List (Addr × Obj)} {f0 f1 f2 f3 : Int} {t0 t1 t2 t3 : Tok} {P p0 p1 p2 p3 : Int}
    (init : TSE b num sc lf fo d0 o0 L I P 0 m news) (_hL : env.locals = L) (_hd : D0Is d0 o0)
    (h0 : 0 < p0 ∧ p0 ≤ 16777216 ∧ P = b * p0) (h1 : 0 < p1 ∧ p1 ≤ 16777216 ∧ p0 = b * p1) (h2 : 0 < p2 ∧ p2 ≤ 16777216 ∧ p1 = b * p2) (h3 : 0 < p3 ∧ p3 ≤ 16777216 ∧ p2 = b * p3)
    (g0 : 0 ≤ f0 ∧ f0 < 64) (g1 : 0 ≤ f1 ∧ f1 < 64) (g2 : 0 ≤ f2 ∧ f2 < 64) (g3 : 0 ≤ f3 ∧ f3 < 64)
    (q0 : num.fdiv p0 = b * 0 + f0) (q1 : num.fdiv p1 = b * num.fdiv p0 + f1) (q2 : num.fdiv p2 = b * num.fdiv p1 + f2) (q3 : num.fdiv p3 = b * num.fdiv p2 + f3)
    (step : StepP prog w A E h₀ env x body Q s I b num (TSE b num sc lf fo d0 o0 L I)) (fin : FinP h₀ env Q s p3 (num.fdiv p3) (TSE b num sc lf fo d0 o0 L I)) {full : List (Addr × Obj)} (sub : ∀ p ∈ news, p ∈ full) :
    ListRest prog w A E h₀ env x body Q s I (lf, fo) [.int f0 t0, .int f1 t1, .int f2 t2, .int f3 t3] m full :=
  four_steps init tse_lp h0 h1 h2 h3 g0 g1 g2 g3 q0 q1 q2 q3 step fin sub

/-- the first state -/
theorem ts_first {b num sc P : Int} {lf : Addr} {fo : Obj} {d0 : Addr} {o0 : Obj} {L I lh ls : Addr} {vh vs : List Value} {hs S : List Int} {nh ns : Nat} {oP oL : Obj} {t1 t2 t3 tP : Tok} {vL : Option Value} {m : Str → Option Value}
    (mb : m (Str.ofString "base") = some (.int b t1)) (mn : m (Str.ofString "number") = some (.int num t2)) (mc : m (Str.ofString "scales") = some (.int sc t3)) (mh : m (Str.ofString "heap") = some (.ref lh)) (ms : m (Str.ofString "sums") = some (.ref ls))
    (cP : oP.data = Data.cell (some (.int P tP))) (cL : oL.data = Data.cell vL) (ih : IntsAre vh hs) (is : IntsAre vs S) (h0 : 2 ≤ sc) (h5 : sc ≤ 5) (e : hs = List.replicate sc.toNat 0) (eS : S = List.replicate (sc + 1).toNat 0)
    (o : @LT.lt Nat _ (L + 1 + 1) lh ∧ @LT.lt Nat _ lh ls ∧ @LT.lt Nat _ ls I ∧ @LT.lt Nat _ lf L ∧ @LT.lt Nat _ d0 L) :
    TSE b num sc lf fo d0 o0 L I P 0 m [(lh, listOf vh.toArray nh), (ls, listOf vs.toArray ns), (L + 1 + 1, oL), (L + 1, oP), (lf, fo), (d0, o0)] :=
  ⟨lh, ls, vh, vs, hs, S, nh, ns, oP, oL, t1, t2, t3, tP, vL, rfl, mb, mn, mc, mh, ms, cP, cL, ih, is, told_zero h0 h5 e eS, by rw [e, List.length_replicate]; omega, by rw [eS, List.length_replicate]; omega, o.1, by have := o.2; omega, .inl o.2.2.1, o.2.1, o.2.2.2.1, o.2.2.2.2⟩

/-- a turn's end -/
theorem ts_end {b num sc p q : Int} {lf : Addr} {fo : Obj} {d0 : Addr} {o0 : Obj} {h₀ h' : Heap} {Le L I lh ls : Addr} {vh vs : List Value} {hs S : List Int} {nh ns : Nat} {oP oL it : Obj} {t1 t2 t3 tP : Tok} {vL : Option Value} {m : Str → Option Value} {all : List (Addr × Obj)} {s₁ : Shared} {tk : Nat}
    (hL : L = Le) (F : Fr h₀ Le h' m) (N : News h₀ Le h' all)
    (mb : m (Str.ofString "base") = some (.int b t1)) (mn : m (Str.ofString "number") = some (.int num t2)) (mc : m (Str.ofString "scales") = some (.int sc t3)) (mh : m (Str.ofString "heap") = some (.ref lh)) (ms : m (Str.ofString "sums") = some (.ref ls))
    (m1 : (I, it) ∈ all) (m2 : (lh, listOf vh.toArray nh) ∈ all) (m3 : (ls, listOf vs.toArray ns) ∈ all) (m4 : (L + 1 + 1, oL) ∈ all) (m5 : (L + 1, oP) ∈ all) (m6 : (lf, fo) ∈ all) (m7 : (d0, o0) ∈ all)
    (cP : oP.data = Data.cell (some (.int p tP))) (cL : oL.data = Data.cell vL) (ih : IntsAre vh hs) (is : IntsAre vs S) (told : Told sc p q hs S)
    (o1 : @LT.lt Nat _ (L + 1 + 1) lh) (o2 : @LT.lt Nat _ lh I) (o3 : @LT.lt Nat _ I ls) (o4 : @LT.lt Nat _ lh ls) (o5 : @LT.lt Nat _ lf L) (o6 : @LT.lt Nat _ d0 L) :
    UnrEnd h₀ Le s₁ I it (TSE b num sc lf fo d0 o0 L I p q) { s₁ with heap := h', toks := tk } := by
  subst hL
  refine UnrEnd.intro F N [(lh, listOf vh.toArray nh), (ls, listOf vs.toArray ns), (L + 1 + 1, oL), (L + 1, oP), (lf, fo), (d0, o0)] ?_ ?_
    ⟨lh, ls, vh, vs, hs, S, nh, ns, oP, oL, t1, t2, t3, tP, vL, rfl, mb, mn, mc, mh, ms, cP, cL, ih, is, told, told_len told, told.slen, o1, o2, .inr o3, o4, o5, o6⟩
  · intro p hp
    simp only [List.mem_cons, List.not_mem_nil, or_false] at hp
    rcases hp with rfl | rfl | rfl | rfl | rfl | rfl | rfl <;> assumption
  · intro p hp
    simp only [List.mem_cons, List.not_mem_nil, or_false] at hp
    rcases hp with rfl | rfl | rfl | rfl | rfl | rfl <;> (refine neN ?_; dsimp only; omega)
end

-- part C3
section
theorem log2_small {b : Int} (h0 : 0 < b) (h1 : b ≤ 64) : b.natAbs.log2 < 9000 := by
  have h : b.natAbs < 2 ^ 7 := by omega
  have := (Nat.log2_lt (by omega)).mpr h
  omega
section
variable {w : World} {A : Around} {s : Shared} {Q E : Value → Shared → Prop}
theorem u_fdivB {P b p : Int} {t u : Tok} (hP : P = b * p) (h0 : 0 < b) (h1 : b ≤ 64) (h : Q (.int p s.toks) { s with toks := s.toks + 1 }) : wpAny (model prg w) A (binaryOp .FloorDiv (.int P t) (.int b u)) Q E s :=
  u_fdivP hP (by omega) (log2_small h0 h1) h
theorem u_powB {P b n : Int} {t u : Tok} (hP : b ^ 4 = P) (hn : n = 4) (h0 : 0 < b) (h1 : b ≤ 64) (h : Q (.int P s.toks) { s with toks := s.toks + 1 }) : wpAny (model prg w) A (binaryOp .Pow (.int b t) (.int n u)) Q E s := by
  subst hn
  refine pow_int_small (by decide) (by decide) (by omega) ?_
  rw [show b ^ (4 : Int).toNat = P from hP]
  exact h
end

local macro_rules | `(tactic| kst_same) => `(tactic| (intro z h1 h2 h3; (simp only [List.forall_mem_cons, List.not_mem_nil, false_implies, implies_true, and_true, ne_eq] at h2); (simp only [List.contains_cons, List.contains_nil, Bool.or_false, Bool.or_eq_false_iff, beq_eq_false_iff_ne, ne_eq] at h3); (simp [h1, h2, h3]; done)))

theorem c_dealt {w : World} {mean : ExcName → Option Value} {mg mb : Str → Option Value} {d0 : Addr} {o0 : Obj} {l : Addr} {n : Nat} {b P4 p0 p1 p2 p3 f0 f1 f2 f3 num sc : Int} {t0 t1 t2 t3 t4 t5 t6 : Tok} (h0 : 2 ≤ sc) (hs : sc ≤ 5)
   (hf0 : 0 ≤ f0) (hf0b : f0 < 64) (hf1 : 0 ≤ f1) (hf1b : f1 < 64) (hf2 : 0 ≤ f2) (hf2b : f2 < 64) (hf3 : 0 ≤ f3) (hf3b : f3 < 64)
   (hb0 : 0 < b) (hb1 : b ≤ 64) (hpw : b ^ 4 = P4) (hp0 : 0 < p0 ∧ p0 ≤ 16777216 ∧ P4 = b * p0) (hp1 : 0 < p1 ∧ p1 ≤ 16777216 ∧ p0 = b * p1) (hp2 : 0 < p2 ∧ p2 ≤ 16777216 ∧ p1 = b * p2) (hp3 : 0 < p3 ∧ p3 ≤ 16777216 ∧ p2 = b * p3)
   (hq0 : num.fdiv p0 = b * 0 + f0) (hq1 : num.fdiv p1 = b * num.fdiv p0 + f1) (hq2 : num.fdiv p2 = b * num.fdiv p1 + f2) (hq3 : num.fdiv p3 = b * num.fdiv p2 + f3) :
   Ctr w mean mg mb 105 [.int b t4, .ref l, .int num t5, .int sc t6] [(l, listOf #[.int f0 t0, .int f1 t1, .int f2 t2, .int f3 t3] n), (d0, o0)] 16 (fun v news' => v = .bool true ∧ news' = [(l, listOf #[.int f0 t0, .int f1 t1, .int f2 t2, .int f3 t3] n), (d0, o0)]) := by
  k_with_none
  (k_with "call ref" => (k_here; refine wpAny_call ?_; k_dflt k_enter))
  (k_with "call type:range" => ((rename Fr _ _ _ _ => F'); (rename News _ _ _ _ => N'); with_unfolding_all refine range1_rows F' N' ?_; intro _ _ _ _ _ _ _ _ _))
  (k_with "call builtin:list.append" => (k_here; k_dflt (refine' append_K ?zq2k1 ?zq2k2 ?zq2k3 ?_ ?zq2z; (case zq2k1 => k_asm); (case zq2k2 => k_asm); (case zq2k3 => k_upd); (case zq2z => size_fits); k_whole); intro h' F' N'; (try k_sweep)))
  (k_with "call ref" => (k_here; (with_reducible show wpAny _ _ (call (Value.ref 28) [Value.ref _, Value.int _ _]) _ _ _); k_dflt (refine' u_heapreplace ?zq3k1 ?zq3k2 ?zq3k3 ?zq3k4 ?zq3k5 ?zq3k6 ?zq3k7 ?zq3k8 ?zq3k9 ?zq3k10 ?zq3k11 ?zq3k12 ?zq3k13 ?_; (case zq3k1 => k_asm); (case zq3k2 => k_asm); (case zq3k3 => k_asm); (case zq3k4 => k_asm); (case zq3k5 => k_asm); (case zq3k6 => first | exact rfl | assumption); (case zq3k7 => ktr_room); (case zq3k8 => ktr_units); (case zq3k9 => k_updF); (case zq3k10 => assumption); (case zq3k11 => exact Grd.heap (by assumption)); (case zq3k12 => assumption); (case zq3k13 => assumption); k_whole); intro t' vs' ys' n' h' tk' F' N' i' hH' hp'; (try dsimp only); (try k_fold)))
  (k_with "call ref" => (k_here; (with_reducible show wpAny _ _ (call (Value.ref 100) [Value.ref _, Value.int _ _, Value.int _ _, Value.int _ _]) _ _ _); k_dflt (refine' u_heav ?zq4k1 ?zq4k2 ?zq4k3 ?zq4k4 ?zq4k5 ?zq4k6 ?zq4k7 ?zq4k8 ?zq4k9 ?zq4k10 ?zq4k11 ?zq4k12 ?zq4k13 ?zq4k14 ?zq4k15 ?_; (case zq4k1 => k_asm); (case zq4k2 => k_asm); (case zq4k3 => k_asm); (case zq4k4 => k_asm); (case zq4k5 => k_asm); (case zq4k6 => first | exact rfl | assumption); (case zq4k7 => ktr_room); (case zq4k8 => ktr_units); (case zq4k9 => k_mem); (case zq4k10 => l_ints); (case zq4k11 => first | assumption | omega); (case zq4k12 => assumption); (case zq4k13 => assumption); (case zq4k14 => omega); (case zq4k15 => assumption); k_whole); intro r' vs' S' n' h' tk' F' N' l1 i' hl' hv'; (try k_lt l1); (try dsimp only); (try k_fold)))
  (k_with "binaryOp Mult ref int" => (k_here; (with_reducible show wpAny _ _ (binaryOp Operator.Mult (Value.ref _) (Value.int _ _)) _ _ _); k_dflt (refine' u_mul0 ?zq5F ?zq5N ?zq5l ?zq5lo ?zq5hi ?_; (case zq5F => k_asm); (case zq5N => k_asm); (case zq5l => is_list); (case zq5lo => omega); (case zq5hi => omega); k_whole); intro D' h' vs' ns' F' N' l1 i1 e1 e2; (try k_lt l1); (try k_sweep)))
  (k_with "InvEndN" => kst_close)
  (k_with "compareOp NotEq ref ref" => (k_here; (have hT9 := told_next (by assumption) (by assumption) (by assumption) (by assumption) (by assumption) (by assumption) (by assumption) (by assumption) (by assumption)); k_dflt (refine' u_ne ?zq7k1 ?zq7k2 ?zq7k3 ?zq7k4 ?zq7k5 ?zq7k6 ?_; (case zq7k1 => is_list); (case zq7k2 => l_intsC); (case zq7k3 => is_list); (case zq7k4 => l_intsC); (case zq7k5 => ktr_units); (case zq7k6 => exact told_eq hT9 (by assumption) (by assumption) (by assumption) (by assumption) (fun k => ⟨List.length_take, by rw [List.length_take]; exact Nat.min_le_right ..⟩)); k_whole); (repeat ((with_reducible rename ((_ : Addr) ≠ _ ∧ _) => o9); clear o9))))
  (k_with "UnrEnd" => (k_dflt ((refine' ts_end ?zq8hL ?zq8F ?zq8N ?zq8m1 ?zq8m2 ?zq8m3 ?zq8m4 ?zq8m5 ?zq8n1 ?zq8n2 ?zq8n3 ?zq8n4 ?zq8n5 ?zq8n6 ?zq8n7 ?zq8c1 ?zq8c2 ?zq8i1 ?zq8i2 ?zq8t1 ?zq8o1 ?zq8o2 ?zq8o3 ?zq8o4 ?zq8o5 ?zq8o6); (case zq8hL => exact rfl); (case zq8F => k_asm); (case zq8N => k_asm); (case zq8m1 => exact rfl); (case zq8m2 => exact rfl); (case zq8m3 => exact rfl); (case zq8m4 => exact rfl); (case zq8m5 => exact rfl); (case zq8n1 => k_mem); (case zq8n2 => k_mem); (case zq8n3 => k_mem); (case zq8n4 => k_mem); (case zq8n5 => k_mem); (case zq8n6 => k_mem); (case zq8n7 => k_mem); (case zq8c1 => assumption); (case zq8c2 => assumption); (case zq8i1 => l_ints); (case zq8i2 => l_ints); (case zq8t1 => assumption)); (case zq8o1 => omega); (case zq8o2 => omega); (case zq8o3 => omega); (case zq8o4 => omega); (case zq8o5 => omega); (case zq8o6 => omega)))
  (k_with "binaryOp FloorDiv int int" => (k_here; (with_reducible show wpAny _ _ (binaryOp Operator.FloorDiv (Value.int _ _) (Value.int _ _)) _ _ _); refine' u_fdivB (by assumption) (by assumption) (by assumption) ?_))
  (k_with "binaryOp Pow int int" => (k_here; (refine' u_powB (by assumption) (by first | rfl | (simp; done)) (by assumption) (by assumption) ?_)))
  (k_with "ListRest" => (k_here; k_dflt ((refine' four_ts (ts_first ?zq11a1 ?zq11a2 ?zq11a3 ?zq11a4 ?zq11a5 ?zq11a6 ?zq11a7 ?zq11a8 ?zq11a9 ?zq11a10 ?zq11a11 ?zq11a12 ?zq11a13 ?zq11a14) ?zq11hL ?zq11hD ?zq11h0 ?zq11h1 ?zq11h2 ?zq11h3 ?zq11g0 ?zq11g1 ?zq11g2 ?zq11g3 ?zq11q0 ?zq11q1 ?zq11q2 ?zq11q3 ?step ?fin ?zq11sub); (case zq11a1 => exact rfl); (case zq11a2 => exact rfl); (case zq11a3 => exact rfl); (case zq11a4 => exact rfl); (case zq11a5 => exact rfl); (case zq11hD => assumption); (case zq11sub => kcj_all); (case zq11hL => exact rfl); (case zq11a6 => assumption); (case zq11a7 => assumption); (case zq11a8 => l_ints); (case zq11a9 => l_ints); (case zq11a10 => assumption); (case zq11a11 => assumption); (case zq11a12 => assumption); (case zq11a13 => assumption); (case zq11a14 => omega); (case zq11h0 => assumption); (case zq11h1 => assumption); (case zq11h2 => assumption); (case zq11h3 => assumption); (case zq11g0 => exact ⟨by assumption, by assumption⟩); (case zq11g1 => exact ⟨by assumption, by assumption⟩); (case zq11g2 => exact ⟨by assumption, by assumption⟩); (case zq11g3 => exact ⟨by assumption, by assumption⟩); (case zq11q0 => assumption); (case zq11q1 => assumption); (case zq11q2 => assumption); (case zq11q3 => assumption))))
  w_on
  intro dp un gd cn cs a ccd cl outer A₀ base h₀ L m s Q E B F X N T hk hd hu ret
  refine wpAny_call ?_
  k_dflt k_enter
  (k_with "pyIter ref" => (k_of "turn" => k_state_given ["heap!"] (fun hs0 pre hs => hs.length = hs0.length ∧ Grd p hs0 pre.length hs) "heap"))
  (k_with "state" => first | exact grd_step (by assumption) (by assumption) (by assumption) | exact grd_told (by assumption))
  have hD9 : D0Is d0 o0 := ⟨⟩
  k_steps
  case step =>
    clear hq0 hq1 hq2 hq3 hpw hp0 hp1 hp2 hp3 hf0 hf0b hf1 hf1b hf2 hf2b hf3 hf3b ret N F
    (repeat ((with_reducible rename ((_ : Nat) < _ ∧ _) => o9); clear o9))
    (repeat ((with_reducible rename ((_ : List Int) = _) => o9); clear o9))
    (repeat ((with_reducible rename ((_ : Int) = _) => o9); clear o9))
    (repeat ((with_reducible rename IntsAre _ _ => o9); clear o9))
    (repeat ((with_reducible rename (Obj.data _ = _) => o9); clear o9))
    unfold StepP
    intro P p q0 f tf m9 news9 it9 h9 tk9 hp hp2 hP hf hf2 hq hT hit9 F9 N9
    obtain ⟨lh, ls, vh, vs, hs1, S1, nh, ns, oP, oL, u1, u2, u3, uP, vL, hled, hmb, hmn, hmc, hmh, hms, hcP, hcL, hih, his, htold, hlenh, hlens, o1, o2, o3, o4, o5, o6⟩ := hT
    subst hled
    replace F9 := fr_puts F9 hmb hmn hmc hmh hms
    dsimp only
    try k_fold
    k_steps
    all_goals exact absurd rfl (by assumption)
  case fin =>
    unfold FinP
    intro m9 news9 h9 tk9 hT F9 N9
    obtain ⟨lh, ls, vh, vs, hs1, S1, nh, ns, oP, oL, u1, u2, u3, uP, vL, hled, hmb, hmn, hmc, hmh, hms, hcP, hcL, hih, his, htold, hlenh, hlens, o1, o2, o3, o4, o5, o6⟩ := hT
    subst hled
    replace F9 := fr_put (fr_put F9 hmh) ((if_neg (by decide)).trans hmc)
    dsimp only
    try k_fold
    k_steps
    all_goals (refine ret _ _ _ _ ⟨congrArg Value.bool (beq_iff_eq.mpr hlenh), rfl⟩ (by k_asm) (cb_drop (by assumption) (by kcj_all)))
end

-- part B1
section
section
variable {w : World} {A : Around} {E : Value → Shared → Prop} {s : Shared} {h₀ : Heap} {L : Addr} {m : Str → Option Value} {news : List (Addr × Obj)} {Q : Value → Shared → Prop}
theorem ap_cut : ∀ j : Fin 16, (([65, 66, 67, 68, 69, 70, 71, 72, 73, 74, 75, 76, 77, 78, 79, 80] : List Int).drop (min j.val 16)).take (min (j.val + 1) 16 - min j.val 16) = [65 + (j.val : Int)] := by decide
theorem u_ap {b : Array UInt8} {t ta tb : Tok} {value slice : PySem.Expr} {mod : Int} (F : Fr h₀ L s.heap m) (N : News h₀ L s.heap news) (hb : KBw.bInts b = [65, 66, 67, 68, 69, 70, 71, 72, 73, 74, 75, 76, 77, 78, 79, 80]) (h0 : 0 ≤ mod) (h1 : mod < 16)
    (h : ∀ h' t' k c, Fr h₀ L h' m → News h₀ L h' news → KBw.bInts c = [65 + mod] → Q (.bytes c t') { s with heap := h', toks := k })
    (hs : subscripted slice false (.bytes b t) (.ref s.heap.objs.size) = operate [.ref s.heap.objs.size, .bytes b t] (getItem (.bytes b t) (.ref s.heap.objs.size)) := by with_unfolding_all rfl)
    (ht : ∀ r, letTemporaryGo value (.bytes b t) r = pure () := by intro _; with_unfolding_all rfl) :
    wpAny (model prg w) A (subscriptTail value slice (.bytes b t) (.ref s.heap.objs.size)) Q E { s with heap := s.heap.push { cls := .type "slice", data := .fields #[.int mod ta, .int (mod + 1) tb, .none] } } := by
  refine KBc.slice_K F N hb (.int mod ta) (.int (mod + 1) tb) (by decide) (fun h' t' k F' N' hk => h h' t' k _ F' N' ?_) hs ht
  rw [hk]
  obtain ⟨j, rfl⟩ : ∃ j : Nat, mod = (j : Int) := ⟨mod.toNat, by omega⟩
  have e1 : ((j : Int) + 1) = ((j + 1 : Nat) : Int) := by omega
  simp only [Option.elim, e1, clipAt_nat]
  exact ap_cut ⟨j, by omega⟩

theorem u_abs {a : Int} {t : Tok} (h0 : 0 ≤ a) (h : ∀ u tk, Q (.int a u) { s with toks := tk }) : wpAny (model prg w) A (call (.builtin "abs") [.int a t]) Q E s :=
  call_abs_int fun u tk => by rw [if_neg (by omega)]; exact h u tk
theorem u_divmod {a : Int} {t u : Tok} (h0 : 0 ≤ a) (F : Fr h₀ L s.heap m) (N : News h₀ L s.heap news)
    (h : ∀ D h' t1 t2 k, Fr h₀ L h' m → News h₀ L h' ((D, { cls := .type "tuple", data := .seq #[.int (a / 16) t1, .int (a % 16) t2] }) :: news) → (∀ p ∈ news, p.1 < D) → Q (.ref D) { s with toks := k, heap := h' }) :
    wpAny (model prg w) A (call (.builtin "divmod") [.int a t, .int 16 u]) Q E s := by
  refine divmod_N F N (by decide) (fun h' F' N' => ?_) (Or.inl (PyProof.noPylong_of_log2 (by decide +kernel)))
  rw [Int.fdiv_eq_ediv_of_nonneg _ (by decide), Int.fmod_eq_emod_of_nonneg _ (by decide)] at N'
  exact h _ _ _ _ _ F' N' fun p hp => Heap.lt_size (N p hp).1
end
theorem WhlIf.fork {b : Bool} {T F : Prop} (hy : b = true → T) (hn : b = false → F) : WhlIf b T F := by
  cases b with
  | true => exact WhlIf.yes rfl (hy rfl)
  | false => exact WhlIf.no rfl (hn rfl)

theorem bInts_nil : KBw.bInts #[] = [] := rfl
def WordP (num : Int) (ks : List Int) : Prop :=
  ks.length ≤ 4 ∧ List.replicate (4 - ks.length) 65 ++ ks = [65 + num / 4096, 65 + num / 256 % 16, 65 + num / 16 % 16, 65 + num % 16] ∧ ks.head? ≠ some 65
def ApOut (num : Int) (news : List (Addr × Obj)) (v : Value) (news' : List (Addr × Obj)) : Prop := ∃ arr t' ks, v = .bytes arr t' ∧ KBw.bInts arr = ks ∧ WordP num ks ∧ news' = news
theorem ap_ret {h₀ h' : Heap} {L : Addr} {m : Str → Option Value} {news all : List (Addr × Obj)} {s : Shared} {Q : Value → Shared → Prop} {num : Int} {arr : Array UInt8} {ks : List Int} {t : Tok} {tk : Nat}
    (ret : ∀ v news' h' tk', ApOut num news v news' → Fr h₀ L h' m → News h₀ L h' news' → Q v { s with heap := h', toks := tk' })
    (F : Fr h₀ L h' m) (N : News h₀ L h' all) (sub : ∀ p ∈ news, p ∈ all) (hk : KBw.bInts arr = ks) (hw : WordP num ks) : Q (.bytes arr t) { s with heap := h', toks := tk } :=
  ret _ _ _ _ ⟨arr, t, ks, rfl, hk, hw, rfl⟩ F fun p hp => N p (sub p hp)

theorem c_ap {w : World} {mean : ExcName → Option Value} {mg mb : Str → Option Value} {news : List (Addr × Obj)} {num : Int} {t : Tok} (h0 : 0 ≤ num) (h1 : num < 65536) :
   Ctr w mean mg mb 79 [.int num t] news 4 (ApOut num news) := by
  k_with_none
  (k_with "call ref" => (k_here; refine wpAny_call ?_; k_dflt k_enter))
  (k_with "call type:range" => ((rename Fr _ _ _ _ => F'); (rename News _ _ _ _ => N'); with_unfolding_all refine range1_rows F' N' ?_; intro _ _ _ _ _ _ _ _ _))
  (k_with "call builtin:list.append" => (k_here; k_dflt (refine' append_K ?zq2k1 ?zq2k2 ?zq2k3 ?_ ?zq2z; (case zq2k1 => k_asm); (case zq2k2 => k_asm); (case zq2k3 => k_upd); (case zq2z => size_fits); k_whole); intro h' F' N'; (try k_sweep)))
  (k_with "subscriptTail Name Slice bytes ref" => (k_here; (with_reducible rename Fr _ _ _ _ => F'); (with_reducible rename News _ _ _ _ => N'); ((refine u_ap (s := ⟨_, _, _, _, _⟩) F' N' (by decide) (by omega) (by omega) ?_)); intro h' t' k' c' F' N' kbcK))
  (k_with "call builtin:abs" => (k_here; (with_reducible refine u_abs (by assumption) ?_); intro u' tk'))
  (k_with "call builtin:divmod" => (k_here; (with_reducible show wpAny _ _ (call (Value.builtin _) [Value.int _ _, Value.int 16 _]) _ _ _); (refine u_divmod (by omega) (by assumption) (by assumption) ?_); intro D' h' t1' t2' k' F' N' l1; (try k_lt l1)))
  (k_with "exec While Name" => (k_here; k_dflt (refine whl_start 100 ?_)))
  (k_with "WhlIf" => (first   | (refine WhlIf.yes (by (simp only [bne_iff_ne, ne_eq]; omega)) ?_)   | (refine WhlIf.no (by (simp only [bne_eq_false_iff_eq]; omega)) ?_)   | (refine WhlIf.fork (fun hW => ?_) (fun hW => ?_) <;> (simp only [bne_iff_ne, ne_eq, bne_eq_false_iff_eq] at hW))))
  w_on
  intro dp un gd cn cs a ccd cl outer A₀ base h₀ L m s Q E B F X N T hk hd hu ret
  refine wpAny_call ?_
  k_dflt k_enter
  k_steps
  all_goals refine ap_ret (Q := Q) ret (by k_asm) (by k_asm) (fun p hp => by repeat (first | exact hp | refine List.mem_cons_of_mem _ ?_)) (by first | assumption | exact bInts_nil) ?_
  all_goals (clear ret; simp only [WordP, List.map_nil, List.append_nil, List.cons_append, List.nil_append, List.length_cons, List.length_nil, Nat.zero_add, Nat.reduceAdd, Nat.reduceSub, List.replicate, List.cons.injEq, and_true, List.head?_cons, List.head?_nil, ne_eq, Option.some.injEq, reduceCtorEq, not_false_eq_true])
  all_goals omega
end

-- part B2
section
def b64L : List Int := [65, 66, 67, 68, 69, 70, 71, 72, 73, 74, 75, 76, 77, 78, 79, 80, 81, 82, 83, 84, 85, 86, 87, 88, 89, 90, 97, 98, 99, 100, 101, 102, 103, 104, 105, 106, 107, 108, 109, 110, 111, 112, 113, 114, 115, 116, 117, 118, 119, 120, 121, 122, 48, 49, 50, 51, 52, 53, 54, 55, 56, 57, 43, 47]
def b64c (i : Int) : Int := b64L.getD i.toNat 0
theorem b64L_in : ∀ k ∈ b64L, 0 ≤ k ∧ k < 256 := by decide
theorem b64c_in (i : Int) : 0 ≤ b64c i ∧ b64c i < 256 := KBw.getD_in b64L_in
theorem and_zero (n k : Nat) (h : k < 256) : (n * 256) &&& k = 0 := by
  apply Nat.eq_of_testBit_eq
  intro i
  rw [Nat.testBit_and, Nat.zero_testBit]
  rcases Nat.lt_or_ge i 8 with hi | hi
  · have e : (n * 256).testBit i = false := by
      rw [show n * 256 = 2 ^ 8 * n by omega, Nat.testBit_two_pow_mul]
      simp; omega
    rw [e, Bool.false_and]
  · have e : k.testBit i = false := Nat.testBit_lt_two_pow (Nat.lt_of_lt_of_le h (by
      calc 256 = 2 ^ 8 := rfl
        _ ≤ 2 ^ i := Nat.pow_le_pow_right (by decide) hi))
    rw [e, Bool.and_false]
theorem or_add {a b : Int} (ha : 0 ≤ a) (hb : 0 ≤ b) (hb2 : b < 256) : Builtin.bitOr (a * 256) b = a * 256 + b := by
  rw [bitOr_and]
  have e : Builtin.bitAnd (a * 256) b = 0 := by
    show Spec.bitAnd (a * 256) b = 0
    obtain ⟨n, rfl⟩ : ∃ n : Nat, a = (n : Int) := ⟨a.toNat, by omega⟩
    obtain ⟨k, rfl⟩ : ∃ k : Nat, b = (k : Int) := ⟨b.toNat, by omega⟩
    have h1 : decide (0 ≤ (n : Int) * 256) = true := decide_eq_true (by omega)
    have h2 : decide (0 ≤ (k : Int)) = true := decide_eq_true (by omega)
    unfold Spec.bitAnd
    rw [h1, h2]
    show (((((n : Int) * 256).toNat &&& ((k : Int)).toNat : Nat)) : Int) = 0
    rw [show ((n : Int) * 256).toNat = n * 256 by omega, Int.toNat_natCast, and_zero n k (by omega)]
    rfl
  rw [e]
  omega
section
variable {w : World} {A : Around} {E : Value → Shared → Prop} {s : Shared} {h₀ : Heap} {L : Addr} {m : Str → Option Value} {news : List (Addr × Obj)} {Q : Value → Shared → Prop}
theorem u_shl {a : Int} {t u : Tok} (h0 : 0 ≤ a) (h1 : a < 65536) (h : Q (.int (a * 256) s.toks) { s with toks := s.toks + 1 }) : wpAny (model prg w) A (binaryOp .LShift (.int a t) (.int 8 u)) Q E s :=
  lshift_int_small (by decide) (by decide) (by omega) h
theorem u_or {a b : Int} {t u : Tok} (h0 : 0 ≤ a) (hb : 0 ≤ b) (hb2 : b < 256) (h : Q (.int (a * 256 + b) s.toks) { s with toks := s.toks + 1 }) : wpAny (model prg w) A (binaryOp .BitOr (.int (a * 256) t) (.int b u)) Q E s :=
  or_int (by rw [or_add h0 hb hb2]; exact h)
theorem u_and16 {a : Int} {t u : Tok} (h : Q (.int (a % 65536) s.toks) { s with toks := s.toks + 1 }) : wpAny (model prg w) A (binaryOp .BitAnd (.int a t) (.int 65535 u)) Q E s :=
  and_int (by rw [bitAnd_m16]; exact h)
theorem u_and6 {a : Int} {t u : Tok} (h : Q (.int (a % 64) s.toks) { s with toks := s.toks + 1 }) : wpAny (model prg w) A (binaryOp .BitAnd (.int a t) (.int 63 u)) Q E s :=
  and_int (by rw [bitAnd_m6]; exact h)
theorem u_shr {a n : Int} (c : Int) {t u : Tok} (hn : 0 ≤ n) (hc : 0 ≤ c) (e : (2 : Int) ^ n.toNat = c) (h : Q (.int (a / c) s.toks) { s with toks := s.toks + 1 }) : wpAny (model prg w) A (binaryOp .RShift (.int a t) (.int n u)) Q E s :=
  rshift_int hn (by rw [e, Int.fdiv_eq_ediv_of_nonneg _ hc]; exact h)
theorem u_b64 {b : Array UInt8} {t ui : Tok} {value slice : PySem.Expr} {i : Int} (hb : KBw.bInts b = b64L) (h0 : 0 ≤ i) (h1 : i < 64) (h : ∀ t' k, 0 ≤ b64c i → b64c i < 256 → Q (.int (b64c i) t') { s with toks := k })
    (hs : subscripted slice false (.bytes b t) (.int i ui) = operate [.bytes b t, .int i ui] (getItem (.bytes b t) (.int i ui)) := by with_unfolding_all rfl)
    (ht : ∀ r, letTemporaryGo value (.bytes b t) r = pure () := by intro _; with_unfolding_all rfl) : wpAny (model prg w) A (subscriptTail value slice (.bytes b t) (.int i ui)) Q E s :=
  KBw.item_K hb (by decide) h0 (by exact h1) h hs ht
theorem u_mk {l : Addr} {arr : Array Value} {n : Nat} {a b c d : Int} {ta tb tc td : Tok} (F : Fr h₀ L s.heap m) (N : News h₀ L s.heap news) (hm : (l, listOf arr n) ∈ news) (e : arr = [Value.int a ta, Value.int b tb, Value.int c tc, Value.int d td].toArray) (hh : A.handled = none)
    (ha : 0 ≤ a ∧ a < 256) (hb : 0 ≤ b ∧ b < 256) (hc : 0 ≤ c ∧ c < 256) (hd : 0 ≤ d ∧ d < 256)
    (h : ∀ h' t' k arr', Fr h₀ L h' m → News h₀ L h' news → KBw.bInts arr' = [a, b, c, d] → Q (.bytes arr' t') { s with heap := h', toks := k }) : wpAny (model prg w) A (call (.type "bytes") [.ref l]) Q E s := by
  subst e
  refine KBa.make_K (ns := [a, b, c, d]) F N hh (News.isList N hm) (.cons _ _ (.cons _ _ (.cons _ _ (.cons _ _ .nil)))) ?_ (by simp) (fun h' t' k F' N' hr => h h' t' k _ F' N' (KBa.ints_make hr))
  intro k hk
  simp only [List.mem_cons, List.not_mem_nil, or_false] at hk
  rcases hk with rfl | rfl | rfl | rfl <;> assumption
end

def B64Out (x : Int) (news : List (Addr × Obj)) (v : Value) (news' : List (Addr × Obj)) : Prop :=
  ∃ arr t', v = .bytes arr t' ∧ KBw.bInts arr = [b64c 0, b64c (x / 4096), b64c (x / 64 % 64), b64c (x % 64)] ∧ news' = news
theorem b64_ret {h₀ h' : Heap} {L : Addr} {m : Str → Option Value} {news all : List (Addr × Obj)} {s : Shared} {Q : Value → Shared → Prop} {x : Int} {arr : Array UInt8} {i0 i1 i2 i3 : Int} {t : Tok} {tk : Nat}
    (ret : ∀ v news' h' tk', B64Out x news v news' → Fr h₀ L h' m → News h₀ L h' news' → Q v { s with heap := h', toks := tk' })
    (F : Fr h₀ L h' m) (N : News h₀ L h' all) (sub : ∀ p ∈ news, p ∈ all) (hk : KBw.bInts arr = [b64c i0, b64c i1, b64c i2, b64c i3]) (hw : i0 = 0 ∧ i1 = x / 4096 ∧ i2 = x / 64 % 64 ∧ i3 = x % 64) : Q (.bytes arr t) { s with heap := h', toks := tk } := by
  obtain ⟨rfl, rfl, rfl, rfl⟩ := hw
  exact ret _ _ _ _ ⟨arr, t, rfl, hk, rfl⟩ F fun p hp => N p (sub p hp)

theorem c_b64 {w : World} {mean : ExcName → Option Value} {mg mb : Str → Option Value} {d1 d2 : Addr} {v1 v2 : Obj} {arr : Array UInt8} {x1 x2 : Int} {t : Tok} (hb : KBw.bInts arr = [0, x1, x2]) (h0 : 0 ≤ x1) (h1 : x1 < 256) (h2 : 0 ≤ x2) (h3 : x2 < 256) :
   Ctr w mean mg mb 72 [.bytes arr t] [(d1, v1), (d2, v2)] 8 (B64Out (x1 * 256 + x2) [(d1, v1), (d2, v2)]) := by
  k_with_none
  (k_with "call ref" => (k_here; refine wpAny_call ?_; k_dflt k_enter))
  (k_with "call type:range" => ((rename Fr _ _ _ _ => F'); (rename News _ _ _ _ => N'); with_unfolding_all refine range1_rows F' N' ?_; intro _ _ _ _ _ _ _ _ _))
  (k_with "call builtin:list.append" => (k_here; k_dflt (refine' append_K ?zq2k1 ?zq2k2 ?zq2k3 ?_ ?zq2z; (case zq2k1 => k_asm); (case zq2k2 => k_asm); (case zq2k3 => k_upd); (case zq2z => size_fits); k_whole); intro h' F' N'; (try k_sweep)))
  (k_with "call type:type" => (k_here; (with_reducible show wpAny _ _ (call (Value.type "type") [Value.bytes _ _]) _ _ _); refine call_type_of (Tx := "bytes") (typeIs_bytes _ _ _) (by decide +kernel) ?_))
  (k_with "call type:type" => (k_here; (with_reducible show wpAny _ _ (call (Value.type "type") [Value.bool _]) _ _ _); refine call_type_of (Tx := "bool") rfl (by decide +kernel) ?_))
  (k_with "call type:bytes" => (k_here; (with_reducible show wpAny _ _ (call (Value.type "bytes") [Value.ref _]) _ _ _); k_dflt (refine' u_mk ?zq5F ?zq5N ?zq5m ?zq5e ?zq5hh ?zq5ra ?zq5rb ?zq5rc ?zq5rd ?_; (case zq5F => k_asm); (case zq5N => k_asm); (case zq5m => k_mem); (case zq5e => with_unfolding_all rfl); (case zq5hh => rfl); (case zq5ra => exact ⟨by assumption, by assumption⟩); (case zq5rb => exact ⟨by assumption, by assumption⟩); (case zq5rc => exact ⟨by assumption, by assumption⟩); (case zq5rd => exact ⟨by assumption, by assumption⟩); k_whole); intro h' t' k' arr' F' N' kbcK))
  (k_with "pyIter bytes" => ((with_reducible show wpAny _ _ (pyIter (Value.bytes _ _)) (fun it s₂ => LoopAtV _ _ _ _ _ _ _ _ _ it s₂) _ _); k_here; k_bytesUnr))
  (k_with "exec While Compare" => (k_here; k_dflt (refine whl_start 100 ?_)))
  (k_with "binaryOp LShift int int" => (k_here; (with_reducible show wpAny _ _ (binaryOp Operator.LShift (Value.int _ _) (Value.int 8 _)) _ _ _); refine u_shl (by omega) (by omega) ?_))
  (k_with "binaryOp BitOr int int" => (k_here; (with_reducible show wpAny _ _ (binaryOp Operator.BitOr (Value.int (_ * 256) _) (Value.int _ _)) _ _ _); refine u_or (by omega) (by omega) (by omega) ?_))
  (k_with "binaryOp BitAnd int int" => (k_here; first | ((with_reducible show wpAny _ _ (binaryOp Operator.BitAnd (Value.int _ _) (Value.int 65535 _)) _ _ _); refine u_and16 ?_) | ((with_reducible show wpAny _ _ (binaryOp Operator.BitAnd (Value.int _ _) (Value.int 63 _)) _ _ _); refine u_and6 ?_)))
  (k_with "binaryOp RShift int int" => (k_here; first | refine u_shr 4 (by decide) (by decide) (by decide) ?_ | refine u_shr 16 (by decide) (by decide) (by decide) ?_ | refine u_shr 64 (by decide) (by decide) (by decide) ?_ | refine u_shr 1 (by decide) (by decide) (by decide) ?_))
  (k_with "subscriptTail" => (k_here; (with_reducible show wpAny _ _ (subscriptTail _ _ (Value.bytes _ _) (Value.int _ _)) _ _ _); (refine u_b64 (by decide) (by omega) (by omega) ?_); intro t' k' kbcLo kbcHi))
  w_on
  intro dp un gd cn cs a ccd cl outer A₀ base h₀ L m s Q E B F X N T hk hd hu ret
  refine wpAny_call ?_
  k_dflt k_enter
  k_steps
  all_goals (refine b64_ret (Q := Q) ret (by k_asm) (by k_asm) (by kcj_all) (by assumption) ?_; omega)
end

-- part F1
section
open Builtin PySem.Calls
theorem slot_find : Slot "bytes" "find" "bytes.find" :=
  .of (owner := "bytes") (n := "find") (by rw [typeLookup_type, builtinLookup_eq_fast]; kernel_rfl) (by decide +kernel) (by decide +kernel) (by decide +kernel)
    (by first | exact .inl (by decide +kernel) | exact .inr (by decide +kernel)) (by rw [isSubtype_type]; kernel_rfl)
theorem type_find : typeOf (.builtin "bytes.find") = pure (.type "method_descriptor") := by show builtinType _ = _; rw [builtinType_eq_fast]; kernel_rfl
theorem entry_find : entryFor table "bytes.find" = some Builtin.«bytes.find» := entryFor_of_tree (by kernel_rfl)
theorem args_find (a b : Value) : argsOk "bytes.find" ⟨[a, b], []⟩ := by
  unfold argsOk; rw [signature?_of (id := "bytes.find") (n := ['d', 'n', 'i', 'f']) (o := ['s', 'e', 't', 'y', 'b']) (by kernel_rfl) FB.owner_bytes]; kernel_rfl
theorem window_eq (n : Nat) : Bytes.window n none none = (0, (n : Int)) := by
  have h : ¬ ((n : Int) < 0) := by omega
  simp [Bytes.window, h]
theorem search_eq {b c : Array UInt8} {t u : Tok} (hs : c.size ≤ b.size) : Bytes.searchArgs .bytes "find" ⟨[.bytes b t, .bytes c u], []⟩ = pure (b, c, some (0, b.size)) := by
  have h1 : ∀ id : String, selfAndSome id "find" 1 3 ⟨[.bytes b t, .bytes c u], []⟩ = pure (.bytes b t, [.bytes c u]) := fun id => rfl
  have h2 : Bytes.bound? none = pure none := rfl
  have h3 : Bytes.payload (.bytes b t) = pure b := rfl
  have h4 : ¬ ((b.size : Int) - 0 < (c.size : Int)) := by omega
  unfold Bytes.searchArgs
  simp only [h1, pure_bind]
  show (Bytes.bound? none >>= fun _ => _) = _
  rw [h2, pure_bind]
  show (Bytes.bound? none >>= fun _ => _) = _
  rw [h2, pure_bind]
  show (Bytes.buffer? _ (.bytes c u) >>= fun _ => _) = _
  rw [KBy.buffer_eq, pure_bind]
  simp only [pure_bind, h3, window_eq, if_neg h4]
  rfl
theorem meets_find {b c : Array UInt8} {t u : Tok} {i : Nat} (hs : c.size ≤ b.size) (hf : Bytes.find? b c 0 b.size = some i) :
    Meets («bytes.find» ⟨[.bytes b t, .bytes c u], []⟩) (fun _ R s => ∀ t' k, R (.ok (.ret (.int (i : Int) t'))) { s with toks := k }) := by
  refine .of_wp fun prog w A R s h => ?_
  unfold «bytes.find» Bytes.searchM
  rw [search_eq hs]
  simp only [pure_bind, Option.bind_some, Bool.false_eq_true, if_false, hf]
  show wpAny _ _ (mkInt (i : Int) >>= fun v => ret v) _ _ _
  exact wpAny_bind (wpAny_mkInt (wpAny_pure ⟨_, rfl, h _ _⟩))
theorem find_all : ∀ v : Fin 64, Bytes.find? (b64L.map fun n => UInt8.ofNat n.toNat).toArray #[UInt8.ofNat (b64L.getD v.val 0).toNat] 0 64 = some v.val := by decide +kernel
theorem one_of {c : Array UInt8} {k : Int} (h : KBw.bInts c = [k]) : c = #[UInt8.ofNat k.toNat] := by
  have h' : c.toList.map (fun x => (x.toNat : Int)) = [k] := h
  match e : c.toList, h' with
  | [x], h' =>
    have hk : (x.toNat : Int) = k := by simpa using h'
    have : c = [x].toArray := by rw [← e, Array.toArray_toList]
    rw [this, ← hk, Int.toNat_natCast, UInt8.ofNat_toNat]
theorem u_find {w : World} {A : Around} {E : Value → Shared → Prop} {s : Shared} {Q : Value → Shared → Prop} {b c : Array UInt8} {t u : Tok} {v : Int} (hb : b = (b64L.map fun n => UInt8.ofNat n.toNat).toArray) (hc : KBw.bInts c = [b64c v]) (h0 : 0 ≤ v) (h1 : v < 64)
    (h : ∀ t' k, Q (.int v t') { s with toks := k }) : wpAny (model prg w) A (call (.builtin "bytes.find") [.bytes b t, .bytes c u]) Q E s := by
  obtain ⟨n, rfl⟩ : ∃ n : Nat, v = (n : Int) := ⟨v.toNat, by omega⟩
  have ec := one_of hc
  subst hb ec
  refine call_meets slot_find (typeIs_bytes _ _ _) entry_find (args_find _ _) (meets_find (i := n) (by show 1 ≤ 64; decide) ?_) h
  have := find_all ⟨n, by omega⟩
  unfold b64c
  rw [Int.toNat_natCast]
  exact this
theorem u_method {M : Model} {A : Around} {E : Value → Shared → Prop} {s : Shared} {b : Array UInt8} {t : Tok} {pl : Sem Bool} {Q : Value × List Value → Shared → Prop} (h : Q (.builtin "bytes.find", [.bytes b t]) s) : wpAny M A (getMethod (.bytes b t) "find" pl) Q E s :=
  KBd.method_of (.bytes b t) (typeIs_bytes _ _ _) slot_find type_find KBd.noRef h

theorem txt_cut (l : List Int) (hl : l.length = 4) : ∀ j : Nat, j < 4 → (l.drop (min j 4)).take (min (j + 1) 4 - min j 4) = [l.getD j 0] := by
  match l, hl with
  | [a, b, c, d], _ =>
    intro j hj
    match j, hj with
    | 0, _ => rfl
    | 1, _ => rfl
    | 2, _ => rfl
    | 3, _ => rfl
theorem getD_map4 {a0 a1 a2 a3 k : Int} (h0 : 0 ≤ k) (h1 : k < 4) : [b64c a0, b64c a1, b64c a2, b64c a3].getD k.toNat 0 = b64c ([a0, a1, a2, a3].getD k.toNat 0) := by
  have : k = 0 ∨ k = 1 ∨ k = 2 ∨ k = 3 := by omega
  rcases this with rfl | rfl | rfl | rfl <;> rfl
theorem getD_in4 {a0 a1 a2 a3 k : Int} (h0 : 0 ≤ k) (h1 : k < 4) (g0 : 0 ≤ a0 ∧ a0 < 64) (g1 : 0 ≤ a1 ∧ a1 < 64) (g2 : 0 ≤ a2 ∧ a2 < 64) (g3 : 0 ≤ a3 ∧ a3 < 64) : 0 ≤ [a0, a1, a2, a3].getD k.toNat 0 ∧ [a0, a1, a2, a3].getD k.toNat 0 < 64 := by
  have : k = 0 ∨ k = 1 ∨ k = 2 ∨ k = 3 := by omega
  rcases this with rfl | rfl | rfl | rfl <;> assumption
theorem u_txt {w : World} {A : Around} {E : Value → Shared → Prop} {s : Shared} {h₀ : Heap} {L : Addr} {m : Str → Option Value} {news : List (Addr × Obj)} {Q : Value → Shared → Prop} {b : Array UInt8} {t ta tb : Tok} {value slice : PySem.Expr} {k a0 a1 a2 a3 : Int} (F : Fr h₀ L s.heap m) (N : News h₀ L s.heap news) (hb : KBw.bInts b = [b64c a0, b64c a1, b64c a2, b64c a3]) (h0 : 0 ≤ k) (h1 : k < 4)
    (g0 : 0 ≤ a0 ∧ a0 < 64) (g1 : 0 ≤ a1 ∧ a1 < 64) (g2 : 0 ≤ a2 ∧ a2 < 64) (g3 : 0 ≤ a3 ∧ a3 < 64)
    (h : ∀ h' t' n c, Fr h₀ L h' m → News h₀ L h' news → KBw.bInts c = [b64c ([a0, a1, a2, a3].getD k.toNat 0)] → 0 ≤ [a0, a1, a2, a3].getD k.toNat 0 → [a0, a1, a2, a3].getD k.toNat 0 < 64 → Q (.bytes c t') { s with heap := h', toks := n })
    (hs : subscripted slice false (.bytes b t) (.ref s.heap.objs.size) = operate [.ref s.heap.objs.size, .bytes b t] (getItem (.bytes b t) (.ref s.heap.objs.size)) := by with_unfolding_all rfl)
    (ht : ∀ r, letTemporaryGo value (.bytes b t) r = pure () := by intro _; with_unfolding_all rfl) :
    wpAny (model prg w) A (subscriptTail value slice (.bytes b t) (.ref s.heap.objs.size)) Q E { s with heap := s.heap.push { cls := .type "slice", data := .fields #[.int k ta, .int (k + 1) tb, .none] } } := by
  refine KBc.slice_K F N hb (.int k ta) (.int (k + 1) tb) (by simp) (fun h' t' n F' N' hk => h h' t' n _ F' N' ?_ (getD_in4 h0 h1 g0 g1 g2 g3).1 (getD_in4 h0 h1 g0 g1 g2 g3).2) hs ht
  rw [hk, ← getD_map4 h0 h1]
  obtain ⟨j, rfl⟩ : ∃ j : Nat, k = (j : Int) := ⟨k.toNat, by omega⟩
  have e1 : ((j : Int) + 1) = ((j + 1 : Nat) : Int) := by omega
  simp only [Option.elim, e1, clipAt_nat, Int.toNat_natCast]
  exact txt_cut _ rfl j (by omega)
end

-- part L0
section
theorem fold_in : ∀ (l : List Int) (a : Int), (∀ x ∈ l, 0 ≤ x ∧ x < 16) → 0 ≤ a → 0 ≤ l.foldl (fun a' => HAdd.hAdd (16 * a')) a ∧ l.foldl (fun a' => HAdd.hAdd (16 * a')) a < (a + 1) * 16 ^ l.length
  | [], a, _, ha => by simp; omega
  | x :: r, a, h, ha => by
    have hx := h x (List.mem_cons_self ..)
    have ih := fold_in r (16 * a + x) (fun y hy => h y (List.mem_cons_of_mem _ hy)) (by omega)
    rw [List.foldl_cons, List.length_cons, Int.pow_succ]
    refine ⟨ih.1, Int.lt_of_lt_of_le ih.2 ?_⟩
    have hp : (0 : Int) ≤ 16 ^ r.length := Int.pow_nonneg (by decide)
    have e : (a + 1) * (16 ^ r.length * 16) = (16 * a + 16) * 16 ^ r.length := by
      rw [Int.mul_comm (16 ^ r.length) 16, ← Int.mul_assoc]
      congr 1
      omega
    rw [e]
    exact Int.mul_le_mul_of_nonneg_right (by omega) hp
theorem num_in (ns : List Int) : 0 ≤ List.foldl (fun a' => HAdd.hAdd (16 * a')) 0 (List.take 4 (List.map (fun k' => k'.fmod 16) (List.take 4 ns) ++ [5, 7])) ∧ List.foldl (fun a' => HAdd.hAdd (16 * a')) 0 (List.take 4 (List.map (fun k' => k'.fmod 16) (List.take 4 ns) ++ [5, 7])) < 65536 := by
  have h := fold_in (List.take 4 (List.map (fun k' => k'.fmod 16) (List.take 4 ns) ++ [5, 7])) 0 ?_ (by decide)
  · refine ⟨h.1, Int.lt_of_lt_of_le h.2 ?_⟩
    rw [Int.zero_add, Int.one_mul]
    have hl : (List.take 4 (List.map (fun k' => k'.fmod 16) (List.take 4 ns) ++ [5, 7])).length ≤ 4 := by rw [List.length_take]; omega
    have := Int.ofNat_le.mpr (Nat.pow_le_pow_right (n := 16) (by decide) hl)
    simpa using this
  · intro x hx
    rcases List.mem_append.mp (List.mem_of_mem_take hx) with h | h
    · obtain ⟨y, _, rfl⟩ := List.mem_map.mp h
      have := fdm y 16 (by decide)
      omega
    · simp only [List.mem_cons, List.not_mem_nil, or_false] at h
      omega

theorem word_len {num : Int} {ks : List Int} (h : WordP num ks) : ks.length ≤ 4 := h.1
theorem word_ne {num : Int} {ks : List Int} {n : Nat} (h : WordP num ks) : List.take n ks ≠ [65] := by
  intro e
  apply h.2.2
  cases ks with
  | nil => simp at e
  | cons x r =>
    cases n with
    | zero => simp at e
    | succ n =>
      rw [List.take_succ_cons] at e
      rw [(List.cons.inj e).1]
      rfl

section
variable {w : World} {mean : ExcName → Option Value} {mg mb : Str → Option Value} {dp un : Nat} {gd : Option (List Code)} {cn : Str} {cs : Scope} {a : Addr} {ccd : Value} {cl : List (Str × Addr)} {outer : List Env} {A₀ A : Around} {base h₀ : Heap} {L : Addr} {m : Str → Option Value} {s : Shared} {Q E : Value → Shared → Prop} {news : List (Addr × Obj)}
theorem u_int2ap {num : Int} {t : Tok} (B : Below A₀ base outer h₀) (F : Fr h₀ L s.heap m) (X : (hd.heap_39 w.params).In h₀) (N : News h₀ L s.heap news) (T : Top hd.view_39 lse mean mg mb h₀) (hk : cs.kind = .function)
    (hdp : dp + 4 < recursionLimit) (hun : un + 32 < cLine) (h0 : 0 ≤ num) (h1 : num < 65536)
    (ret : ∀ (arr : Array UInt8) (t' : Tok) (ks : List Int) (h' : Heap) (tk' : Nat), Fr h₀ L h' m → News h₀ L h' news → KBw.bInts arr = ks → WordP num ks → ks.length ≤ 4 → 0 ≤ num → num < 65536 → Q (.bytes arr t') { s with heap := h', toks := tk' }) :
    wpAny (model prg w) (ktrTop dp un gd cn cs L a ccd cl outer) (call (.ref 79) [.int num t]) Q E s := by
  refine c_ap h0 h1 dp un gd cn cs a ccd cl outer A₀ base h₀ L m s Q E B F X N T hk hdp hun ?_
  rintro v news' h' tk' ⟨arr, t', ks, rfl, hk', hw, rfl⟩ F' N'
  exact ret arr t' ks h' tk' F' N' hk' hw hw.1 h0 h1
theorem u_b64enc {arr : Array UInt8} {x1 x2 x : Int} {t : Tok} {oA oB : Obj} (B : Below A₀ base outer h₀) (F : Fr h₀ L s.heap m) (X : (hd.heap_39 w.params).In h₀) (N : News h₀ L s.heap news) (T : Top hd.view_39 lse mean mg mb h₀) (hk : cs.kind = .function)
    (hdp : dp + 8 < recursionLimit) (hun : un + 64 < cLine) (m1 : (L + 1 + 1, oA) ∈ news) (m2 : (L + 1, oB) ∈ news) (hb : KBw.bInts arr = [0, x1, x2]) (h0 : 0 ≤ x1) (h1 : x1 < 256) (h2 : 0 ≤ x2) (h3 : x2 < 256) (e : x1 * 256 + x2 = x)
    (ret : ∀ (arr : Array UInt8) (t' : Tok) (h' : Heap) (tk' : Nat), Fr h₀ L h' m → News h₀ L h' [(L + 1 + 1, oA), (L + 1, oB)] → KBw.bInts arr = [b64c 0, b64c (x / 4096), b64c (x / 64 % 64), b64c (x % 64)] → Q (.bytes arr t') { s with heap := h', toks := tk' }) :
    wpAny (model prg w) (ktrTop dp un gd cn cs L a ccd cl outer) (call (.ref 72) [.bytes arr t]) Q E s := by
  subst e
  refine c_b64 (d1 := L + 1 + 1) (v1 := oA) (d2 := L + 1) (v2 := oB) hb h0 h1 h2 h3 dp un gd cn cs a ccd cl outer A₀ base h₀ L m s Q E B F X ?_ T hk hdp hun ?_
  · intro p hp
    simp only [List.mem_cons, List.not_mem_nil, or_false] at hp
    rcases hp with rfl | rfl
    · exact N _ m1
    · exact N _ m2
  rintro v news' h' tk' ⟨arr, t', rfl, hk', rfl⟩ F' N'
  exact ret arr t' h' tk' F' N' hk'
theorem u_fd256 {x : Int} {t u : Tok} (h0 : 0 ≤ x) (h1 : x < 65536) (h : 0 ≤ x / 256 → x / 256 < 256 → Q (.int (x / 256) s.toks) { s with toks := s.toks + 1 }) : wpAny (model prg w) A (binaryOp .FloorDiv (.int x t) (.int 256 u)) Q E s :=
  floordiv_int (by decide) (by rw [Int.fdiv_eq_ediv_of_nonneg _ (by decide)]; exact h (by omega) (by omega)) (Or.inl (PyProof.noPylong_of_log2 (by decide +kernel)))
theorem u_fm256 {x : Int} {t u : Tok} (h : 0 ≤ x % 256 → x % 256 < 256 → Q (.int (x % 256) s.toks) { s with toks := s.toks + 1 }) : wpAny (model prg w) A (binaryOp .Mod (.int x t) (.int 256 u)) Q E s :=
  mod_int' (by decide) (by rw [Int.fmod_eq_emod_of_nonneg _ (by decide)]; exact h (by omega) (by omega))
theorem u_mk3 {l : Addr} {arr : Array Value} {n : Nat} {a b c : Int} {ta tb tc : Tok} (F : Fr h₀ L s.heap m) (N : News h₀ L s.heap news) (hm : (l, listOf arr n) ∈ news) (e : arr = [Value.int a ta, Value.int b tb, Value.int c tc].toArray) (hh : A.handled = none)
    (ha : 0 ≤ a ∧ a < 256) (hb : 0 ≤ b ∧ b < 256) (hc : 0 ≤ c ∧ c < 256)
    (h : ∀ h' t' k arr', Fr h₀ L h' m → News h₀ L h' news → KBw.bInts arr' = [a, b, c] → Q (.bytes arr' t') { s with heap := h', toks := k }) : wpAny (model prg w) A (call (.type "bytes") [.ref l]) Q E s := by
  subst e
  refine KBa.make_K (ns := [a, b, c]) F N hh (News.isList N hm) (.cons _ _ (.cons _ _ (.cons _ _ .nil))) ?_ (by simp) (fun h' t' k F' N' hr => h h' t' k _ F' N' (KBa.ints_make hr))
  intro k hk
  simp only [List.mem_cons, List.not_mem_nil, or_false] at hk
  rcases hk with rfl | rfl | rfl <;> assumption
theorem u_eqA {c d : Array UInt8} {t u : Tok} {l : List Int} (hk : KBw.bInts c = l) (hd : KBw.bInts d = [65]) (hne : l ≠ [65]) (h : Q (.bool false) s) : wpAny (model prg w) A (compareOp .Eq (.bytes c t) (.bytes d u)) Q E s := by
  refine eq_bytes ?_
  have e : (c.toList == d.toList) = false := by
    cases hq : c.toList == d.toList with
    | false => rfl
    | true => exact absurd (by rw [← hk, ← hd]; show c.toList.map _ = d.toList.map _; rw [eq_of_beq hq]) hne
  rw [e]
  exact h
theorem aaaa_cut : ∀ j : Fin 5, (([65, 65, 65, 65] : List Int).drop (min j.val 4)).take (4 - min j.val 4) = List.replicate (4 - j.val) 65 := by decide
theorem u_aaaa {b : Array UInt8} {t ta : Tok} {value slice : PySem.Expr} {n : Nat} (F : Fr h₀ L s.heap m) (N : News h₀ L s.heap news) (hb : KBw.bInts b = [65, 65, 65, 65]) (h1 : n ≤ 4)
    (h : ∀ h' t' k c, Fr h₀ L h' m → News h₀ L h' news → KBw.bInts c = List.replicate (4 - n) 65 → Q (.bytes c t') { s with heap := h', toks := k })
    (hs : subscripted slice false (.bytes b t) (.ref s.heap.objs.size) = operate [.ref s.heap.objs.size, .bytes b t] (getItem (.bytes b t) (.ref s.heap.objs.size)) := by with_unfolding_all rfl)
    (ht : ∀ r, letTemporaryGo value (.bytes b t) r = pure () := by intro _; with_unfolding_all rfl) :
    wpAny (model prg w) A (subscriptTail value slice (.bytes b t) (.ref s.heap.objs.size)) Q E { s with heap := s.heap.push { cls := .type "slice", data := .fields #[.int (n : Int) ta, .none, .none] } } := by
  refine KBc.slice_K F N hb (.int (n : Int) ta) .none (by decide) (fun h' t' k F' N' hk => h h' t' k _ F' N' ?_) hs ht
  rw [hk]
  simp only [Option.elim, clipAt_nat]
  exact aaaa_cut ⟨n, by omega⟩
theorem u_addW {c arr : Array UInt8} {t u : Tok} {num : Int} {ks : List Int} (hc : KBw.bInts c = List.replicate (4 - ks.length) 65) (hk : KBw.bInts arr = ks) (hW : WordP num ks)
    (h : ∀ t' k e, KBw.bInts e = [65 + num / 4096, 65 + num / 256 % 16, 65 + num / 16 % 16, 65 + num % 16] → Q (.bytes e t') { s with toks := k }) : wpAny (model prg w) A (binaryOp .Add (.bytes c t) (.bytes arr u)) Q E s := by
  refine KBa.add_K hc hk ?_ (fun t' k e => h t' k _ (e.trans hW.2.1))
  have := hW.1
  rw [List.length_replicate]
  omega
theorem keeps_toks {s : Shared} {n : Nat} : Keeps s { s with toks := n } := ⟨s.heap, n, rfl, fun _ _ e => e⟩
theorem elt_sub {scope : Scope} {C : Addr} {env : Env} {m₂ : Str → Option Value} {x : Str} {k : Int} {u : Tok} {p1 p2 p3 : Pos} {kk : Nat} (hk : scope.kind = .function) (hl : (compEnv scope C env).kindOf x = some .local) (hd : (x == ("__debug__" : Str)) = false) (hn : s.heap.Ns C m₂) (hv : m₂ x = some (.int k u)) :
    wpAny (model prg w) A (eval (.BinOp (.Name x p1) .Sub (.Constant (.int 65) kk p2) p3) (compEnv scope C env)) (fun r s₃ => (∃ t', r = .int (k - 65) t') ∧ Keeps s s₃) E s := by
  refine wpAny_BinOp ?_
  refine wpAny_Name (wpAny_loadName_local hk hl hn hv ?_) hd
  refine wpAny_Constant_int ?_
  refine sub_int ?_
  exact ⟨⟨_, rfl⟩, keeps_toks⟩
theorem ints_paired {f : Int → Int} : ∀ {vs : List Value} {ks : List Int} {ys : List Value}, IntsAre vs ks → Paired (fun v r => ∃ k u, v = Value.int k u ∧ ∃ t', r = Value.int (f k) t') vs ys → IntsAre ys (ks.map f)
  | _, _, _, .nil, .nil => .nil
  | _, _, _, .cons n t h, .cons ⟨k, u, e, t', e'⟩ p => by
    obtain ⟨rfl, rfl⟩ := Value.int.inj e
    subst e'
    exact .cons _ t' (ints_paired h p)
theorem ints_at {b : Array UInt8} {vs : List Value} (hlen : vs.length = b.size) (hP : ∀ (j : Nat) (v : Value), vs[j]? = some v → ∃ (c : UInt8) (u : Tok), b[j]? = some c ∧ v = Value.int (c.toNat : Int) u) : IntsAre vs (KBw.bInts b) := by
  have key : ∀ (l : List UInt8) (vs : List Value), vs.length = l.length → (∀ (j : Nat) (v : Value), vs[j]? = some v → ∃ (c : UInt8) (u : Tok), l[j]? = some c ∧ v = Value.int (c.toNat : Int) u) → IntsAre vs (l.map fun c => (c.toNat : Int)) := by
    intro l
    induction l with
    | nil => intro vs h _; cases vs with
      | nil => exact .nil
      | cons _ _ => cases h
    | cons c r ih =>
      intro vs h hP
      cases vs with
      | nil => cases h
      | cons v vs =>
        obtain ⟨c', u, e1, rfl⟩ := hP 0 v rfl
        have e2 : c = c' := Option.some.inj e1
        subst e2
        exact .cons _ u (ih vs (by simpa using h) fun j v hv => hP (j + 1) v hv)
  refine key b.toList vs (by rw [hlen, Array.length_toList]) fun j v hv => ?_
  obtain ⟨c, u, h1, h2⟩ := hP j v hv
  exact ⟨c, u, by rw [Array.getElem?_toList]; exact h1, h2⟩
theorem u_compB {env : Env} {x z : Str} {scope : Scope} {Qf : Flow → Shared → Prop} {b : Array UInt8} {t : Tok} {ks : List Int} {p1 p2 p3 : Pos} {kk : Nat} (hh : A.handled = none) (hL : env.locals = L) (F : Fr h₀ L s.heap m) (N : News h₀ L s.heap news) (hk : KBw.bInts b = ks) (hsz : ks.length ≤ 64)
    (hsk : scope.kind = .function) (hl : ∀ C, (compEnv scope C env).kindOf x = some .local) (hd : (x == ("__debug__" : Str)) = false)
    (g3 : ∀ D (ys : List Value) n h' tk, Fr h₀ L h' (fun q => if q = z then some (.ref D) else m q) → News h₀ L h' ((D, listOf ys.toArray n) :: news) → (∀ p ∈ news, p.1 ≠ D) → IntsAre ys (ks.map (· - 65)) → Qf .next { s with heap := h', toks := tk }) :
    wpAny (model prg w) A (pyIter (.bytes b t)) (CompPostA prg w A env scope x z [] (.BinOp (.Name x p1) .Sub (.Constant (.int 65) kk p2) p3) Qf) E s := by
  subst hL hk
  unfold CompPostA
  refine KBw.pyIter_bytes ?_
  refine ⟨fun _ => true, fun v r => ∃ k u, v = Value.int k u ∧ ∃ t', r = Value.int (k - 65) t', s.heap.objs.size, [s.heap.objs.size], [s.heap.objs.size], b.size, _, _, m, rfl, KBw.walks hh s.heap.objs.size b t, ?_, ⟨_, Heap.get?_push_size _ rfl, rfl, rfl⟩, ?_, ?_, (F.push _).ns, ⟨?_, ?_⟩, ?_⟩
  · rw [KBw.ints_length] at hsz; rw [sizeLine_eq]; omega
  · intro b' hb
    show b' < (s.heap.push _).objs.size
    rw [Heap.size_push, List.mem_singleton.mp hb]
    exact Nat.lt_succ_self _
  · intro hm
    exact absurd F.ns.lt ((List.mem_singleton.mp hm) ▸ Nat.lt_irrefl _)
  · intro C i v s₃ m₃ E' hP hn hm _ _
    exact wpAny_pure ⟨rfl, keeps_toks (n := s₃.toks)⟩
  · intro C i v s₃ m₃ E' hP _ hn hm _ _
    obtain ⟨c, u, _, rfl⟩ := hP
    exact wpAny_mono (elt_sub hsk (hl C) hd hn hm) (fun r s₄ h₄ => ⟨⟨_, _, rfl, h₄.1⟩, h₄.2⟩) fun _ _ e => e
  · intro D h' tk ys vs hnew _ hplD hlen hP hF hn' hk'
    have hF' : Paired (fun v r => ∃ k u, v = Value.int k u ∧ ∃ t', r = Value.int (k - 65) t') vs ys.toList := by
      rw [List.filter_eq_self.mpr fun _ _ => rfl] at hF
      exact hF
    obtain ⟨n, hD⟩ := hplD
    have hDL : D ≠ env.locals := by
      rintro rfl
      obtain ⟨oL, a1, a2, hL, a3⟩ := (F.push { cls := .type "bytes_iterator", data := .fields #[.bytes b t, .int 0 0] }).ns
      rw [hL] at hnew
      cases hnew
    refine g3 D ys.toList n h' tk ⟨hn', fun b' o' e => hk' b' o' (Nat.ne_of_lt (Nat.lt_of_lt_of_le (Heap.lt_size e) F.above)) (old_not_new (F.keep b' o' e)) (Heap.get?_push_of_some _ (F.keep b' o' e)), F.above⟩ ?_ (fun p hp e => by rw [← e, Heap.get?_push_of_some _ (N p hp).1] at hnew; cases hnew) (ints_paired (ints_at hlen hP) hF')
    intro p hp
    rcases List.mem_cons.mp hp with rfl | hp
    · refine ⟨by rw [Array.toArray_toList]; exact hD, hDL, ?_⟩
      cases e : h₀.get? D with
      | none => rfl
      | some o' => rw [Heap.get?_push_of_some _ (F.keep _ _ e)] at hnew; cases hnew
    · exact ⟨hk' _ _ (N p hp).2.1 (old_not_new (N p hp).1) (Heap.get?_push_of_some _ (N p hp).1), (N p hp).2⟩
end
end

-- part L2
section
theorem sc_in (x : Int) : 2 ≤ 2 + x.fmod 4 ∧ 2 + x.fmod 4 ≤ 5 := by
  have := fdm x 4 (by decide)
  omega
theorem all_nonneg {a b c d e0 e1 e2 e3 : Int} {n : Nat} (h1 : 0 ≤ a ∧ 0 ≤ b ∧ 0 ≤ c ∧ 0 ≤ d) :
    ∀ x ∈ [a, b, c, d] ++ List.map (fun k' => if 0 ≤ [e0, e1, e2, e3].getD k'.toNat 0 ∧ [e0, e1, e2, e3].getD k'.toNat 0 < 64 then [e0, e1, e2, e3].getD k'.toNat 0 else k') (rangeKs 0 n), 0 ≤ x := by
  intro x hx
  rcases List.mem_append.mp hx with h | h
  · simp only [List.mem_cons, List.not_mem_nil, or_false] at h
    omega
  · obtain ⟨k, hk, rfl⟩ := List.mem_map.mp h
    have := mem_rangeKs hk
    split
    · rename_i hc
      exact hc.1
    · exact this.1
theorem ints4 {ys : List Value} {a0 a1 a2 a3 : Int} (h : IntsAre ys (List.map (fun k' => if 0 ≤ [a0, a1, a2, a3].getD k'.toNat 0 ∧ [a0, a1, a2, a3].getD k'.toNat 0 < 64 then [a0, a1, a2, a3].getD k'.toNat 0 else k') (rangeKs 0 (4 - 0 : Int).toNat)))
    (g0 : 0 ≤ a0 ∧ a0 < 64) (g1 : 0 ≤ a1 ∧ a1 < 64) (g2 : 0 ≤ a2 ∧ a2 < 64) (g3 : 0 ≤ a3 ∧ a3 < 64) : IntsAre ys [a0, a1, a2, a3] := by
  have e : List.map (fun k' => if 0 ≤ [a0, a1, a2, a3].getD k'.toNat 0 ∧ [a0, a1, a2, a3].getD k'.toNat 0 < 64 then [a0, a1, a2, a3].getD k'.toNat 0 else k') (rangeKs 0 (4 - 0 : Int).toNat) = List.map (fun k' => [a0, a1, a2, a3].getD k'.toNat 0) (rangeKs 0 (4 - 0 : Int).toNat) := by
    refine List.map_congr_left fun k hk => ?_
    have hk' := mem_rangeKs hk
    have h4 : ((4 - 0 : Int).toNat : Int) = 4 := rfl
    exact if_pos (getD_in4 (by omega) (by omega) g0 g1 g2 g3)
  rw [e] at h
  exact h
section
variable {w : World} {mean : ExcName → Option Value} {mg mb : Str → Option Value} {dp un : Nat} {gd : Option (List Code)} {cn : Str} {cs : Scope} {a : Addr} {ccd : Value} {cl : List (Str × Addr)} {outer : List Env} {A₀ A : Around} {base h₀ : Heap} {L : Addr} {m : Str → Option Value} {s : Shared} {Q E : Value → Shared → Prop} {news : List (Addr × Obj)}
theorem u_min {l : Addr} {vs : List Value} {ns : List Int} (F : Fr h₀ L s.heap m) (N : News h₀ L s.heap news) (hl : s.heap.IsList l vs.toArray) (hi : IntsAre vs ns) (hne : 0 < ns.length) (hh : A.handled = none) (hall : ∀ x ∈ ns, 0 ≤ x)
    (h : ∀ h' M (t : Tok) tk, Fr h₀ L h' m → News h₀ L h' news → 0 ≤ M → Q (.int M t) { s with heap := h', toks := tk }) : wpAny (model prg w) A (call (.builtin "min") [.ref l]) Q E s :=
  kso_min F N hl hi hne hh fun h' M t tk F' N' a1 _ => h h' M t tk F' N' (hall M a1)
theorem u_dealt {b P4 p0 p1 p2 p3 : Int} {l d0 : Addr} {o0 : Obj} {n : Nat} {ys : List Value} {num sc f0 f1 f2 f3 : Int} {t4 t5 t6 : Tok} (B : Below A₀ base outer h₀) (F : Fr h₀ L s.heap m) (X : (hd.heap_39 w.params).In h₀) (N : News h₀ L s.heap news) (T : Top hd.view_39 lse mean mg mb h₀) (hk : cs.kind = .function)
    (hdp : dp + 16 < recursionLimit) (hun : un + 128 < cLine) (m1 : (l, listOf ys.toArray n) ∈ news) (m2 : (d0, o0) ∈ news) (hi : IntsAre ys [f0, f1, f2, f3]) (hsc : 2 ≤ sc ∧ sc ≤ 5)
    (g : (0 ≤ f0 ∧ f0 < 64) ∧ (0 ≤ f1 ∧ f1 < 64) ∧ (0 ≤ f2 ∧ f2 < 64) ∧ (0 ≤ f3 ∧ f3 < 64))
    (hb : 0 < b ∧ b ≤ 64 ∧ b ^ 4 = P4) (hp0 : 0 < p0 ∧ p0 ≤ 16777216 ∧ P4 = b * p0) (hp1 : 0 < p1 ∧ p1 ≤ 16777216 ∧ p0 = b * p1) (hp2 : 0 < p2 ∧ p2 ≤ 16777216 ∧ p1 = b * p2) (hp3 : 0 < p3 ∧ p3 ≤ 16777216 ∧ p2 = b * p3)
    (q0 : num / p0 = b * 0 + f0) (q1 : num / p1 = b * (num / p0) + f1) (q2 : num / p2 = b * (num / p1) + f2) (q3 : num / p3 = b * (num / p2) + f3)
    (ret : ∀ (h' : Heap) (tk' : Nat), Fr h₀ L h' m → News h₀ L h' [(l, listOf ys.toArray n), (d0, o0)] → Q (.bool true) { s with heap := h', toks := tk' }) :
    wpAny (model prg w) (ktrTop dp un gd cn cs L a ccd cl outer) (call (.ref 105) [.int b t4, .ref l, .int num t5, .int sc t6]) Q E s := by
  obtain ⟨u0, ys0, rfl, hi0⟩ := ints_cons hi
  obtain ⟨u1, ys1, rfl, hi1⟩ := ints_cons hi0
  obtain ⟨u2, ys2, rfl, hi2⟩ := ints_cons hi1
  obtain ⟨u3, ys3, rfl, hi3⟩ := ints_cons hi2
  obtain rfl := ints_nil hi3
  obtain ⟨g0, g1, g2, g3⟩ := g
  have e0 : ∀ c : Int, 0 < c → num.fdiv c = num / c := fun c hc => Int.fdiv_eq_ediv_of_nonneg _ (Int.le_of_lt hc)
  have r0 := e0 _ hp0.1
  have r1 := e0 _ hp1.1
  have r2 := e0 _ hp2.1
  have r3 := e0 _ hp3.1
  refine c_dealt (d0 := d0) (o0 := o0) (num := num) (n := n) (t0 := u0) (t1 := u1) (t2 := u2) (t3 := u3) hsc.1 hsc.2 g0.1 g0.2 g1.1 g1.2 g2.1 g2.2 g3.1 g3.2 hb.1 hb.2.1 hb.2.2 hp0 hp1 hp2 hp3 (r0 ▸ q0) (by rw [r0, r1]; exact q1) (by rw [r1, r2]; exact q2) (by rw [r2, r3]; exact q3) dp un gd cn cs a ccd cl outer A₀ base h₀ L m s Q E B F X ?_ T hk hdp hun ?_
  · intro p hp
    simp only [List.mem_cons, List.not_mem_nil, or_false] at hp
    rcases hp with rfl | rfl
    · exact N _ m1
    · exact N _ m2
  · rintro v news' h' tk' ⟨rfl, rfl⟩ F' N'
    exact ret h' tk' F' N'
theorem u_dealt16 {l d0 : Addr} {o0 : Obj} {n : Nat} {ys : List Value} {num sc f0 f1 f2 f3 : Int} {t4 t5 t6 : Tok} (B : Below A₀ base outer h₀) (F : Fr h₀ L s.heap m) (X : (hd.heap_39 w.params).In h₀) (N : News h₀ L s.heap news) (T : Top hd.view_39 lse mean mg mb h₀) (hk : cs.kind = .function)
    (hdp : dp + 16 < recursionLimit) (hun : un + 128 < cLine) (m1 : (l, listOf ys.toArray n) ∈ news) (m2 : (d0, o0) ∈ news) (hi : IntsAre ys [f0, f1, f2, f3]) (hsc : 2 ≤ sc ∧ sc ≤ 5)
    (g : (0 ≤ f0 ∧ f0 < 64) ∧ (0 ≤ f1 ∧ f1 < 64) ∧ (0 ≤ f2 ∧ f2 < 64) ∧ (0 ≤ f3 ∧ f3 < 64))
    (q : num / 4096 = f0 ∧ num / 256 = 16 * (num / 4096) + f1 ∧ num / 16 = 16 * (num / 256) + f2 ∧ num / 1 = 16 * (num / 16) + f3)
    (ret : ∀ (h' : Heap) (tk' : Nat), Fr h₀ L h' m → News h₀ L h' [(l, listOf ys.toArray n), (d0, o0)] → Q (.bool true) { s with heap := h', toks := tk' }) :
    wpAny (model prg w) (ktrTop dp un gd cn cs L a ccd cl outer) (call (.ref 105) [.int 16 t4, .ref l, .int num t5, .int sc t6]) Q E s :=
  u_dealt (P4 := 65536) (p0 := 4096) (p1 := 256) (p2 := 16) (p3 := 1) B F X N T hk hdp hun m1 m2 hi hsc g (by decide) (by decide) (by decide) (by decide) (by decide) (by omega) q.2.1 q.2.2.1 q.2.2.2 ret
theorem u_dealt64 {l d0 : Addr} {o0 : Obj} {n : Nat} {ys : List Value} {num sc f0 f1 f2 f3 : Int} {t4 t5 t6 : Tok} (B : Below A₀ base outer h₀) (F : Fr h₀ L s.heap m) (X : (hd.heap_39 w.params).In h₀) (N : News h₀ L s.heap news) (T : Top hd.view_39 lse mean mg mb h₀) (hk : cs.kind = .function)
    (hdp : dp + 16 < recursionLimit) (hun : un + 128 < cLine) (m1 : (l, listOf ys.toArray n) ∈ news) (m2 : (d0, o0) ∈ news) (hi : IntsAre ys [f0, f1, f2, f3]) (hsc : 2 ≤ sc ∧ sc ≤ 5)
    (g : (0 ≤ f0 ∧ f0 < 64) ∧ (0 ≤ f1 ∧ f1 < 64) ∧ (0 ≤ f2 ∧ f2 < 64) ∧ (0 ≤ f3 ∧ f3 < 64))
    (q : num / 262144 = f0 ∧ num / 4096 = 64 * (num / 262144) + f1 ∧ num / 64 = 64 * (num / 4096) + f2 ∧ num / 1 = 64 * (num / 64) + f3)
    (ret : ∀ (h' : Heap) (tk' : Nat), Fr h₀ L h' m → News h₀ L h' [(l, listOf ys.toArray n), (d0, o0)] → Q (.bool true) { s with heap := h', toks := tk' }) :
    wpAny (model prg w) (ktrTop dp un gd cn cs L a ccd cl outer) (call (.ref 105) [.int 64 t4, .ref l, .int num t5, .int sc t6]) Q E s :=
  u_dealt (P4 := 16777216) (p0 := 262144) (p1 := 4096) (p2 := 64) (p3 := 1) B F X N T hk hdp hun m1 m2 hi hsc g (by decide) (by decide) (by decide) (by decide) (by decide) (by omega) q.2.1 q.2.2.1 q.2.2.2 ret
end
end

-- part L1
section
theorem law_holds : PySem.Challenge.rw_oy0024_01.Holds := Mine.hd (by
  k_with_none
  (k_with "call ref" => (k_here; refine wpAny_call ?_; k_dflt k_enter))
  (k_with "call type:range" => ((rename Fr _ _ _ _ => F'); (rename News _ _ _ _ => N'); with_unfolding_all refine range1_rows F' N' ?_; intro _ _ _ _ _ _ _ _ _))
  (k_with "call builtin:list.append" => (k_here; k_dflt (refine' append_K ?zq2k1 ?zq2k2 ?zq2k3 ?_ ?zq2z; (case zq2k1 => k_asm); (case zq2k2 => k_asm); (case zq2k3 => k_upd); (case zq2z => size_fits); k_whole); intro h' F' N'; (try k_sweep)))
  (k_with "subscriptTail BinOp" => (k_here; k_dflt (refine kba_turn (value' := PySem.Expr.Name (PySem.Str.ofString "_") ⟨0, 0, 0, 0⟩) (fun _ => rfl) ?_)))
  (k_with "call ref" => (k_here; (with_reducible show wpAny _ _ (call (Value.ref 79) [Value.int _ _]) _ _ _); k_dflt ((refine' u_int2ap ?zq4k1 ?zq4k2 ?zq4k3 ?zq4k4 ?zq4k5 ?zq4k6 ?zq4k7 ?zq4k8 ?zq4k9 ?zq4k10 ?_); (case zq4k1 => k_asm); (case zq4k2 => k_asm); (case zq4k3 => k_asm); (case zq4k4 => k_asm); (case zq4k5 => k_asm); (case zq4k6 => first | exact rfl | assumption); (case zq4k7 => ktr_room); (case zq4k8 => ktr_units); (case zq4k9 => exact (num_in _).1); (case zq4k10 => exact (num_in _).2); k_whole); intro arr' t' ks' h' tk' F' N' kbcK hW' hWl' hN0 hN1; (try dsimp only); ((generalize hG9 : List.foldl _ _ _ = num9 at *)); (try clear hG9); (try k_fold)))
  (k_with "call ref" => (k_here; (with_reducible show wpAny _ _ (call (Value.ref 72) [Value.bytes _ _]) _ _ _); k_dflt ((refine' u_b64enc ?zq5k1 ?zq5k2 ?zq5k3 ?zq5k4 ?zq5k5 ?zq5k6 ?zq5k7 ?zq5k8 ?zq5m1 ?zq5m2 ?zq5k9 ?zq5k10 ?zq5k11 ?zq5k12 ?zq5k13 ?zq5k14 ?_); (case zq5k1 => k_asm); (case zq5k2 => k_asm); (case zq5k3 => k_asm); (case zq5k4 => k_asm); (case zq5k5 => k_asm); (case zq5k6 => first | exact rfl | assumption); (case zq5k7 => ktr_room); (case zq5k8 => ktr_units); (case zq5m1 => k_mem); (case zq5m2 => k_mem); (case zq5k9 => assumption); (case zq5k10 => assumption); (case zq5k11 => assumption); (case zq5k12 => assumption); (case zq5k13 => assumption); (case zq5k14 => exact Int.ediv_mul_add_emod _ _); k_whole); intro arr' t' h' tk' F' N' kbcK; (try dsimp only); (try k_fold); (repeat ((with_reducible rename ((_ : Addr) ≠ _ ∧ _) => o9); clear o9)); (repeat ((with_reducible rename ((_ : Nat) < _ ∧ _) => o9); clear o9))))
  (k_with "binaryOp FloorDiv int int" => (k_here; (with_reducible show wpAny _ _ (binaryOp Operator.FloorDiv (Value.int _ _) (Value.int 256 _)) _ _ _); (refine u_fd256 (by assumption) (by assumption) ?_); intro hA9 hB9))
  (k_with "binaryOp Mod int int" => (k_here; (with_reducible show wpAny _ _ (binaryOp Operator.Mod (Value.int _ _) (Value.int 256 _)) _ _ _); (refine u_fm256 ?_); intro hA9 hB9))
  (k_with "call type:bytes" => (k_here; (with_reducible show wpAny _ _ (call (Value.type "bytes") [Value.ref _]) _ _ _); k_dflt (refine' u_mk3 ?zq8F ?zq8N ?zq8m ?zq8e ?zq8hh ?zq8ra ?zq8rb ?zq8rc ?_; (case zq8F => k_asm); (case zq8N => k_asm); (case zq8m => k_mem); (case zq8e => with_unfolding_all rfl); (case zq8hh => rfl); (case zq8ra => decide); (case zq8rb => exact ⟨by assumption, by assumption⟩); (case zq8rc => exact ⟨by assumption, by assumption⟩); k_whole); intro h' t' k' arr' F' N' kbcK))
  (k_with "compareOp Eq bytes bytes" => (k_here; refine u_eqA (by assumption) (by decide) (by exact word_ne (by assumption)) ?_))
  (k_with "subscriptTail Constant" => (k_here; (with_reducible rename Fr _ _ _ _ => F'); (with_reducible rename News _ _ _ _ => N'); ((refine u_aaaa (s := ⟨_, _, _, _, _⟩) F' N' (by decide) (by assumption) ?_)); intro h' t' k' c' F' N' kbcK))
  (k_with "binaryOp Add bytes bytes" => (k_here; ((refine u_addW (by assumption) (by assumption) (by assumption) ?_)); intro t' k' e' kbcK))
  (k_with "pyIter bytes" => (k_here; (with_reducible show wpAny _ _ (pyIter (Value.bytes _ _)) (CompPostA _ _ _ _ _ _ _ _ _ _) _ _); k_dflt ((refine' u_compB ?zq12hh ?zq12hL ?zq12F ?zq12N ?zq12hk ?zq12hsz ?zq12sk ?zq12hl ?zq12hd ?_); (case zq12hh => rfl); (case zq12hL => rfl); (case zq12F => k_asm); (case zq12N => k_asm); (case zq12hk => assumption); (case zq12hsz => (simp)); (case zq12sk => rfl); (case zq12hl => (intro _; rfl)); (case zq12hd => decide); k_whole); intro D' ys' n' h' tk' F' N' o1' i'; (simp only [List.map_cons, List.map_nil] at i'); (simp only [List.forall_mem_cons, List.forall_mem_nil, and_true] at o1'); (try dsimp only); (try k_fold)))
  (k_with "getMethod bytes" => (k_here; refine u_method ?_))
  (k_with "call builtin:bytes.find" => (k_here; k_dflt ((refine u_find (by first | rfl | decide +kernel) (by assumption) (by assumption) (by assumption) ?_)); intro t' k'))
  (k_with "subscriptTail Name Slice bytes ref" => (k_here; (with_reducible rename Fr _ _ _ _ => F'); (with_reducible rename News _ _ _ _ => N'); ((refine u_txt (s := ⟨_, _, _, _, _⟩) F' N' (by assumption) (by omega) (by omega) ⟨by omega, by omega⟩ ⟨by omega, by omega⟩ ⟨by omega, by omega⟩ ⟨by omega, by omega⟩ ?_)); intro h' t' k' c' F' N' kbcK hA9 hB9))
  (k_with "call builtin:min" => (k_here; (with_reducible show wpAny _ _ (call (Value.builtin "min") [Value.ref _]) _ _ _); k_dflt ((refine' u_min ?zq16k1 ?zq16k2 ?zq16k3 ?zq16k4 ?zq16k5 ?zq16k6 ?zq16k7 ?_); (case zq16k1 => k_asm); (case zq16k2 => k_asm); (case zq16k3 => kso_list); (case zq16k4 => l_ints); (case zq16k5 => (simp)); (case zq16k6 => rfl); (case zq16k7 => exact all_nonneg ⟨by omega, by omega, by omega, by omega⟩); k_whole); intro h' M' t' k' F' N' hM'))
  (k_with "call ref" => (k_here; (with_reducible show wpAny _ _ (call (Value.ref 105) [Value.int 16 _, Value.ref _, Value.int _ _, Value.int _ _]) _ _ _); k_dflt ((refine' u_dealt16 (o0 := LCg.lst _) ?zq17k1 ?zq17k2 ?zq17k3 ?zq17k4 ?zq17k5 ?zq17k6 ?zq17k7 ?zq17k8 ?zq17m1 ?zq17m2 ?zq17k9 ?zq17k10 ?zq17k11 ?zq17k12 ?_); (case zq17k1 => k_asm); (case zq17k2 => k_asm); (case zq17k3 => k_asm); (case zq17k4 => k_asm); (case zq17k5 => k_asm); (case zq17k6 => first | exact rfl | assumption); (case zq17k7 => ktr_room); (case zq17k8 => ktr_units); (case zq17m1 => k_mem); (case zq17m2 => k_mem); (case zq17k9 => assumption); (case zq17k10 => exact sc_in _); (case zq17k11 => omega); (case zq17k12 => omega); k_whole); intro h' tk' F' N'; (try dsimp only); (try k_fold)))
  (k_with "call ref" => (k_here; (with_reducible show wpAny _ _ (call (Value.ref 105) [Value.int 64 _, Value.ref _, Value.int _ _, Value.int _ _]) _ _ _); k_dflt ((refine' u_dealt64 (d0 := _) ?zq18k1 ?zq18k2 ?zq18k3 ?zq18k4 ?zq18k5 ?zq18k6 ?zq18k7 ?zq18k8 ?zq18m1 ?zq18m2 ?zq18k9 ?zq18k10 ?zq18k11 ?zq18k12 ?_); (case zq18k1 => k_asm); (case zq18k2 => k_asm); (case zq18k3 => k_asm); (case zq18k4 => k_asm); (case zq18k5 => k_asm); (case zq18k6 => first | exact rfl | assumption); (case zq18k7 => ktr_room); (case zq18k8 => ktr_units); (case zq18m1 => k_mem); (case zq18m2 => k_mem); (case zq18k9 => exact ints4 (by assumption) ⟨by omega, by omega⟩ ⟨by omega, by omega⟩ ⟨by omega, by omega⟩ ⟨by omega, by omega⟩); (case zq18k10 => exact sc_in _); (case zq18k11 => omega); (case zq18k12 => omega); k_whole); intro h' tk' F' N'; (try dsimp only); (try k_fold)))
  k_go0
  (all_goals try k_fold)
  k_steps)
end

end Mine
theorem PySem.Challenge.cw_oy0024_01_holds : PySem.Challenge.rw_oy0024_01.Holds := by
  exact Mine.law_holds
