import PyProof.Rows.All
import Wide.All
import OpenK.AllK
import Wide.FinOn
import PySem.Challenge.RW_nb0063_01
set_option Elab.async false
section
open PySem PySem.W PyProof.Rows
namespace Mine
set_option maxRecDepth 100000 in
set_option maxHeartbeats 8000000 in
open_top hd for PySem.Challenge.rw_nb0063_01
end Mine
end
section
open PySem PySem.W PyProof.Rows PySem.Calls
open PySem.Builtin PySem.Builtin.Str
namespace Mine
abbrev PG : Program := PySem.Challenge.rw_nb0063_01.row.prog
abbrev Led := List (Addr × Obj)
/-- what a call of one of the text's defs does: every end is told by Post -/
abbrev Does (k : Nat) (w : World) (f : Addr) (vs : List Value) (kw : List (Str × Value)) (news : Led) (Post : Value → Led → Prop) : Prop :=
  ∀ (p : Program) (loose : List Str) (mean : ExcName → Option Value) (mg mb : Str → Option Value) (dp un : Nat) (gd : Option (List Code)) (cn : Str) (cs : Scope) (a : Addr) (ccd : Value) (cl : List (Str × Addr)) (outer : List Env) (A₀ : Around) (base h₀ : Heap) (L : Addr) (m : Str → Option Value) (s : Shared) (Q E : Value → Shared → Prop),
    Below A₀ base outer h₀ → Fr h₀ L s.heap m → (Mine.hd.heap_39 w.params).In h₀ → News h₀ L s.heap news → Top p loose mean mg mb h₀ → cs.kind = .function →
    dp + k < recursionLimit → un + 8 * k < cLine →
    (∀ v news' h' tk', Post v news' → Fr h₀ L h' m → News h₀ L h' news' → Q v { s with heap := h', toks := tk' }) →
    wpAny (model PG w) (ktrTop dp un gd cn cs L a ccd cl outer) (call (.ref f) vs kw) Q E s
section
variable {prog : Program} {w : World} {A : Around} {E : Value → Shared → Prop} {s : Shared} {x y z : Str} {t u v : Nat} {Q : Value → Shared → Prop}
theorem replaceT (hu : u ≠ 0) (hv : v ≠ 0) (huv : u ≠ v) (hyz : (y == z) = false) (hb : x.length + (x.length + 1) * z.length ≤ 16777216)
    (hq : ∀ t' k, s.toks ≤ k → Q (.str (Txt.replace x y z) t') { s with toks := k }) : wpAny (model prog w) A (call (.builtin "str.replace") [.str x t, .str y u, .str z v]) Q E s := by
  have e : (2 : Nat) ^ 24 = 16777216 := by decide
  have hl : tooLong (x.length + (occurrences x y 0 x.length (x.length + 1)).length * z.length) = false := by
    have h1 := StrLaws.occ_length_le x y 0 x.length (x.length + 1)
    have h2 : (occurrences x y 0 x.length (x.length + 1)).length * z.length ≤ (x.length + 1) * z.length := Nat.mul_le_mul_right _ h1
    unfold tooLong sizeLine
    exact decide_eq_false (by omega)
  refine call_gives F.slot_str_replace (typeIs_str _ _ _) F.entry_str_replace (F.args_str_replace_3 _ _ _)
    (gives_str_replace x y z t u v fun _ => ⟨by simp [hu, hv], by simp [huv], hyz, hl⟩) ?_
  have hq' := hq
  unfold Txt.replace at hq'
  cases hc : ((occurrences x y 0 x.length (x.length + 1)).isEmpty || (y.length == 0 && z.length == 0))
  · rw [hc] at hq'
    simp only [Bool.false_eq_true, if_false] at hq' ⊢
    exact ⟨fits_replaced y hb, hq' _ _ (Nat.le_succ _)⟩
  · rw [hc] at hq'
    simp only [if_true] at hq' ⊢
    exact hq' t s.toks (Nat.le_refl _)
theorem gen_toks {α : Type} {M : Model} {t : Sem α} {Q : α → Shared → Prop} {h : Heap} {g : Array GenState} {d : Drawn} {n : Nat} {o : OsState} (hn : 1 ≤ n) (hq : ∀ tk, 1 ≤ tk → wpAny M A t Q E ⟨h, g, d, tk, o⟩) : wpAny M A t Q E ⟨h, g, d, n, o⟩ := hq n hn
end
theorem strsAre_len {vs : List Value} {xs : List Str} (h : StrsAre vs xs) : vs.length = xs.length := by
  induction h with
  | nil => rfl
  | cons y t _ ih => simp [ih]
theorem strsAre_get {vs : List Value} {xs : List Str} (h : StrsAre vs xs) : ∀ (i : Nat) (hi : i < xs.length), ∃ t, vs[i]? = some (.str xs[i] t) := by
  induction h with
  | nil => intro i hi; exact absurd hi (Nat.not_lt_zero _)
  | cons y t _ ih =>
    intro i hi
    cases i with
    | zero => exact ⟨t, rfl⟩
    | succ i => exact ih i (by simpa using hi)
theorem strsAre_take {vs : List Value} {xs : List Str} (h : StrsAre vs xs) : ∀ n, StrsAre (vs.take n) (xs.take n) := by
  induction h with
  | nil => intro n; cases n <;> exact .nil
  | cons y t _ ih =>
    intro n
    cases n with
    | zero => exact .nil
    | succ n => exact .cons y t (ih n)
section
variable {prog : Program} {w : World} {A : Around} {h₀ : Heap} {L : Addr} {m : Str → Option Value} {env : Env} {elt : PySem.Expr} {x : Str} {scope : Scope} {cl : List (Str × Addr)} {s : Shared} {S : Led → Prop} {P : Nat → Value → Prop} {Fin : List Value → Led → Prop} {news : Led}
/-- a comprehension whose elements leave the ledger as it was: what holds of each element -/
theorem comp_rest {n : Nat} (R : Nat → Value → Prop)
    (turn : ∀ i v I oI C oC D m₂ ys h tk (E' : Value → Shared → Prop), i < n → P i v → LCg.NsObj oC m₂ → m₂ x = some v → Fr h₀ L h m → News h₀ L h ((I, oI) :: (C, oC) :: (D, LCg.lst ys) :: news) → LCg.Off3 I C D news → ((@Ne Nat I C) ∧ (@Ne Nat I D) ∧ (@Ne Nat C D)) →
      wpAny (model prog w) A (eval elt (compEnvC scope cl C env)) (LCg.CompEnd h₀ L m { s with heap := h, toks := tk } I oI C oC D (LCg.lst ys) S (fun y news' => news' = news ∧ R i y)) E' { s with heap := h, toks := tk })
    (fin : ∀ ys, ys.length = n → (∀ i y, ys[i]? = some y → R i y) → Fin ys news) : LCg.CompRest prog w A h₀ L m env elt x scope cl s S P Fin n 0 [] news := by
  have key : ∀ (j i : Nat) (ys : List Value), i + j = n → ys.length = i → (∀ i y, ys[i]? = some y → R i y) → LCg.CompRest prog w A h₀ L m env elt x scope cl s S P Fin j i ys news := by
    intro j
    induction j with
    | zero =>
      intro i ys hi hl hy
      exact LCg.CompRest.zero (fin ys (by omega) hy)
    | succ j ih =>
      intro i ys hi hl hy
      refine LCg.CompRest.succ ?_
      intro v I oI C oC D m₂ h tk E' hv hC hx F N off ne
      refine wpAny_mono (turn i v I oI C oC D m₂ ys h tk E' (by omega) hv hC hx F N off ne) (fun y s₂ hq => ?_) fun _ _ e => e
      obtain ⟨h', tk', nw, e, F', N', off', hS, hn, hy'⟩ := hq
      rw [hn] at N' off' hS
      refine ⟨h', tk', news, e, F', N', off', hS, ih (i + 1) _ (by omega) (by simp [hl]) ?_⟩
      intro k z hk
      rcases Nat.lt_or_ge k ys.length with hlt | hge
      · rw [List.getElem?_append_left hlt] at hk
        exact hy k z hk
      · rw [List.getElem?_append_right hge] at hk
        have e0 : k - ys.length = 0 := by
          rcases Nat.eq_zero_or_pos (k - ys.length) with h0 | h0
          · exact h0
          · rw [List.getElem?_eq_none (by rw [List.length_singleton]; exact h0)] at hk
            cases hk
        rw [e0] at hk
        have : z = y := by simpa using hk.symm
        have e1 : k = i := by omega
        rw [this, e1]
        exact hy'
  exact key n 0 [] (by omega) rfl (by intro i y h; simp at h)
theorem comp_one {h : Heap} {tk tk' : Nat} {I C D : Addr} {oI oC oD : Obj} {y : Value} {T : Value → Prop} {h' : Heap} (F : Fr h₀ L h' m) (N : News h₀ L h' ((I, oI) :: (C, oC) :: (D, oD) :: news)) (off : LCg.Off3 I C D news) (hS : S news) (ht : T y) :
    LCg.CompEnd h₀ L m { s with heap := h, toks := tk } I oI C oC D oD S (fun y news' => news' = news ∧ T y) y { s with heap := h', toks := tk' } :=
  ⟨h', tk', news, rfl, F, N, off, hS, rfl, ht⟩
end
theorem strsAre_of {n : Nat} {g : Nat → Str} : ∀ {ys : List Value}, ys.length = n → (∀ (i : Nat) (y : Value), ys[i]? = some y → ∃ t, y = .str (g i) t) → StrsAre ys ((List.range n).map g) := by
  intro ys
  induction ys generalizing n g with
  | nil => intro h _; simp at h; subst h; exact .nil
  | cons y ys ih =>
    intro h hy
    cases n with
    | zero => simp at h
    | succ n =>
      obtain ⟨t, e⟩ := hy 0 y (by simp)
      rw [List.range_succ_eq_map, List.map_cons, List.map_map, e]
      exact .cons _ t (ih (by simpa using h) fun i z hz => hy (i + 1) z (by simpa using hz))
end Mine
end
section
open PySem PySem.W PyProof.Rows PySem.Calls
open PySem.Builtin PySem.Builtin.Str
namespace Mine
def rowsRaw (x : Str) : List Str := Txt.split (Txt.replace (Txt.replace x (Str.ofString "\r\n") (Str.ofString "\n")) (Str.ofString "\r") (Str.ofString "\n")) (Str.ofString "\n")
/-- what _law_rows gives -/
def rowsS (x : Str) : List Str := if 1 < (rowsRaw x).length ∧ (rowsRaw x).getLast? = some Str.empty then (rowsRaw x).dropLast else rowsRaw x
end Mine
end
section
open PySem PySem.W PyProof.Rows PySem.Calls
namespace Mine
set_option maxRecDepth 100000
local macro_rules | `(tactic| walk_at "to iter") => `(tactic| repeat' (first | (k_unfold; (try dsimp only)) | ((fail_if_success (with_reducible show wpAny _ _ (pyIter _) _ _ _)); first | walk1 | (dsimp only; walk1))))
/-- the place of the first sign of x that stands in y, or -1 -/
def firstI (x y : List Nat) : Int := match x.findIdx? (fun c => y.contains c) with | some i => (i : Int) | none => -1
theorem firstI_found {l y : List Nat} {n c : Nat} (h : ∀ i, i < n → ∀ c, l[i]? = some c → ¬ c ∈ y) (hc : l[n]? = some c) (hy : c ∈ y) : firstI l y = (n : Int) := by
  have e : l.findIdx? (fun c => y.contains c) = some n := by
    rw [List.findIdx?_eq_some_iff_getElem]
    obtain ⟨hn, e⟩ := List.getElem?_eq_some_iff.mp hc
    refine ⟨hn, by rw [e]; simpa using hy, fun j hj => ?_⟩
    have := h j hj l[j] (by simp)
    simpa using this
  unfold firstI
  rw [e]
theorem firstI_none {l y : List Nat} (h : ∀ i, i < l.length → ∀ c, l[i]? = some c → ¬ c ∈ y) : firstI l y = -1 := by
  have e : l.findIdx? (fun c => y.contains c) = none := by
    rw [List.findIdx?_eq_none_iff]
    intro c hc
    obtain ⟨i, hi, e⟩ := List.getElem_of_mem hc
    have := h i hi c (by rw [← e]; simp)
    simpa using this
  unfold firstI
  rw [e]
theorem item_eq {x : Str} {k : Int} {n : Nat} (hk : k = (n : Int)) (hn : n < x.length) : ∃ c, x.cps.toList[n]? = some c ∧ Txt.item x k = ⟨#[c]⟩ := by
  have hs : n < x.cps.size := hn
  refine ⟨x.cps[n], by simp [hs], ?_⟩
  have h1 := StrLaws.at_nonneg (x := x) (i := k) (n := x.cps[n]) (by omega) (by subst hk; simp [hs])
  unfold Txt.item Txt.charAt
  rw [h1]
  rfl
set_option maxHeartbeats 4000000 in
theorem first_does {w : World} (news : Led) (x y : Str) (t ty : Tok) (hx : x.length < 1001) :
    Does 2 w 129 [.str x t, .str y ty] [] news (fun v news' => ∃ t, v = .int (firstI x.cps.toList y.cps.toList) t ∧ news' = news) := by
  intro p loose mean mg mb dp un gd cn cs a ccd cl outer A₀ base h₀ L m s Q E B F X N T hk hdp hun hret
  refine wpAny_call ?_
  k_dflt cell_enter
  walk_at "to iter"
  refine kst_range (σ := Unit) (n := x.length) (fun _ => news) (fun _ => []) (fun _ => True) [] (fun pre _ => ∀ i, i < pre.length → ∀ c, x.cps.toList[i]? = some c → ¬ c ∈ y.cps.toList) () rfl (by assumption)
    (small_one (by decide) (by decide) (by omega) (by omega)) (by rw [rangeSize_nat]; omega) (by assumption) (by assumption) trivial (by intro _ h; cases h) (by intro i hi; exact absurd hi (Nat.not_lt_zero _)) ?_ ?_
  · intro c pre k tt u h tk own hk1 hk2 hoff _ hP F1 N1
    dsimp only
    obtain ⟨ch, hch, hit⟩ := item_eq (x := x) (k := k) (n := pre.length) (by omega) (by omega)
    k_steps
    · rename (Builtin.Str.occurrences _ _ _ _ _).isEmpty = true => hem
      refine kst_end () F1 N1 (fun p hp => List.mem_append.mpr (.inl hp)) (fun p hp => List.mem_append.mpr (.inr hp)) rfl trivial (by intro _ h; cases h) ?_ ?_
      · intro z hz _ _
        dsimp only [kstB]
        rw [if_neg hz]
        rfl
      · intro i hi c hc
        rw [List.length_append, List.length_singleton] at hi
        rcases Nat.lt_or_ge i pre.length with hlt | hge
        · exact hP i hlt c hc
        · have e : i = pre.length := by omega
          rw [e, hch] at hc
          cases hc
          rw [hit] at hem
          exact fun hm => by
            have q := StrLaws.found_one y ch
            rw [hem, decide_eq_true hm] at q
            exact absurd q (by decide)
    · rename (Builtin.Str.occurrences _ _ _ _ _).isEmpty = false => hem
      rename News h₀ L _ _ => kN
      rename Fr h₀ L _ _ => kF
      refine hret _ _ _ _ ⟨tt, ?_, rfl⟩ kF (cb_drop kN (fun p hp => List.mem_append.mpr (.inl hp)))
      rw [hit] at hem
      have q := StrLaws.found_one y ch
      rw [hem] at q
      rw [firstI_found hP hch (of_decide_eq_true q.symm), hk1, Int.zero_add]
  · intro c u h tk _ hP F1 N1
    dsimp only
    k_steps
    rename News h₀ L _ _ => kN
    rename Fr h₀ L _ _ => kF
    have e : firstI x.cps.toList y.cps.toList = -1 := firstI_none fun i hi c hc => hP i (by rw [rangeKs_length]; exact hi) c hc
    exact hret _ _ _ _ ⟨_, by rw [e], rfl⟩ kF kN
end Mine
end
section
open PySem PySem.W PyProof.Rows PySem.Calls
namespace Mine
set_option maxRecDepth 100000
local macro_rules | `(tactic| walk_at "to while") => `(tactic| repeat' (first | (k_unfold; (try dsimp only)) | ((fail_if_success (with_reducible show wpAny _ _ (exec (Stmt.While _ _ _ _) _) _ _ _)); first | walk1 | (dsimp only; walk1))))
/-- how many dots stand at the head -/
def dotsAt (l : List Nat) : Nat := (l.takeWhile (· == 46)).length
theorem dot_str : Str.ofString "." = ⟨#[46]⟩ := by decide +kernel
theorem dots_take : ∀ (l : List Nat) (j : Nat), j < dotsAt l → l[j]? = some 46
  | [], j, h => absurd h (Nat.not_lt_zero _)
  | a :: r, j, h => by
    unfold dotsAt at h
    by_cases ha : a = 46
    · subst ha
      cases j with
      | zero => rfl
      | succ j => exact dots_take r j (by simpa [dotsAt] using h)
    · simp [ha] at h
theorem dots_stop : ∀ (l : List Nat), l[dotsAt l]? ≠ some 46
  | [] => by simp
  | a :: r => by
    by_cases ha : a = 46
    · subst ha
      have e : dotsAt (46 :: r) = dotsAt r + 1 := by simp [dotsAt]
      rw [e]
      exact dots_stop r
    · have e : dotsAt (a :: r) = 0 := by simp [dotsAt, ha]
      rw [e]
      simpa using ha
theorem dots_end {l : List Nat} {i j c : Nat} (h1 : i ≤ j) (h2 : j ≤ i + dotsAt (l.drop i)) (hc : l[j]? = some c) (hne : c ≠ 46) : i + dotsAt (l.drop i) = j := by
  rcases Nat.lt_or_ge j (i + dotsAt (l.drop i)) with h | h
  · have q := dots_take (l.drop i) (j - i) (by omega)
    rw [List.getElem?_drop, show i + (j - i) = j by omega, hc] at q
    exact absurd (Option.some.inj q) hne
  · omega
theorem dots_on {l : List Nat} {i j c : Nat} (h1 : i ≤ j) (h2 : j ≤ i + dotsAt (l.drop i)) (hc : l[j]? = some c) (he : c = 46) : j < i + dotsAt (l.drop i) := by
  rcases Nat.lt_or_ge j (i + dotsAt (l.drop i)) with h | h
  · exact h
  · have e : j = i + dotsAt (l.drop i) := by omega
    have q := dots_stop (l.drop i)
    rw [List.getElem?_drop, ← e, hc, he] at q
    exact absurd rfl q
set_option maxHeartbeats 4000000 in
theorem skipc_does {w : World} (news : Led) (x : Str) (i : Nat) (t ti tc : Tok) (hx : x.length < 10001) (hs : i + dotsAt (x.cps.toList.drop i) < x.length) :
    Does 2 w 68 [.str x t, .int (i : Int) ti, .str (Str.ofString ".") tc] [] news (fun v news' => ∃ t, v = .int ((i + dotsAt (x.cps.toList.drop i) : Nat) : Int) t ∧ news' = news) := by
  intro p loose mean mg mb dp un gd cn cs a ccd cl outer A₀ base h₀ L m s Q E B F X N T hk hdp hun hret
  refine wpAny_call ?_
  k_dflt cell_enter
  walk_at "to while"
  refine ksw_while (σ := Nat × Tok) (fun _ => news) (fun c => [(Str.ofString "pos", .int (c.1 : Int) c.2)]) (fun _ => True) [] (fun c => i ≤ c.1 ∧ c.1 ≤ i + dotsAt (x.cps.toList.drop i)) (fun c => i + dotsAt (x.cps.toList.drop i) - c.1) (i, ti)
    (by assumption) (by assumption) trivial ?_ ?_ ?_ ?_
  · intro q hq
    rw [List.mem_singleton.mp hq]
    rfl
  · exact ⟨Nat.le_refl _, Nat.le_add_right _ _⟩
  · rintro ⟨j, tj⟩ u h tk _ ⟨hj1, hj2⟩ F1 N1
    dsimp only at F1 hj1 hj2 ⊢
    obtain ⟨ch, hch, hit⟩ := item_eq (x := x) (k := (j : Int)) (n := j) rfl (by omega)
    k_steps
    · rename (Builtin.Str.occurrences _ _ _ _ _).isEmpty = true => hem
      rename News h₀ L _ _ => kN
      rename Fr h₀ L _ _ => kF
      refine hret _ _ _ _ ⟨tj, ?_, rfl⟩ kF kN
      rw [hit, dot_str] at hem
      have q := StrLaws.found_one ⟨#[46]⟩ ch
      rw [hem] at q
      have hne : ch ≠ 46 := fun e => by rw [e] at q; exact absurd q (by decide)
      rw [dots_end hj1 hj2 hch hne]
    · rename (Builtin.Str.occurrences _ _ _ _ _).isEmpty = false => hem
      rw [hit, dot_str] at hem
      have q := StrLaws.found_one ⟨#[46]⟩ ch
      rw [hem] at q
      have he : ch = 46 := by simpa using of_decide_eq_true q.symm
      have hlt : j < i + dotsAt (x.cps.toList.drop i) := dots_on hj1 hj2 hch he
      refine ksw_end (j + 1, tk + 1) (by assumption) (by assumption) (fun _ h => h) trivial ?_ ?_ ⟨by dsimp only; omega, by dsimp only; omega⟩ (by dsimp only; omega)
      · intro q hq
        rw [List.mem_singleton.mp hq]
        rfl
      · intro z hz _
        have hz' := hz _ (.head _)
        dsimp only at hz' ⊢
        rw [if_neg hz']
        dsimp only [kstB]
        rw [if_neg hz']
        rfl
  · k_steps
end Mine
end
section
open PySem PySem.W PyProof.Rows PySem.Calls
namespace Mine
set_option maxRecDepth 100000
local macro_rules | `(tactic| walk_at "enter cells") => `(tactic| (refine' code_defC ?k1 ?k2 ?k3 ?k4 ?k5 ?kA ?kF ?kK ?k6 ?k7 ?k8 ?k9 ?kB ?kD ?_ ?c2 ?c3 ?c4; (case kA => exact rfl); (case kF => exact rfl); (case kK => assumption); (case k1 => k_asm); (case k2 => k_asm); (case k3 => k_asm); (case k4 => k_asm); (case k5 => k_asm); (case k6 => k_is); (case k7 => k_is); (case k8 => ktr_room); (case k9 => exact BindsTo.of_eq rfl); (case kB => exact rfl); (case kD => decide +kernel); (case c2 => exact rfl); (case c3 => exact rfl); (case c4 => exact rfl); k_whole; intro g' L' h' tk' cells' FG' F' N' Y' B' X' T' l1; (try k_lt l1); k_cells Y'; (try simp only [List.cons_append, List.nil_append] at N'); (try dsimp only); (try k_lift B'); (try k_fold)))
local macro_rules | `(tactic| walk_at "to comp") => `(tactic| repeat' (first | (k_unfold; (try dsimp only)) | ((fail_if_success (with_reducible show wpAny _ _ (eval (Expr.ListComp _ _ _ _) _) _ _ _)); first | walk1 | (dsimp only; walk1))))
theorem all_ne_of_lt {d c : Nat} {l : Led} (h : ∀ p ∈ l, p.1 < c) (hc : c ≤ d) : ∀ p ∈ l, p.1 ≠ d := fun p hp => Nat.ne_of_lt (Nat.lt_of_lt_of_le (h p hp) hc)
local macro_rules | `(tactic| k_all) => `(tactic| (refine all_ne_of_lt (by assumption) ?_; omega))
local macro_rules | `(tactic| walk_at "to src") => `(tactic| repeat' (first | (k_unfold; (try dsimp only)) | ((fail_if_success (with_reducible show LCg.CompSrc _ _ _ _ _ _ _ _ _ _ _ _ _ _)); first | walk1 | (dsimp only; walk1))))
local macro_rules | `(tactic| walk_at "to bin") => `(tactic| repeat' (first | (k_unfold; (try dsimp only)) | ((fail_if_success (with_reducible show wpAny _ _ (binaryOp _ _ _) _ _ _)); first | walk1 | (dsimp only; walk1))))
def strandsS (o : Str) : List Str := [Str.ofString ".", Str.ofString "\r", Str.ofString "\n", Str.ofString "a", Str.ofString "..", Str.ofString "\r\n", Str.ofString "b", Str.ofString "\x00", ⟨#[8232]⟩, ⟨#[133]⟩, Str.ofString " ", o]
def strandAt (v : Int) (o : Str) (k : Nat) : Str := (strandsS o).getD ((v.fdiv (7 * 12 ^ k)).fmod 12).toNat Str.empty
local macro_rules | `(tactic| walk_at "to sub") => `(tactic| repeat' (first | (k_unfold; (try dsimp only)) | ((fail_if_success (with_reducible show wpAny _ _ (subscriptTail _ _ _ _) _ _ _)); first | walk1 | (dsimp only; walk1))))
theorem strands_get {o : Str} {j : Nat} {t0 t1 t2 t3 t4 t5 t6 t7 t8 t9 t10 t11 : Tok} (h : j < 12) : ∃ t, ([.str (Str.ofString ".") t0, .str (Str.ofString "\r") t1, .str (Str.ofString "\n") t2, .str (Str.ofString "a") t3, .str (Str.ofString "..") t4, .str (Str.ofString "\r\n") t5, .str (Str.ofString "b") t6, .str (Str.ofString "\x00") t7, .str (Str.ofString "\u2028") t8, .str (Str.ofString "\u0085") t9, .str (Str.ofString " ") t10, .str o t11] : List Value)[j]? = some (.str ((strandsS o).getD j Str.empty) t) := by
  have e1 : Str.ofString "\u2028" = ⟨#[8232]⟩ := by decide +kernel
  have e2 : Str.ofString "\u0085" = ⟨#[133]⟩ := by decide +kernel
  rw [e1, e2]
  rcases j with _ | _ | _ | _ | _ | _ | _ | _ | _ | _ | _ | _ | j
  all_goals first | exact ⟨_, rfl⟩ | omega
theorem pow12_le {i : Nat} (h : i ≤ 5) : (12 : Int) ^ i ≤ 248832 := by
  rcases i with _ | _ | _ | _ | _ | _ | i
  all_goals first | decide | omega
local macro_rules | `(tactic| walk_at "to join") => `(tactic| repeat' (first | (k_unfold; (try dsimp only)) | ((fail_if_success (with_reducible show wpAny _ _ (call (Value.builtin "str.join") _) _ _ _)); first | walk1 | (dsimp only; walk1))))
/-- the mail that a number tells -/
def mailS (x : Int) (o : Str) : Str := Txt.join (Str.ofString "") ((List.range ((x.fmod 20901888).fmod 7).toNat).map (strandAt (x.fmod 20901888) o))
theorem strand_len {o : Str} (ho : o.length ≤ 2) (v : Int) (k : Nat) : (strandAt v o k).length ≤ 2 := by
  unfold strandAt
  have h : ∀ y ∈ strandsS o, y.length ≤ 2 := by
    intro y hy
    simp only [strandsS, List.mem_cons, List.not_mem_nil, or_false] at hy
    rcases hy with rfl | rfl | rfl | rfl | rfl | rfl | rfl | rfl | rfl | rfl | rfl | rfl
    all_goals first | exact ho | decide +kernel
  rw [List.getD_eq_getElem?_getD]
  cases e : (strandsS o)[((v.fdiv (7 * 12 ^ k)).fmod 12).toNat]? with
  | none => exact Nat.zero_le _
  | some y => exact h y (List.mem_of_getElem? e)
theorem join_len {o : Str} (ho : o.length ≤ 2) (v : Int) (n : Nat) : (((List.range n).map (strandAt v o)).map (·.length)).sum + ((List.range n).map (strandAt v o)).length * 0 ≤ 2 * n := by
  have h := StrLaws.sumLen_le (B := 2) ((List.range n).map (strandAt v o)) (by
    intro y hy
    obtain ⟨k, _, rfl⟩ := List.mem_map.mp hy
    exact strand_len ho v k)
  simp only [List.length_map, List.length_range] at h ⊢
  omega
set_option maxHeartbeats 4000000 in
theorem mail_does {w : World} (news : Led) (x : Int) (o : Str) (t ti : Tok) (ho : o.length ≤ 2) :
    Does 2 w 94 [.int x t, .str o ti] [] news (fun v news' => ∃ t, v = .str (mailS x o) t ∧ news' = news) := by
  intro p loose mean mg mb dp un gd cn cs a ccd cl outer A₀ base h₀ L m s Q E B F X N T hk hdp hun hret
  refine wpAny_call ?_
  k_dflt (walk_at "enter cells")
  walk_at "to comp"
  k_dflt (refine LCg.ListComp_U (F₀ := by k_asm) (by with_unfolding_all rfl) (by decide) (by rfl) (by decide) (by rfl) ?_)
  walk_at "to src"
  have hv0 : 0 ≤ x.fmod 20901888 := fmod_lo x (by decide)
  have hv1 : x.fmod 20901888 < 20901888 := fmod_hi x (by decide)
  have hn0 : 0 ≤ (x.fmod 20901888).fmod 7 := fmod_lo _ (by decide)
  have hn1 : (x.fmod 20901888).fmod 7 < 7 := fmod_hi _ (by decide)
  refine LCg.CompSrc.range (n := ((x.fmod 20901888).fmod 7).toNat) rfl (by k_asm) (by k_asm) (by assumption) (small_one (by decide) (by decide) (by omega) (by omega)) (by rw [rangeSize_nat]; simp) (by rw [sizeLine_eq]; omega) ?_
  intro gh
  refine comp_rest (fun i y => ∃ t, y = .str (strandAt (x.fmod 20901888) o i) t) ?_ ?_
  · intro i v I oI C oC D m₂ ys h tk E' hi hP hC hxx F1 N1 off ne
    obtain ⟨tv, rfl⟩ := hP
    walk_at "to bin"
    refine pow_int_small (by omega) (by omega) (by decide) ?_
    walk_at "to bin"
    refine mul_int ?_ (IntMulOk.of_left (intBits_le_64 (by decide) (by decide)))
    walk_at "to bin"
    have e1 : (0 + (i : Int)).toNat = i := by omega
    rw [e1]
    have hpos : (0 : Int) < 7 * 12 ^ i := Int.mul_pos (by decide) (Int.pow_pos (by decide))
    have hle : (12 : Int) ^ i ≤ 248832 := pow12_le (by omega)
    refine floordiv_int (by omega) ?_ (Or.inl (PyProof.noPylong_small (by omega)))
    walk_at "to bin"
    refine mod_int' (by decide) ?_
    dsimp only
    have hj0 : 0 ≤ ((x.fmod 20901888).fdiv (7 * 12 ^ i)).fmod 12 := fmod_lo _ (by decide)
    have hj1 : ((x.fmod 20901888).fdiv (7 * 12 ^ i)).fmod 12 < 12 := fmod_hi _ (by decide)
    obtain ⟨tz, hz⟩ := strands_get (o := o) (j := (((x.fmod 20901888).fdiv (7 * 12 ^ i)).fmod 12).toNat) (by omega)
    walk_at "to sub"
    refine kim_list (by k_asm) (.tail _ (.tail _ (.tail _ (.head _)))) rfl rfl hj0 (by omega) hz ?_
    exact comp_one (by assumption) (by assumption) (by assumption) trivial ⟨_, rfl⟩
  · intro ys hyl hy
    have hsa := strsAre_of hyl hy
    walk_at "to join"
    refine join_list (News.isList (by assumption) (.head _)) (by exact hsa) ?_ ?_
    · have hle := join_len ho (x.fmod 20901888) ((x.fmod 20901888).fmod 7).toNat
      have e0 : (Str.ofString "").length = 0 := by decide +kernel
      rw [e0]
      omega
    · intro t' k'
      k_steps
      rename News h₀ L _ _ => kN
      rename Fr h₀ L _ _ => kF
      exact hret _ _ _ _ ⟨t', rfl, rfl⟩ kF (cb_drop kN fun q hq => .tail _ (.tail _ (.tail _ (.tail _ hq))))
end Mine
end
section
open PySem
namespace Mine
open PySem.Sre
def code1 : Array Nat := #[14, 4, 0, 1, 1, 6, 1, 16, 46, 1]
def code2 : Array Nat := #[14, 9, 4, 1, 2, 16, 10, 16, 13, 0, 7, 7, 16, 13, 16, 10, 15, 18, 5, 16, 10, 15, 13, 11, 16, 13, 5, 5, 0, 16, 10, 1, 15, 2, 0, 1]
theorem runFor_done {m : M} (h : m.outcome.isSome = true) : ∀ n, m.runFor n = m
  | 0 => rfl
  | n + 1 => by unfold M.runFor; rw [if_pos h]
theorem runFor_succ {m : M} (h : m.outcome.isSome = false) (n : Nat) : m.runFor (n + 1) = m.step.runFor n := by
  conv => lhs; unfold M.runFor
  rw [h]
  rfl
theorem runFor_add (a b : Nat) : ∀ m : M, m.runFor (a + b) = (m.runFor a).runFor b := by
  induction a with
  | zero => intro m; rw [Nat.zero_add]; rfl
  | succ a ih =>
    intro m
    rw [Nat.succ_add]
    cases h : m.outcome.isSome with
    | true => rw [runFor_done h, runFor_done h, runFor_done h]
    | false => rw [runFor_succ h, runFor_succ h]; exact ih m.step
/-- the machine comes from m to m' within k steps -/
def Comes (m m' : M) (k : Nat) : Prop := ∃ j, j ≤ k ∧ m.runFor j = m'
theorem Comes.refl (m : M) (k : Nat) : Comes m m k := ⟨0, Nat.zero_le _, rfl⟩
theorem Comes.step {m m₁ m' : M} {k : Nat} (h : m.outcome.isSome = false) (e : m.step = m₁) (c : Comes m₁ m' k) : Comes m m' (k + 1) := by
  obtain ⟨j, hj, r⟩ := c
  exact ⟨j + 1, by omega, by rw [runFor_succ h, e, r]⟩
theorem Comes.trans {m m₁ m' : M} {a b : Nat} (c : Comes m m₁ a) (d : Comes m₁ m' b) : Comes m m' (a + b) := by
  obtain ⟨j, hj, r⟩ := c
  obtain ⟨i, hi, q⟩ := d
  exact ⟨j + i, by omega, by rw [runFor_add, r, q]⟩
theorem Comes.mono {m m' : M} {a b : Nat} (c : Comes m m' a) (h : a ≤ b) : Comes m m' b := let ⟨j, hj, r⟩ := c; ⟨j, Nat.le_trans hj h, r⟩
/-- what a search gives -/
def Finds (code text : Array Nat) (p : Nat) (r : Option (Nat × Nat)) (k : Nat) : Prop := ∃ m', Comes (forSearch code text 0 p text.size false) m' k ∧ match r with
  | none => m'.outcome = some .failed
  | some (s, e) => m'.outcome = some .matched ∧ m'.start = s ∧ m'.handed = e
theorem exec_of {m : M} (hout : m.outcome = none) (hans : m.answer = none) (hpc : m.pc < m.code.size) : m.step = m.exec := by
  unfold M.step
  rw [hout, hans]
  simp only [Option.isSome_none, Bool.false_eq_true, if_false, if_pos hpc]
theorem accepts_lit {code : Array Nat} {i c : Nat} {seen : Seen} (hop : ops[code.getD i 0]? = some .LITERAL) : accepts code i c seen = .ok (c == code.getD (i + 1) 0, seen) := by
  unfold accepts
  simp only [hop]
theorem width_lit {code : Array Nat} {i : Nat} (hop : ops[code.getD i 0]? = some .LITERAL) : itemWidth code i = 2 := by
  unfold itemWidth
  simp only [hop]
theorem lit_yes {m : M} {c : Nat} (hout : m.outcome = none) (hans : m.answer = none) (hpc : m.pc < m.code.size) (hop : ops[m.code.getD m.pc 0]? = some .LITERAL) (hw : m.code.getD (m.pc + 1) 0 = c) (hp : m.pos < m.lim) (hc : m.text.getD m.pos 0 = c) :
    m.step = { m with seen := m.seen.add (m.code.getD m.pc 0), pc := m.pc + 2, pos := m.pos + 1 } := by
  rw [exec_of hout hans hpc]
  unfold M.exec
  have e : ops[m.word 0]? = some .LITERAL := hop
  simp only [e]
  rw [if_neg (Nat.not_le.mpr hp), accepts_lit hop, hw, hc, width_lit hop]
  simp only [beq_self_eq_true]
  rfl
theorem lit_no {m : M} {c : Nat} (hout : m.outcome = none) (hans : m.answer = none) (hpc : m.pc < m.code.size) (hop : ops[m.code.getD m.pc 0]? = some .LITERAL) (hw : m.code.getD (m.pc + 1) 0 = c) (hc : m.pos < m.lim → m.text.getD m.pos 0 ≠ c) :
    m.step = { m with seen := m.seen.add (m.code.getD m.pc 0), answer := some false } := by
  rw [exec_of hout hans hpc]
  unfold M.exec
  have e : ops[m.word 0]? = some .LITERAL := hop
  simp only [e]
  rcases Nat.lt_or_ge m.pos m.lim with hp | hp
  · have e2 : (m.text.getD m.pos 0 == c) = false := by simpa using hc hp
    rw [if_neg (Nat.not_le.mpr hp), accepts_lit hop, hw, e2]
    rfl
  · rw [if_pos hp]
    rfl
section
variable (text : Array Nat) (q : Nat) (seen : Seen) (first : Bool)
/-- the first pattern's machine, about to try at q -/
def at1 : M :=
  { code := code1, text := text, lim := text.size, start := q, lastStart := text.size, pc := 5, pos := q, handed := q, outermost := first, marks := Array.replicate (2 * 0) none,
    frames := [{ wait := .nextStart, pc := 5, pos := q, outermost := first }], weight := 1, seen := seen }
theorem at1_step : (at1 text q seen first).step =
    if (q == 0 || text.getD (q - 1) 0 == 10) = true then { at1 text q ((seen.add 6).add 44) first with pc := 7 } else { at1 text q ((seen.add 6).add 44) first with answer := some false } := rfl
theorem at1_lit_yes (hq : q < text.size) (h : text.getD q 0 = 46) : ({ at1 text q seen first with pc := 7 } : M).step = { at1 text q (seen.add 16) first with pc := 9, pos := q + 1 } :=
  lit_yes (c := 46) rfl rfl (show 7 < code1.size by decide) rfl rfl hq h
theorem at1_lit_no (h : q < text.size → text.getD q 0 ≠ 46) : ({ at1 text q seen first with pc := 7 } : M).step = { at1 text q (seen.add 16) first with pc := 7, answer := some false } :=
  lit_no (c := 46) rfl rfl (show 7 < code1.size by decide) rfl rfl h
theorem at1_no {pc : Nat} : ({ at1 text q seen first with pc := pc, answer := some false } : M).step =
    if q < text.size then at1 text (q + 1) seen false else { at1 text q seen first with frames := [], weight := 0, answer := some false } := rfl
theorem at1_succ : ({ at1 text q seen first with pc := 9, pos := q + 1 } : M).step = if (first && ((false && (q + 1) != text.size) || (false && (q + 1) == q))) = true then { at1 text q (seen.add 1) first with pc := 9, pos := q + 1, answer := some false } else { at1 text q (seen.add 1) first with pc := 9, pos := q + 1, handed := q + 1, answer := some true } := rfl
theorem at1_back : ({ at1 text q seen first with pc := 9, pos := q + 1, handed := q + 1, answer := some true } : M).step = { at1 text q seen first with handed := q + 1, frames := [], weight := 0, answer := some true } := rfl
theorem at1_end : ({ at1 text q seen first with handed := q + 1, frames := [], weight := 0, answer := some true } : M).step = { at1 text q seen first with handed := q + 1, frames := [], weight := 0, answer := some true, outcome := some .matched } := rfl
theorem at1_fail : ({ at1 text q seen first with frames := [], weight := 0, answer := some false } : M).step = { at1 text q seen first with frames := [], weight := 0, answer := some false, outcome := some .failed } := rfl
end
/-- does the first pattern match at q -/
def hit1 (text : Array Nat) (q : Nat) : Bool := (q == 0 || text.getD (q - 1) 0 == 10) && (decide (q < text.size) && text.getD q 0 == 46)
theorem at1_goes (text : Array Nat) (q : Nat) (seen : Seen) (first : Bool) (hq : q < text.size) (h : hit1 text q = false) : ∃ seen', Comes (at1 text q seen first) (at1 text (q + 1) seen' false) 3 := by
  unfold hit1 at h
  cases h1 : (q == 0 || text.getD (q - 1) 0 == 10) with
  | false =>
    refine ⟨_, Comes.step rfl ((at1_step _ _ _ _).trans (if_neg (by rw [h1]; decide))) (Comes.step rfl ((at1_no _ _ _ _).trans (if_pos hq)) (Comes.refl _ 1))⟩
  | true =>
    rw [h1, decide_eq_true hq] at h
    have h2 : text.getD q 0 ≠ 46 := by simpa using h
    refine ⟨_, Comes.step rfl ((at1_step _ _ _ _).trans (if_pos h1)) (Comes.step rfl (at1_lit_no _ _ _ _ fun _ => h2) (Comes.step rfl ((at1_no _ _ _ _).trans (if_pos hq)) (Comes.refl _ 0)))⟩
theorem at1_ends (text : Array Nat) (q : Nat) (seen : Seen) (first : Bool) (hq : q = text.size) : ∃ m', Comes (at1 text q seen first) m' 4 ∧ m'.outcome = some .failed := by
  cases h1 : (q == 0 || text.getD (q - 1) 0 == 10) with
  | false =>
    exact ⟨_, Comes.step rfl ((at1_step _ _ _ _).trans (if_neg (by rw [h1]; decide))) (Comes.step rfl ((at1_no _ _ _ _).trans (if_neg (by omega))) (Comes.step rfl (at1_fail _ _ _ _) (Comes.refl _ 1))), rfl⟩
  | true =>
    exact ⟨_, Comes.step rfl ((at1_step _ _ _ _).trans (if_pos h1)) (Comes.step rfl (at1_lit_no _ _ _ _ fun h => absurd h (by omega)) (Comes.step rfl ((at1_no _ _ _ _).trans (if_neg (by omega))) (Comes.step rfl (at1_fail _ _ _ _) (Comes.refl _ 0)))), rfl⟩
theorem at1_hits (text : Array Nat) (q : Nat) (seen : Seen) (first : Bool) (h : hit1 text q = true) : ∃ m', Comes (at1 text q seen first) m' 5 ∧ m'.outcome = some .matched ∧ m'.start = q ∧ m'.handed = q + 1 := by
  unfold hit1 at h
  simp only [Bool.and_eq_true, decide_eq_true_eq, beq_iff_eq] at h
  obtain ⟨h1, hq, h2⟩ := h
  exact ⟨_, Comes.step rfl ((at1_step _ _ _ _).trans (if_pos h1)) (Comes.step rfl (at1_lit_yes _ _ _ _ hq h2) (Comes.step rfl ((at1_succ _ _ _ _).trans (if_neg (by cases first <;> simp)))
    (Comes.step rfl (at1_back _ _ _ _) (Comes.step rfl (at1_end _ _ _ _) (Comes.refl _ 0))))), rfl, rfl, rfl⟩
/-- the first place from q on where the first pattern matches -/
def next1 (text : Array Nat) : (fuel q : Nat) → Option (Nat × Nat)
  | 0, _ => none
  | f + 1, q => if hit1 text q = true then some (q, q + 1) else next1 text f (q + 1)
theorem at1_finds (text : Array Nat) : ∀ (f q : Nat) (seen : Seen) (first : Bool), q + f = text.size + 1 → 1 ≤ f → ∃ m', Comes (at1 text q seen first) m' (3 * f + 5) ∧ match next1 text f q with
    | none => m'.outcome = some .failed
    | some (s, e) => m'.outcome = some .matched ∧ m'.start = s ∧ m'.handed = e := by
  intro f
  induction f with
  | zero => intro q seen first _ h; omega
  | succ f ih =>
    intro q seen first hq _
    unfold next1
    by_cases h : hit1 text q = true
    · rw [if_pos h]
      obtain ⟨m', c, a, b, d⟩ := at1_hits text q seen first h
      exact ⟨m', c.mono (by omega), a, b, d⟩
    · rw [if_neg h]
      have h' : hit1 text q = false := by simpa using h
      rcases Nat.lt_or_ge q text.size with hlt | hge
      · obtain ⟨seen', c⟩ := at1_goes text q seen first hlt h'
        obtain ⟨m', d, r⟩ := ih (q + 1) seen' false (by omega) (by omega)
        exact ⟨m', (c.trans d).mono (by omega), r⟩
      · have e : f = 0 := by omega
        subst e
        obtain ⟨m', c, r⟩ := at1_ends text q seen first (by omega)
        exact ⟨m', c.mono (by omega), r⟩
theorem search1_at (text : Array Nat) (p : Nat) (h : p < text.size) : forSearch code1 text 0 p text.size false = at1 text p (({} : Seen).add 14) true := by
  unfold forSearch
  have e : (decide (p > text.size) || decide (text.size - p < (header code1).1)) = false := by
    have : (header code1).1 = 1 := by decide
    rw [this]
    simp; omega
  simp only [Bool.or_eq_false_iff, decide_eq_false_iff_not] at e
  rw [if_neg (by rw [Bool.or_eq_true, decide_eq_true_eq, decide_eq_true_eq, not_or]; exact e)]
  rfl
theorem search1_off (text : Array Nat) (p : Nat) (h : ¬ p < text.size) : ∃ m', Comes (forSearch code1 text 0 p text.size false) m' 1 ∧ m'.outcome = some .failed := by
  have h1 : (header code1).1 = 1 := by decide
  unfold forSearch
  rw [if_pos (by rw [Bool.or_eq_true, decide_eq_true_eq, decide_eq_true_eq, h1]; omega)]
  exact ⟨_, Comes.step rfl rfl (Comes.refl _ 0), rfl⟩
theorem finds1 (text : Array Nat) (p : Nat) : Finds code1 text p (if p < text.size then next1 text (text.size + 1 - p) p else none) (3 * text.size + 10) := by
  unfold Finds
  by_cases h : p < text.size
  · rw [if_pos h, search1_at text p h]
    obtain ⟨m', c, r⟩ := at1_finds text (text.size + 1 - p) p (({} : Seen).add 14) true (by omega) (by omega)
    exact ⟨m', c.mono (by omega), r⟩
  · rw [if_neg h]
    obtain ⟨m', c, r⟩ := search1_off text p h
    exact ⟨m', c.mono (by omega), r⟩
/-- the second pattern's machine, about to try at q -/
def at2 (text : Array Nat) (q : Nat) (seen : Seen) (first : Bool) : M :=
  { code := code2, text := text, lim := text.size, start := q, lastStart := text.size, pc := 10, pos := q, handed := q, outermost := first, marks := Array.replicate (2 * 0) none,
    frames := [{ wait := .nextStart, pc := 10, pos := q, outermost := first }], weight := 1, seen := seen }
theorem succ_yes {m : M} (hout : m.outcome = none) (hans : m.answer = none) (hpc : m.pc < m.code.size) (hop : ops[m.code.getD m.pc 0]? = some .SUCCESS) (h1 : m.wholeText = false) (h2 : m.mustAdvance = false) :
    m.step = { m with seen := m.seen.add (m.code.getD m.pc 0), handed := m.pos, answer := some true } := by
  rw [exec_of hout hans hpc]
  unfold M.exec
  have e : ops[m.word 0]? = some .SUCCESS := hop
  simp only [e, h1, h2, Bool.false_and, Bool.or_false, Bool.and_false, Bool.false_eq_true, if_false]
  rfl
section
variable (text : Array Nat) (q : Nat) (first : Bool)
def st2 (seen : Seen) (frs : List Sre.Frame) (wt pc pos handed : Nat) (om : Bool) (ans : Option Bool) : M :=
  { code := code2, text := text, lim := text.size, start := q, lastStart := text.size, pc := pc, pos := pos, handed := handed, outermost := om, marks := Array.replicate (2 * 0) none, frames := frs, weight := wt, answer := ans, seen := seen }
def fS : Sre.Frame := { wait := .nextStart, pc := 10, pos := q, outermost := first }
def fB (pc : Nat) : Sre.Frame := { wait := .nextBranch, pc := pc, pos := q, outermost := first, kept := { lastmark := -1, lastindex := -1, whole := false, marks := #[] } }
def fL : Sre.Frame := { wait := .lookNot, pc := 26, pos := q + 1, outermost := first, kept := { lastmark := -1, lastindex := -1, whole := false, marks := #[] } }
variable (seen : Seen)
theorem b_start : (st2 text q seen [fS q first] 1 10 q q first none).step = st2 text q (seen.add 7) [fB q first 11, fS q first] 2 12 q q first none := rfl
theorem b_yes {pc pos h a : Nat} {om : Bool} : (st2 text q seen [fB q first a, fS q first] 2 pc pos h om (some true)).step = st2 text q seen [fS q first] 1 a q h first (some true) := rfl
theorem b_two {pc pos h : Nat} {om : Bool} : (st2 text q seen [fB q first 11, fS q first] 2 pc pos h om (some false)).step = st2 text q seen [fB q first 18, fS q first] 2 19 q q first none := rfl
theorem b_three {pc pos h : Nat} {om : Bool} : (st2 text q seen [fB q first 18, fS q first] 2 pc pos h om (some false)).step = st2 text q seen [fB q first 23, fS q first] 2 24 q q first none := rfl
theorem s_yes {pc pos h : Nat} {om : Bool} : (st2 text q seen [fS q first] 1 pc pos h om (some true)).step = st2 text q seen [] 0 10 q h first (some true) := rfl
theorem e_yes {pc pos h : Nat} {om : Bool} : (st2 text q seen [] 0 pc pos h om (some true)).step = { st2 text q seen [] 0 pc pos h om (some true) with outcome := some .matched } := rfl
theorem j16 {pos h : Nat} {om : Bool} {frs : List Sre.Frame} {wt : Nat} : (st2 text q seen frs wt 16 pos h om none).step = st2 text q (seen.add 15) frs wt 35 pos h om none := rfl
theorem j21 {pos h : Nat} {om : Bool} {frs : List Sre.Frame} {wt : Nat} : (st2 text q seen frs wt 21 pos h om none).step = st2 text q (seen.add 15) frs wt 35 pos h om none := rfl
theorem j32 {pos h : Nat} {om : Bool} {frs : List Sre.Frame} {wt : Nat} : (st2 text q seen frs wt 32 pos h om none).step = st2 text q (seen.add 15) frs wt 35 pos h om none := rfl
theorem l_start {h : Nat} : (st2 text q seen [fB q first 23, fS q first] 2 26 (q + 1) h first none).step = st2 text q (seen.add 5) [fL q first, fB q first 23, fS q first] 3 29 (q + 1) (q + 1) false none := rfl
theorem l_no {pc pos h : Nat} {om : Bool} : (st2 text q seen [fL q first, fB q first 23, fS q first] 3 pc pos h om (some false)).step = st2 text q seen [fB q first 23, fS q first] 2 32 (q + 1) h first none := rfl
theorem l2_yes {frs : List Sre.Frame} {wt pos h c : Nat} {om : Bool} (pc : Nat) (hpc : pc < 36) (hop : ops[code2.getD pc 0]? = some .LITERAL) (hw : code2.getD (pc + 1) 0 = c) (hp : pos < text.size) (hc : text.getD pos 0 = c) :
    (st2 text q seen frs wt pc pos h om none).step = st2 text q (seen.add (code2.getD pc 0)) frs wt (pc + 2) (pos + 1) h om none := lit_yes (m := st2 text q seen frs wt pc pos h om none) (c := c) rfl rfl hpc hop hw hp hc
theorem l2_no {frs : List Sre.Frame} {wt pos h c : Nat} {om : Bool} (pc : Nat) (hpc : pc < 36) (hop : ops[code2.getD pc 0]? = some .LITERAL) (hw : code2.getD (pc + 1) 0 = c) (hc : pos < text.size → text.getD pos 0 ≠ c) :
    (st2 text q seen frs wt pc pos h om none).step = st2 text q (seen.add (code2.getD pc 0)) frs wt pc pos h om (some false) := lit_no (m := st2 text q seen frs wt pc pos h om none) (c := c) rfl rfl hpc hop hw hc
theorem u_yes {frs : List Sre.Frame} {wt pos h : Nat} {om : Bool} : (st2 text q seen frs wt 35 pos h om none).step = st2 text q (seen.add 1) frs wt 35 pos pos om (some true) := succ_yes (m := st2 text q seen frs wt 35 pos h om none) rfl rfl (show 35 < code2.size by decide) rfl rfl rfl
end
theorem at2_end {text : Array Nat} {q a pos h : Nat} {first om : Bool} {seen : Seen} : ∃ m', Comes (st2 text q seen [fB q first a, fS q first] 2 35 pos h om none) m' 4 ∧ m'.outcome = some .matched ∧ m'.start = q ∧ m'.handed = pos :=
  ⟨_, Comes.step rfl (u_yes _ _ _) (Comes.step rfl (b_yes _ _ _ _) (Comes.step rfl (s_yes _ _ _ _) (Comes.step rfl (e_yes _ _ _) (Comes.refl _ 0)))), rfl, rfl, rfl⟩
theorem at2_crlf (text : Array Nat) (q : Nat) (seen : Seen) (first : Bool) (hq : q + 1 < text.size) (h1 : text.getD q 0 = 13) (h2 : text.getD (q + 1) 0 = 10) :
    ∃ m', Comes (at2 text q seen first) m' 20 ∧ m'.outcome = some .matched ∧ m'.start = q ∧ m'.handed = q + 2 := by
  obtain ⟨m', c, r⟩ := at2_end (text := text) (q := q) (a := 11) (pos := q + 2) (h := q) (first := first) (om := first)
  exact ⟨m', (Comes.step (m := at2 text q seen first) rfl (b_start text q first seen) (Comes.step rfl (l2_yes _ _ _ 12 (by decide) rfl rfl (by omega) h1) (Comes.step rfl (l2_yes _ _ _ 14 (by decide) rfl rfl hq h2) (Comes.step rfl (j16 _ _ _) c)))).mono (by omega), r⟩
theorem at2_lf (text : Array Nat) (q : Nat) (seen : Seen) (first : Bool) (hq : q < text.size) (h1 : text.getD q 0 = 10) :
    ∃ m', Comes (at2 text q seen first) m' 20 ∧ m'.outcome = some .matched ∧ m'.start = q ∧ m'.handed = q + 1 := by
  obtain ⟨m', c, r⟩ := at2_end (text := text) (q := q) (a := 18) (pos := q + 1) (h := q) (first := first) (om := first)
  exact ⟨m', (Comes.step (m := at2 text q seen first) rfl (b_start text q first seen) (Comes.step rfl (l2_no (c := 13) _ _ _ 12 (by decide) rfl rfl (fun _ => by rw [h1]; decide)) (Comes.step rfl (b_two _ _ _ _) (Comes.step rfl (l2_yes _ _ _ 19 (by decide) rfl rfl hq h1) (Comes.step rfl (j21 _ _ _) c))))).mono (by omega), r⟩
theorem at2_cr (text : Array Nat) (q : Nat) (seen : Seen) (first : Bool) (hq : q < text.size) (h1 : text.getD q 0 = 13) (h2 : q + 1 < text.size → text.getD (q + 1) 0 ≠ 10) :
    ∃ m', Comes (at2 text q seen first) m' 20 ∧ m'.outcome = some .matched ∧ m'.start = q ∧ m'.handed = q + 1 := by
  obtain ⟨m', c, r⟩ := at2_end (text := text) (q := q) (a := 23) (pos := q + 1) (h := q + 1) (first := first) (om := first)
  exact ⟨m', (Comes.step (m := at2 text q seen first) rfl (b_start text q first seen) (Comes.step rfl (l2_yes _ _ _ 12 (by decide) rfl rfl hq h1) (Comes.step rfl (l2_no (c := 10) _ _ _ 14 (by decide) rfl rfl h2) (Comes.step rfl (b_two _ _ _ _)
    (Comes.step rfl (l2_no (c := 10) _ _ _ 19 (by decide) rfl rfl (fun _ => by rw [h1]; decide)) (Comes.step rfl (b_three _ _ _ _) (Comes.step rfl (l2_yes _ _ _ 24 (by decide) rfl rfl hq h1) (Comes.step rfl (l_start _ _ _ _)
    (Comes.step rfl (l2_no (c := 10) _ _ _ 29 (by decide) rfl rfl h2) (Comes.step rfl (l_no _ _ _ _) (Comes.step rfl (j32 _ _ _) c))))))))))).mono (by omega), r⟩
theorem inSet2 (c : Nat) (seen : Seen) : ∃ seen', inSet code2 c code2.size 5 true seen = .ok (decide (c = 10 ∨ c = 13), seen') := by
  by_cases h1 : c = 10
  · subst h1
    exact ⟨_, rfl⟩
  · by_cases h2 : c = 13
    · subst h2
      exact ⟨_, rfl⟩
    · have e1 : (c == 10) = false := by simpa using h1
      have e2 : (c == 13) = false := by simpa using h2
      have e3 : decide (c = 10 ∨ c = 13) = false := by simp [h1, h2]
      rw [e3]
      refine ⟨((seen.add 16).add 16).add 0, ?_⟩
      have s1 : inSet code2 c code2.size 5 true seen = if (c == 10) = true then .ok (true, seen.add 16) else inSet code2 c 35 7 true (seen.add 16) := rfl
      have s2 : inSet code2 c 35 7 true (seen.add 16) = if (c == 13) = true then .ok (true, (seen.add 16).add 16) else inSet code2 c 34 9 true ((seen.add 16).add 16) := rfl
      rw [s1, if_neg (by rw [e1]; decide), s2, if_neg (by rw [e2]; decide)]
      rfl
/-- the first line end from s on -/
def nextL (text : Array Nat) : (fuel s : Nat) → Option Nat
  | 0, _ => none
  | f + 1, s => if s ≥ text.size then none else if text.getD s 0 = 10 ∨ text.getD s 0 = 13 then some s else nextL text f (s + 1)
theorem admitted2 {m : M} (hc : m.code = code2) (hl : m.lim = m.text.size) : ∀ (f s : Nat) (seen : Seen), ∃ seen', M.admitted m f s seen = .ok (nextL m.text f s, seen')
  | 0, s, seen => ⟨seen, rfl⟩
  | f + 1, s, seen => by
    unfold M.admitted nextL
    rw [hl]
    by_cases h : s ≥ m.text.size
    · rw [if_pos h, if_pos h]
      exact ⟨_, rfl⟩
    · rw [if_neg h, if_neg h, hc]
      obtain ⟨seen₁, e⟩ := inSet2 (m.text.getD s 0) seen
      rw [e]
      by_cases hb : m.text.getD s 0 = 10 ∨ m.text.getD s 0 = 13
      · rw [if_pos hb, decide_eq_true hb]
        exact ⟨_, rfl⟩
      · rw [if_neg hb, decide_eq_false hb]
        exact admitted2 hc hl f (s + 1) seen₁
theorem nextL_some {text : Array Nat} : ∀ {f s q : Nat}, nextL text f s = some q → s ≤ q ∧ q < text.size ∧ (text.getD q 0 = 10 ∨ text.getD q 0 = 13) ∧ ∀ k, s ≤ k → k < q → ¬ (text.getD k 0 = 10 ∨ text.getD k 0 = 13)
  | 0, _, _, h => by cases h
  | f + 1, s, q, h => by
    unfold nextL at h
    by_cases h1 : s ≥ text.size
    · rw [if_pos h1] at h; cases h
    · rw [if_neg h1] at h
      by_cases h2 : text.getD s 0 = 10 ∨ text.getD s 0 = 13
      · rw [if_pos h2] at h
        cases h
        exact ⟨Nat.le_refl _, by omega, h2, fun k a b => absurd a (by omega)⟩
      · rw [if_neg h2] at h
        obtain ⟨a, b, c, d⟩ := nextL_some h
        refine ⟨by omega, b, c, fun k hk hq => ?_⟩
        rcases Nat.eq_or_lt_of_le hk with e | e
        · rw [← e]; exact h2
        · exact d k e hq
theorem nextL_none {text : Array Nat} : ∀ {f s : Nat}, nextL text f s = none → s + f ≥ text.size → ∀ k, s ≤ k → k < text.size → ¬ (text.getD k 0 = 10 ∨ text.getD k 0 = 13)
  | 0, _, _, hf, k, a, b => absurd b (by omega)
  | f + 1, s, h, hf, k, hk, hq => by
    unfold nextL at h
    by_cases h1 : s ≥ text.size
    · omega
    · rw [if_neg h1] at h
      by_cases h2 : text.getD s 0 = 10 ∨ text.getD s 0 = 13
      · rw [if_pos h2] at h; cases h
      · rw [if_neg h2] at h
        rcases Nat.eq_or_lt_of_le hk with e | e
        · rw [← e]; exact h2
        · exact nextL_none h (by omega) k e hq
/-- where the second pattern's match at q ends -/
def end2 (text : Array Nat) (q : Nat) : Nat := if text.getD q 0 = 13 ∧ q + 1 < text.size ∧ text.getD (q + 1) 0 = 10 then q + 2 else q + 1
def next2 (text : Array Nat) (p : Nat) : Option (Nat × Nat) := (nextL text (text.size + 1 - p) p).map fun q => (q, end2 text q)
theorem at2_hits (text : Array Nat) (q : Nat) (seen : Seen) (first : Bool) (hq : q < text.size) (h : text.getD q 0 = 10 ∨ text.getD q 0 = 13) : ∃ m', Comes (at2 text q seen first) m' 20 ∧ m'.outcome = some .matched ∧ m'.start = q ∧ m'.handed = end2 text q := by
  unfold end2
  by_cases hc : text.getD q 0 = 13 ∧ q + 1 < text.size ∧ text.getD (q + 1) 0 = 10
  · rw [if_pos hc]
    exact at2_crlf text q seen first hc.2.1 hc.1 hc.2.2
  · rw [if_neg hc]
    rcases h with h | h
    · exact at2_lf text q seen first hq h
    · exact at2_cr text q seen first hq h fun a b => hc ⟨h, a, b⟩
theorem finds2 (text : Array Nat) (p : Nat) : Finds code2 text p (if p < text.size then next2 text p else none) 30 := by
  unfold Finds
  have h1 : (header code2).1 = 1 := by decide
  by_cases h : p < text.size
  · rw [if_pos h]
    unfold next2
    let m₀ : M := { code := code2, text := text, lim := text.size, start := p, lastStart := text.size, pc := 10, pos := p, handed := p, marks := Array.replicate (2 * 0) none, seen := ({} : Seen).add 14 }
    have e0 : forSearch code2 text 0 p text.size false = m₀.attemptFrom p true := by
      unfold forSearch
      rw [if_neg (by rw [Bool.or_eq_true, decide_eq_true_eq, decide_eq_true_eq, h1]; omega)]
      rfl
    rw [e0]
    obtain ⟨seen', ea⟩ := admitted2 (m := m₀) rfl rfl (text.size + 1 - p) p (({} : Seen).add 14)
    have e1 : m₀.attemptFrom p true = match M.admitted m₀ (text.size + 1 - p) p (({} : Seen).add 14) with
      | .ok (some s, seen) => { m₀ with mustAdvance := false, seen := seen }.attemptAt s true
      | .ok (none, seen) => { m₀ with seen := seen }.say false
      | .error why => m₀.stick why := rfl
    rw [e1, ea]
    cases hn : nextL text (text.size + 1 - p) p with
    | none =>
      exact ⟨_, (Comes.step rfl rfl (Comes.refl _ 0)).mono (b := 30) (by omega), rfl⟩
    | some q =>
      obtain ⟨_, hq, hb, _⟩ := nextL_some hn
      obtain ⟨m', c, r⟩ := at2_hits text q seen' true hq hb
      exact ⟨m', c.mono (by omega), r⟩
  · rw [if_neg h]
    unfold forSearch
    rw [if_pos (by rw [Bool.or_eq_true, decide_eq_true_eq, decide_eq_true_eq, h1]; omega)]
    exact ⟨_, (Comes.step rfl rfl (Comes.refl _ 0)).mono (by omega), rfl⟩
end Mine
end
section
open PySem PySem.W PyProof.Rows PySem.Calls PySem.Builtin PySem.Builtin.Re
set_option maxRecDepth 100000
namespace Mine
theorem slot_re_sub : Slot "re.Pattern" "sub" "re.Pattern.sub" :=
  .of (owner := "re.Pattern") (n := "sub") (by rw [typeLookup_type, builtinLookup_eq_fast]; kernel_rfl) (by decide +kernel) (by decide +kernel) (by decide +kernel)
    (by first | exact .inl (by decide +kernel) | exact .inr (by decide +kernel)) (by rw [isSubtype_type]; kernel_rfl)
theorem type_re_sub : typeOf (.builtin "re.Pattern.sub") = pure (.type "method_descriptor") := by show builtinType _ = _; rw [builtinType_eq_fast]; kernel_rfl
theorem entry_re_sub : entryFor table "re.Pattern.sub" = some Builtin.«re.Pattern.sub» := entryFor_of_tree (by kernel_rfl)
theorem entry_re_loop : entryFor table "re.Pattern.sub.loop" = some Builtin.«re.Pattern.sub.loop» := entryFor_of_tree (by kernel_rfl)
theorem plainAttrs_re : PlainAttrs "re.Pattern" :=
  ⟨⟨"object.__getattribute__", by rw [typeLookup_type, builtinLookup_eq_fast]; kernel_rfl, by decide +kernel⟩, by rw [typeLookup_type, builtinLookup_eq_fast]; kernel_rfl⟩
theorem owner_re : Manifest.owners.lookup (String.ofList ['n', 'r', 'e', 't', 't', 'a', 'P', '.', 'e', 'r'].reverse) = some Manifest.sig_re_Pattern := by kernel_rfl
theorem args_re_sub_3 (a b c : Value) : argsOk "re.Pattern.sub" ⟨[a, b, c], []⟩ := by
  unfold argsOk; rw [signature?_of (id := "re.Pattern.sub") (n := ['b', 'u', 's']) (o := ['n', 'r', 'e', 't', 't', 'a', 'P', '.', 'e', 'r']) (by kernel_rfl) owner_re]; kernel_rfl
theorem plain_re_loop : plainId "re.Pattern.sub.loop" = true := by decide +kernel
section
variable {M : Model} {A : Around} {E : Value → Shared → Prop} {s : Shared}
theorem drive_ends {Q : Sre.M → Shared → Prop} {m' : Sre.M} (ho : m'.outcome.isSome = true) (hq : Q m' s) : ∀ (turns k : Nat) (m : Sre.M), Comes m m' k → k ≤ 4 * turns → 1 ≤ turns → wpAny M A (reDrive turns m) Q E s := by
  intro turns
  induction turns with
  | zero => intro k m _ _ h; omega
  | succ n ih =>
    intro k m c hk _
    unfold reDrive
    obtain ⟨j, hj, e⟩ := c
    cases h4 : (m.runFor reTurnSteps).outcome.isSome with
    | true =>
      have e4 : m.runFor reTurnSteps = m' := by
        unfold reTurnSteps at h4 ⊢
        rcases Nat.lt_or_ge 4 j with h | h
        · have e1 : j = 4 + (j - 4) := by omega
          rw [e1, runFor_add, runFor_done h4] at e
          exact e
        · have e1 : 4 = j + (4 - j) := by omega
          rw [e1, runFor_add, e, runFor_done ho]
      simp only [h4, if_true]
      rw [e4]
      exact wpAny_pure hq
    | false =>
      simp only [h4, Bool.false_eq_true, if_false]
      have hj4 : 4 < j := by
        rcases Nat.lt_or_ge 4 j with h | h
        · exact h
        · exfalso
          have e1 : 4 = j + (4 - j) := by omega
          unfold reTurnSteps at h4
          rw [e1, runFor_add, e, runFor_done ho, ho] at h4
          cases h4
      refine wpAny_bind (wpAny_rule ?_)
      refine ih (j - 4) _ ⟨j - 4, Nat.le_refl _, ?_⟩ (by omega) (by omega)
      have e1 : j = 4 + (j - 4) := by omega
      rw [e1, runFor_add] at e
      unfold reTurnSteps
      rw [← e]
theorem forIn_skips {Q : PUnit → Shared → Prop} {f : Nat → PUnit → Sem (ForInStep PUnit)} (hf : ∀ i u (Q : ForInStep PUnit → Shared → Prop), Q (.yield PUnit.unit) s → wpAny M A (f i u) Q E s) (hq : Q PUnit.unit s) : ∀ l : List Nat, wpAny M A (forIn l PUnit.unit f) Q E s
  | [] => wpAny_pure hq
  | i :: l => by
    rw [List.forIn_cons]
    exact wpAny_bind (hf i _ _ (forIn_skips hf hq l))
theorem run_ends {Q : Option Sre.M → Shared → Prop} {m m' : Sre.M} {k : Nat} (c : Comes m m' k) (hk : k ≤ 2 ^ 60) (ho : m'.outcome = some .matched ∧ Q (some m') s ∨ m'.outcome = some .failed ∧ Q none s) : wpAny M A (reRunToEnd m) Q E s := by
  unfold reRunToEnd
  have hs : m'.outcome.isSome = true := by
    rcases ho with ⟨h, _⟩ | ⟨h, _⟩ <;> rw [h] <;> rfl
  refine wpAny_bind (drive_ends hs ?_ (2 ^ 64) k m c (by omega) (by decide))
  refine wpAny_bind (forIn_skips ?_ ?_ _)
  · intro i u Q' hq
    split
    · exact wpAny_bind (wpAny_bind (wpAny_rule (wpAny_pure (wpAny_pure hq))))
    · exact wpAny_bind (wpAny_pure (wpAny_pure hq))
  · rcases ho with ⟨h, hq⟩ | ⟨h, hq⟩
    · rw [h]; exact wpAny_pure hq
    · rw [h]; exact wpAny_pure hq
end
end Mine
end
section
open PySem PySem.W PyProof.Rows PySem.Calls PySem.Builtin PySem.Builtin.Re
set_option maxRecDepth 100000
namespace Mine
/-- a text out of its signs -/
abbrev S (l : List Nat) : Str := ⟨l.toArray⟩
abbrev patObj (src : Value) (fl : Value) (ct : Addr) : Obj := { cls := .type "re.Pattern", data := .fields #[src, fl, .int 0 0, .none, .none, .ref ct, .int 0 0] }
section
variable {prog : Program} {w : World} {A : Around} {E : Value → Shared → Prop} {s : Shared} {h₀ : Heap} {L : Addr} {m : Str → Option Value} {news : Led}
theorem push_led {l : Addr} {its : Array Value} {k : Nat} {v : Value} {Q : Unit → Shared → Prop} (F : Fr h₀ L s.heap m) (N : News h₀ L s.heap ((l, listOf its k) :: news)) (hne : ∀ p ∈ news, p.1 ≠ l) (hz : its.size ≤ 1000000)
    (h : ∀ h', Fr h₀ L h' m → News h₀ L h' ((l, listOf (its.push v) (k + 1)) :: news) → Q () { s with heap := h' }) : wpAny (model prog w) A (updateSeq l (·.push v)) Q E s := by
  have z := N (l, listOf its k) (.head _)
  have hsl : sizeLine = 16777216 := sizeLine_eq
  refine wpAny_updateSeq z.1 rfl ?_ (by omega) (by rw [Array.size_push]; omega)
  have hg : (s.heap.update l (Obj.mapSeq (·.push v))).get? l = some (listOf (its.push v) (k + 1)) := by
    rw [Heap.get?_update_self _ z.1 (by rw [mapSeq_push]; rfl), mapSeq_push]
  exact h _ (F.change (Heap.SameBut.update ..) z.2.1 z.2.2) (news_set (pre := []) N (fun _ hp => nomatch hp) hne (Heap.SameBut.update ..) hg)
theorem whole_target {a ct : Addr} {src fl : Value} {x : Str} {t : Tok} {words : Array Value} {n : Nat} {oc : Obj} {Q : ReTarget → Shared → Prop} (hp : s.heap.get? a = some (patObj src fl ct)) (hc : s.heap.get? ct = some oc) (hd : oc.data = .seq words n)
    (h : Q ⟨.ref a, .str x t, (words.map reRawOf).map (·.toNat), x.cps, 0, 0, 0, x.cps.size⟩ s) : wpAny (model prog w) A (reWholeTarget (.ref a) (.str x t)) Q E s := by
  unfold reWholeTarget
  refine wpAny_bind (wpAny_fieldsOf hp rfl ?_)
  refine wpAny_bind (wpAny_pure ?_)
  dsimp only
  refine wpAny_bind (wpAny_pure ?_)
  refine wpAny_bind ?_
  show wpAny _ _ (do return ((← seqItems? (.ref ct)).getD #[]).map reRawOf) _ _ _
  refine wpAny_bind (wpAny_seqItems hc hd (wpAny_pure (wpAny_pure ?_)))
  exact h
end
/-- what the substitution gives from p on -/
def subOut (nx : Nat → Option (Nat × Nat)) (l r : List Nat) : (fuel p : Nat) → List Nat
  | 0, p => l.drop p
  | f + 1, p => match nx p with
    | none => l.drop p
    | some (b, e) => (l.drop p).take (b - p) ++ r ++ subOut nx l r f e
abbrev cat (ys : List Str) : List Nat := (ys.map fun y => y.cps.toList).flatten
theorem glued_none (z : Str) (hz : z.cps = #[]) (ys : List Str) : Txt.join z ys = S (cat ys) := by
  show Builtin.Str.glued z ys = _
  rw [StrLaws.glued_eq_join]
  have key : ∀ ys : List Str, (Str.join z ys).cps.toList = cat ys := by
    intro ys
    induction ys with
    | nil => rfl
    | cons y r ih =>
      cases r with
      | nil => simp [Str.join, cat]
      | cons y' r' =>
        show (y ++ z ++ Str.join z (y' :: r')).cps.toList = _
        rw [Str.cps_append, Str.cps_append, hz]
        simp only [Array.toList_append, ih, cat, List.map_cons, List.flatten_cons]
        simp
  exact StrLaws.mk_of_toList (key ys)
theorem slice_toList (x : Str) (b e : Nat) : (x.cps.extract b e).toList = (x.cps.toList.drop b).take (e - b) := by
  simp [Array.toList_extract]
theorem slice_len (x : Str) (b e : Nat) : (⟨x.cps.extract b e⟩ : Str).length ≤ e - b := by
  show (x.cps.extract b e).size ≤ e - b
  rw [Array.size_extract]
  omega
theorem strsAre_snoc {y : Str} {t : Tok} : ∀ {vs : List Value} {ys : List Str}, StrsAre vs ys → StrsAre (vs ++ [.str y t]) (ys ++ [y])
  | _, _, .nil => .cons y t .nil
  | _, _, .cons z u r => .cons z u (strsAre_snoc r)
section
variable {prog : Program} {w : World} {A : Around} {h₀ : Heap} {L : Addr} {m : Str → Option Value} {news : Led}
theorem sub_fin {A : Around} {E : Value → Shared → Prop} {s : Shared} {l : Addr} {x : Str} {its : List Value} {ys : List Str} {k n : Nat} {Q : PySem.Fin → Shared → Prop} (F : Fr h₀ L s.heap m) (N : News h₀ L s.heap ((l, listOf its.toArray k) :: news)) (hsa : StrsAre its ys) (hys : (ys.map (·.length)).sum ≤ 1000000)
    (h : ∀ tk' t', Q (.done (.ret (.str (S (cat ys)) t'))) { s with toks := tk' }) :
    wpAny (model prog w) A (do
      let joiner ← reSlice x.cps 0 0 0
      let __do_lift ← seqItems? (Value.ref l)
      if (__do_lift.getD #[]).isEmpty = true then do
          let text ← pure joiner
          if false = true then do
              let __do_lift ←
                holding [text] do
                    let __do_lift ← mkInt (n : Int)
                    newTuple [text, __do_lift]
              ret __do_lift
            else ret text
        else do
          let text ← call (Value.builtin (if (0 == 0) = true then "str.join" else "bytes.join")) [joiner, Value.ref l]
          if false = true then do
              let __do_lift ←
                holding [text] do
                    let __do_lift ← mkInt (n : Int)
                    newTuple [text, __do_lift]
              ret __do_lift
            else ret text) Q E s := by
  have hsl : sizeLine = 16777216 := sizeLine_eq
  have e0 : (⟨x.cps.extract 0 0⟩ : Str).cps = #[] := by simp
  refine wpAny_bind ?_
  show wpAny _ _ (mkStr ⟨x.cps.extract 0 0⟩) _ _ _
  refine wpAny_mkStr ?_ (by have := slice_len x 0 0; omega)
  refine wpAny_bind (wpAny_seqItems (N _ (.head _)).1 rfl ?_)
  rw [Option.getD_some]
  by_cases he : its.toArray.isEmpty = true
  · rw [if_pos he]
    have hi : its = [] := by simpa using he
    subst hi
    cases hsa
    refine wpAny_bind (wpAny_pure ?_)
    refine wpAny_pure ?_
    have q := h (s.toks + 1) s.toks
    have e1 : (⟨x.cps.extract 0 0⟩ : Str) = S (cat []) := by
      apply Str.ext'
      rw [e0]
      rfl
    rw [e1]
    exact q
  · rw [if_neg he]
    refine wpAny_bind ?_
    show wpAny _ _ (call (Value.builtin "str.join") _) _ _ _
    refine join_list (News.isList N (.head _)) (by simpa using hsa) ?_ ?_
    · have : (⟨x.cps.extract 0 0⟩ : Str).length = 0 := by show (x.cps.extract 0 0).size = 0; simp
      rw [this]
      omega
    · intro t' k'
      rw [glued_none _ e0]
      exact wpAny_pure (h k' t')
set_option maxHeartbeats 1000000 in
theorem sub_loop {a ct l : Addr} {src fl : Value} {x r : Str} {t u : Tok} {words : Array Value} {nn K : Nat} {oc : Obj} {code : Array Nat} {nx : Nat → Option (Nat × Nat)} {R : Result → Shared → Prop}
    (hp : h₀.get? a = some (patObj src fl ct)) (hc : h₀.get? ct = some oc) (hd : oc.data = .seq words nn) (hcode : (words.map reRawOf).map (·.toNat) = code)
    (hfind : ∀ p, Finds code x.cps p (nx p) K) (hK : K ≤ 2 ^ 60) (hnx : ∀ p b e, nx p = some (b, e) → p ≤ b ∧ b < e ∧ e ≤ x.cps.size) (hx : x.cps.size ≤ 2000) (hr : r.length ≤ 4) (hne : ∀ p ∈ news, p.1 ≠ l) :
    ∀ (f p n : Nat) (its : List Value) (k : Nat) (ys : List Str) (s : Shared), x.cps.size < p + f → p ≤ x.cps.size → StrsAre its ys → its.length ≤ 2 * p → (ys.map (·.length)).sum ≤ 5 * p →
      Fr h₀ L s.heap m → News h₀ L s.heap ((l, listOf its.toArray k) :: news) →
      (∀ h' tk' t', Fr h₀ L h' m → News h₀ L h' news → R (.ok (.ret (.str (S (cat ys ++ subOut nx x.cps.toList r.cps.toList f p)) t'))) { s with heap := h', toks := tk' }) →
      codeAny (model prog w) A (.builtin "re.Pattern.sub.loop" ⟨[.ref a, .str x t, .str r u, rawInt 0, rawInt 0, rawInt n, rawInt p, rawInt p, .bool false, .ref l, .bool false], []⟩) R s := by
  have hsl : sizeLine = 16777216 := sizeLine_eq
  intro f
  induction f with
  | zero => intro p n its k ys s h1 h2; omega
  | succ f ih =>
    intro p n its k ys s hf hpx hsa hit hys F N hR
    refine codeAny_builtin entry_re_loop ?_
    unfold Builtin.«re.Pattern.sub.loop»
    dsimp only [rawInt]
    refine wpAny_bind (whole_target (F.keep _ _ hp) (F.keep _ _ hc) hd ?_)
    rw [hcode]
    refine wpAny_bind (wpAny_pure ?_)
    show wpAny _ _ (reNextFound _ _ _ >>= _) _ _ _
    refine wpAny_bind ?_
    unfold reNextFound
    dsimp only
    have e0 : (p : Int).toNat = p := Int.toNat_natCast p
    rw [e0]
    obtain ⟨m', hcm, hm⟩ := hfind p
    cases hn : nx p with
    | none =>
      rw [hn] at hm
      refine run_ends hcm hK (.inr ⟨hm, ?_⟩)
      dsimp only
      have hR' : ∀ h' tk' t', Fr h₀ L h' m → News h₀ L h' news → R (.ok (.ret (.str (S (cat ys ++ x.cps.toList.drop p)) t'))) { s with heap := h', toks := tk' } := by
        intro h' tk' t' F' N'
        have q := hR h' tk' t' F' N'
        unfold subOut at q
        rw [hn] at q
        exact q
      rcases Nat.lt_or_ge p x.cps.size with hlt | hge
      · rw [if_pos hlt]
        refine wpAny_bind ?_
        show wpAny _ _ (mkStr ⟨x.cps.extract p x.cps.size⟩) _ _ _
        have hsl2 := slice_len x p x.cps.size
        refine wpAny_mkStr ?_ (by omega)
        refine wpAny_bind (push_led F N hne (by rw [List.size_toArray]; omega) ?_)
        intro h' F' N'
        rw [List.push_toArray] at N'
        refine sub_fin F' N' (strsAre_snoc hsa) ?_ ?_
        · simp only [List.map_append, List.sum_append, List.map_cons, List.map_nil, List.sum_cons, List.sum_nil]
          omega
        · intro tk' t'
          have e3 : cat (ys ++ [⟨x.cps.extract p x.cps.size⟩]) = cat ys ++ x.cps.toList.drop p := by
            simp only [cat, List.map_append, List.flatten_append, List.map_cons, List.map_nil, List.flatten_cons, List.flatten_nil, List.append_nil, slice_toList]
            rw [List.take_of_length_le (by simp)]
          rw [e3]
          exact hR' h' tk' t' F' fun q hq => N' q (.tail _ hq)
      · rw [if_neg (by omega)]
        refine sub_fin F N hsa (by omega) ?_
        intro tk' t'
        have q := hR' s.heap tk' t' F fun q hq => N q (.tail _ hq)
        rw [List.drop_of_length_le (by simp; omega), List.append_nil] at q
        exact q
    | some be =>
      obtain ⟨b, e⟩ := be
      rw [hn] at hm
      obtain ⟨hm1, hm2, hm3⟩ := hm
      refine run_ends hcm hK (.inl ⟨hm1, ?_⟩)
      dsimp only
      obtain ⟨hb1, hb2, hb3⟩ := hnx p b e hn
      rw [hm2, hm3]
      have hbe : (e == b) = false := by simp; omega
      rw [hbe]
      have hR' : ∀ h' tk' t', Fr h₀ L h' m → News h₀ L h' news → R (.ok (.ret (.str (S (cat ys ++ ((x.cps.toList.drop p).take (b - p) ++ r.cps.toList ++ subOut nx x.cps.toList r.cps.toList f e))) t'))) { s with heap := h', toks := tk' } := by
        intro h' tk' t' F' N'
        have q := hR h' tk' t' F' N'
        unfold subOut at q
        rw [hn] at q
        exact q
      rcases Nat.lt_or_ge p b with hlt | hge
      · rw [if_pos hlt]
        refine wpAny_bind ?_
        show wpAny _ _ (mkStr ⟨x.cps.extract p b⟩) _ _ _
        have hsl2 := slice_len x p b
        refine wpAny_mkStr ?_ (by omega)
        refine wpAny_bind (push_led F N hne (by rw [List.size_toArray]; omega) ?_)
        intro h' F' N'
        rw [List.push_toArray] at N'
        refine wpAny_bind (wpAny_pure ?_)
        refine wpAny_bind (push_led F' N' hne (by rw [List.size_toArray, List.length_append, List.length_singleton]; omega) ?_)
        intro h'' F'' N''
        rw [List.push_toArray] at N''
        refine wpAny_pure ⟨plainId_quiet plain_re_loop _, ?_⟩
        refine ih e (n + 1) _ _ _ _ (by omega) hb3 (strsAre_snoc (strsAre_snoc hsa)) (by simp only [List.length_append, List.length_singleton]; omega) ?_ F'' N'' ?_
        · simp only [List.map_append, List.sum_append, List.map_cons, List.map_nil, List.sum_cons, List.sum_nil]
          omega
        · intro h3 tk' t' F3 N3
          have q := hR' h3 tk' t' F3 N3
          simp only [cat, List.map_append, List.flatten_append, List.map_cons, List.map_nil, List.flatten_cons, List.flatten_nil, List.append_nil, slice_toList, List.append_assoc] at q ⊢
          exact q
      · rw [if_neg (by omega)]
        refine wpAny_bind (wpAny_pure ?_)
        refine wpAny_bind (push_led F N hne (by rw [List.size_toArray]; omega) ?_)
        intro h'' F'' N''
        rw [List.push_toArray] at N''
        refine wpAny_pure ⟨plainId_quiet plain_re_loop _, ?_⟩
        refine ih e (n + 1) _ _ _ _ (by omega) hb3 (strsAre_snoc hsa) (by simp only [List.length_append, List.length_singleton]; omega) ?_ F'' N'' ?_
        · simp only [List.map_append, List.sum_append, List.map_cons, List.map_nil, List.sum_cons, List.sum_nil]
          omega
        · intro h3 tk' t' F3 N3
          have q := hR' h3 tk' t' F3 N3
          have e0 : b - p = 0 := by omega
          rw [e0, List.take_zero, List.nil_append] at q
          simp only [cat, List.map_append, List.flatten_append, List.map_cons, List.map_nil, List.flatten_cons, List.flatten_nil, List.append_nil, List.append_assoc] at q ⊢
          exact q
end
end Mine
end
section
open PySem PySem.W PyProof.Rows PySem.Calls PySem.Builtin PySem.Builtin.Re
set_option maxRecDepth 100000
namespace Mine
theorem no_call_str : typeLookup (.type "str") "__call__" = pure none := by rw [typeLookup_type, builtinLookup_eq_fast]; kernel_rfl
section
variable {prog : Program} {w : World} {A : Around} {E : Value → Shared → Prop} {s : Shared} {h₀ : Heap} {L : Addr} {m : Str → Option Value} {news : Led}
theorem sub_call {a ct : Addr} {src fl : Value} {x r : Str} {t u : Tok} {words : Array Value} {nn K : Nat} {oc : Obj} {code : Array Nat} {nx : Nat → Option (Nat × Nat)} {Q : Value → Shared → Prop}
    (F : Fr h₀ L s.heap m) (N : News h₀ L s.heap news)
    (hp : h₀.get? a = some (patObj src fl ct)) (hc : h₀.get? ct = some oc) (hd : oc.data = .seq words nn) (hcode : (words.map reRawOf).map (·.toNat) = code)
    (hfind : ∀ p, Finds code x.cps p (nx p) K) (hK : K ≤ 2 ^ 60) (hnx : ∀ p b e, nx p = some (b, e) → p ≤ b ∧ b < e ∧ e ≤ x.cps.size) (hx : x.cps.size ≤ 2000) (hr : r.length ≤ 4) (hrl : r.cps.contains 92 = false)
    (h : ∀ h' tk' t', Fr h₀ L h' m → News h₀ L h' news → Q (.str (S (subOut nx x.cps.toList r.cps.toList (x.cps.size + 1) 0)) t') { s with heap := h', toks := tk' }) :
    wpAny (model prog w) A (call (.builtin "re.Pattern.sub") [.ref a, .str r u, .str x t]) Q E s := by
  refine wpAny_call (codeAny_call_builtin slot_re_sub.plain entry_re_sub (slot_re_sub.check _ _ _ _ _ _ _ _ ⟨_, F.keep _ _ hp, rfl⟩ (args_re_sub_3 _ _ _) ?_))
  show wpAny _ _ (reSubstitute "re.Pattern.sub" "sub" false ⟨[.ref a, .str r u, .str x t], []⟩) _ _ _
  unfold reSubstitute
  dsimp only
  have e1 : reNamed "re.Pattern.sub" "sub" ["repl", "string", "count"] 2 [.str r u, .str x t] [] = pure [some (.str r u), some (.str x t), none] := by rfl
  rw [e1]
  refine wpAny_bind (wpAny_pure ?_)
  dsimp only
  refine wpAny_bind (wpAny_pure ?_)
  refine wpAny_bind (wpAny_specialOf (typeIs_str _ _ _) no_call_str ?_)
  dsimp only [Option.isSome]
  rw [if_neg Bool.false_ne_true]
  refine wpAny_bind (wpAny_pure ?_)
  dsimp only
  refine wpAny_bind (wpAny_pure ?_)
  rw [hrl, if_neg Bool.false_ne_true, Bool.not_false, if_pos rfl]
  refine wpAny_bind (wpAny_pure ?_)
  refine wpAny_bind (wpAny_holding (whole_target (F.keep _ _ hp) (F.keep _ _ hc) hd ?_))
  dsimp only
  rw [if_neg (by decide)]
  refine wpAny_bind (wpAny_newList ?_ (by decide))
  refine wpAny_pure ⟨plainId_quiet plain_re_loop _, ?_⟩
  have F' : Fr h₀ L (s.heap.push { cls := .type "list", data := .seq [].toArray }) m := F.push _
  have N' : News h₀ L (s.heap.push { cls := .type "list", data := .seq [].toArray }) ((s.heap.objs.size, listOf ([] : List Value).toArray 0) :: news) := N.push F _
  exact sub_loop (s := { s with heap := s.heap.push { cls := .type "list", data := .seq [].toArray } }) hp hc hd hcode hfind hK hnx hx hr (fun p hp' => Nat.ne_of_lt (Heap.lt_size (N p hp').1)) (x.cps.size + 1) 0 0 [] 0 [] (by omega) (by omega) .nil (by simp) (by simp) F' N'
    (fun h' tk' t' F1 N1 => h h' tk' t' F1 N1)
end
theorem next1_some {text : Array Nat} : ∀ {f p b e : Nat}, next1 text f p = some (b, e) → p ≤ b ∧ e = b + 1 ∧ b < text.size
  | 0, _, _, _, h => by cases h
  | f + 1, p, b, e, h => by
    unfold next1 at h
    by_cases h1 : hit1 text p = true
    · rw [if_pos h1] at h
      cases h
      refine ⟨Nat.le_refl _, rfl, ?_⟩
      unfold hit1 at h1
      simp only [Bool.and_eq_true, decide_eq_true_eq] at h1
      exact h1.2.1
    · rw [if_neg h1] at h
      obtain ⟨x, y, z⟩ := next1_some h
      exact ⟨by omega, y, z⟩
def nx1 (text : Array Nat) (p : Nat) : Option (Nat × Nat) := if p < text.size then next1 text (text.size + 1 - p) p else none
def nx2 (text : Array Nat) (p : Nat) : Option (Nat × Nat) := if p < text.size then next2 text p else none
theorem nx1_ok {text : Array Nat} (p b e : Nat) (h : nx1 text p = some (b, e)) : p ≤ b ∧ b < e ∧ e ≤ text.size := by
  unfold nx1 at h
  by_cases hp : p < text.size
  · rw [if_pos hp] at h
    obtain ⟨x, y, z⟩ := next1_some h
    omega
  · rw [if_neg hp] at h; cases h
theorem nx2_ok {text : Array Nat} (p b e : Nat) (h : nx2 text p = some (b, e)) : p ≤ b ∧ b < e ∧ e ≤ text.size := by
  unfold nx2 at h
  by_cases hp : p < text.size
  · rw [if_pos hp] at h
    unfold next2 at h
    cases hn : nextL text (text.size + 1 - p) p with
    | none => rw [hn] at h; cases h
    | some q =>
      rw [hn] at h
      obtain ⟨x, y, z, _⟩ := nextL_some hn
      simp only [Option.map_some, Option.some.injEq, Prod.mk.injEq] at h
      obtain ⟨rfl, rfl⟩ := h
      unfold end2
      by_cases hc : text.getD q 0 = 13 ∧ q + 1 < text.size ∧ text.getD (q + 1) 0 = 10
      · rw [if_pos hc]
        have := hc.2.1
        omega
      · rw [if_neg hc]
        omega
  · rw [if_neg hp] at h; cases h
/-- the two substitutions over signs -/
def sub1S (x : Str) : Str := S (subOut (nx1 x.cps) x.cps.toList [46, 46] (x.cps.size + 1) 0)
def sub2S (x : Str) : Str := S (subOut (nx2 x.cps) x.cps.toList [13, 10] (x.cps.size + 1) 0)
section
variable {prog : Program} {w : World} {A : Around} {E : Value → Shared → Prop} {s : Shared} {h₀ : Heap} {L : Addr} {m : Str → Option Value} {news : Led}
theorem method_re {a ct : Addr} {src fl : Value} {pl : Sem Bool} {Q : Value × List Value → Shared → Prop} (F : Fr h₀ L s.heap m) (hp : h₀.get? a = some (patObj src fl ct)) (h : Q (.builtin "re.Pattern.sub", [.ref a]) s) :
    wpAny (model prog w) A (getMethod (.ref a) "sub" pl) Q E s :=
  getMethod_builtin ⟨_, F.keep _ _ hp, rfl⟩ plainAttrs_re slot_re_sub type_re_sub (fun a e => by cases e; exact ⟨_, F.keep _ _ hp, rfl⟩) h
theorem sub1_call {x : Str} {t u : Tok} {Q : Value → Shared → Prop} (F : Fr h₀ L s.heap m) (X : (Mine.hd.heap_39 w.params).In h₀) (N : News h₀ L s.heap news) (hx : x.length ≤ 2000)
    (h : ∀ h' tk' t', Fr h₀ L h' m → News h₀ L h' news → Q (.str (sub1S x) t') { s with heap := h', toks := tk' }) :
    wpAny (model prog w) A (call (.builtin "re.Pattern.sub") [.ref 36, .str (Str.ofString "..") u, .str x t]) Q E s := by
  have e : (Str.ofString "..").cps.toList = [46, 46] := by decide +kernel
  refine sub_call (K := 3 * x.cps.size + 10) (code := code1) (nx := nx1 x.cps) F N (X 36 _ rfl) (X 35 _ rfl) rfl (by decide +kernel) (fun p => finds1 x.cps p) (by have : x.cps.size ≤ 2000 := hx; omega) nx1_ok hx (by decide +kernel) (by decide +kernel) ?_
  intro h' tk' t' F' N'
  rw [e]
  exact h h' tk' t' F' N'
theorem sub2_call {x : Str} {t u : Tok} {Q : Value → Shared → Prop} (F : Fr h₀ L s.heap m) (X : (Mine.hd.heap_39 w.params).In h₀) (N : News h₀ L s.heap news) (hx : x.length ≤ 2000)
    (h : ∀ h' tk' t', Fr h₀ L h' m → News h₀ L h' news → Q (.str (sub2S x) t') { s with heap := h', toks := tk' }) :
    wpAny (model prog w) A (call (.builtin "re.Pattern.sub") [.ref 41, .str (Str.ofString "\r\n") u, .str x t]) Q E s := by
  have e : (Str.ofString "\r\n").cps.toList = [13, 10] := by decide +kernel
  refine sub_call (K := 30) (code := code2) (nx := nx2 x.cps) F N (X 41 _ rfl) (X 40 _ rfl) rfl (by decide +kernel) (fun p => finds2 x.cps p) (by decide) nx2_ok hx (by decide +kernel) (by decide +kernel) ?_
  intro h' tk' t' F' N'
  rw [e]
  exact h h' tk' t' F' N'
end
end Mine
end
section
open PySem PySem.W PyProof.Rows PySem.Calls
namespace Mine
set_option maxRecDepth 100000
def quoteS (x : Str) : Str := sub1S (sub2S x)
def crlfS : Str := Str.ofString "\r\n"
/-- a mail as it is sent -/
def sentS (x : Str) : Str := (if (Txt.slice (quoteS x) (some (-2)) none != Str.ofString "\r\n") = true then quoteS x ++ Str.ofString "\r\n" else quoteS x) ++ Str.ofString ".\r\n"
end Mine
end
section
open PySem PySem.W PyProof.Rows PySem.Calls PySem.Builtin PySem.Builtin.Str
set_option maxRecDepth 100000
namespace Mine
theorem gives_count4 (x y : Str) (i j : Int) (t u v z : Tok) : Gives («str.count» ⟨[.str x t, .str y u, .int i v, .int j z], []⟩) (.int (occurrences x y (fromIndex x.length i) (min (fromIndex x.length j) x.length) (x.length + 1)).length) := by
  show Gives (retInt (occurrences x y (fromIndex x.length i) (min (fromIndex x.length j) x.length) (x.length + 1)).length) _
  exact .of_eq rfl
theorem gives_rindex4 (x y : Str) (i j : Int) (k : Nat) (t u v z : Tok) (h : lastOccurrence x y (fromIndex x.length i) (min (fromIndex x.length j) x.length) = some k) : Gives («str.rindex» ⟨[.str x t, .str y u, .int i v, .int j z], []⟩) (.int k) := by
  show Gives (match lastOccurrence x y (fromIndex x.length i) (min (fromIndex x.length j) x.length) with | some i => retInt i | none => (do rule "str.rindex.not-found"; raiseError "ValueError" "substring not found")) _
  rw [h]
  exact .of_eq rfl
theorem gives_index3 (x y : Str) (i : Int) (k : Nat) (rest : List Nat) (t u v : Tok) (h : occurrences x y (fromIndex x.length i) x.length 1 = k :: rest) : Gives («str.index» ⟨[.str x t, .str y u, .int i v], []⟩) (.int k) := by
  show Gives (match occurrences x y (fromIndex x.length i) (min x.length x.length) 1 with | i :: _ => retInt i | [] => (do rule "str.index.not-found"; raiseError "ValueError" "substring not found")) _
  rw [Nat.min_self, h]
  exact .of_eq rfl
theorem raises_index3 (x y : Str) (i : Int) (t u v : Tok) (h : occurrences x y (fromIndex x.length i) x.length 1 = []) : Meets («str.index» ⟨[.str x t, .str y u, .int i v], []⟩) (raisesNew "ValueError") := by
  intro prog w A R s hS
  show wpAny _ _ (match occurrences x y (fromIndex x.length i) (min x.length x.length) 1 with | i :: _ => retInt i | [] => _) _ _ s
  rw [Nat.min_self, h]
  first
    | exact wpAny_bind (wpAny_rule (by exact_raiseError plainExc_ValueError hS.1 hS.2))
    | exact wpAny_bind (wpAny_rule (wpAny_bind (by exact_raiseError plainExc_ValueError hS.1 hS.2)))
theorem fromIndex_nat (n k : Nat) : fromIndex n (k : Int) = k := by
  unfold fromIndex
  rw [if_neg (by omega)]
  omega
section
variable {prog : Program} {w : World} {A : Around} {E : Value → Shared → Prop} {s : Shared} {x y : Str} {t u v z : Tok} {Q : Value → Shared → Prop}
theorem count4_call {i j : Nat} (hj : j ≤ x.length) (h : Q (.int (occurrences x y i j (x.length + 1)).length s.toks) { s with toks := s.toks + 1 }) : wpAny (model prog w) A (call (.builtin "str.count") [.str x t, .str y u, .int (i : Int) v, .int (j : Int) z]) Q E s := by
  refine call_gives F.slot_str_count (typeIs_str _ _ _) F.entry_str_count (F.args_str_count_4 _ _ _ _) (gives_count4 x y i j t u v z) ?_
  rw [fromIndex_nat, fromIndex_nat, Nat.min_eq_left hj]
  exact h
theorem rindex4_call {i j k : Nat} (hj : j ≤ x.length) (hk : lastOccurrence x y i j = some k) (h : Q (.int (k : Int) s.toks) { s with toks := s.toks + 1 }) : wpAny (model prog w) A (call (.builtin "str.rindex") [.str x t, .str y u, .int (i : Int) v, .int (j : Int) z]) Q E s :=
  call_gives F.slot_str_rindex (typeIs_str _ _ _) F.entry_str_rindex (F.args_str_rindex_4 _ _ _ _) (gives_rindex4 x y i j k t u v z (by rw [fromIndex_nat, fromIndex_nat, Nat.min_eq_left hj]; exact hk)) h
theorem index3_call {i k : Nat} {rest : List Nat} (hk : occurrences x y i x.length 1 = k :: rest) (h : Q (.int (k : Int) s.toks) { s with toks := s.toks + 1 }) : wpAny (model prog w) A (call (.builtin "str.index") [.str x t, .str y u, .int (i : Int) v]) Q E s :=
  call_gives F.slot_str_index (typeIs_str _ _ _) F.entry_str_index (F.args_str_index_3 _ _ _) (gives_index3 x y i k rest t u v (by rw [fromIndex_nat]; exact hk)) h
theorem index3_raise {i : Nat} (hA : A.handled = none) (hk : occurrences x y i x.length 1 = []) (h : ∀ h' tk e, Heap.NewExc s.heap h' e "ValueError" → E (.ref e) { s with heap := h', toks := tk }) : wpAny (model prog w) A (call (.builtin "str.index") [.str x t, .str y u, .int (i : Int) v]) Q E s :=
  call_meets F.slot_str_index (typeIs_str _ _ _) F.entry_str_index (F.args_str_index_3 _ _ _) (raises_index3 x y i t u v (by rw [fromIndex_nat]; exact hk)) ⟨hA, h⟩
end
end Mine
end
section
open PySem PySem.W PyProof.Rows PySem.Calls
namespace Mine
set_option maxRecDepth 100000
abbrev frs (l : List Env) : List Addr := l.filterMap (·.frame)
theorem frs_mem {env : Env} {L b : Addr} {outer : List Env} (hf : env.frame = some L) (hm : b ∈ frs (env :: outer)) : b = L ∨ b ∈ frs outer := by
  obtain ⟨env', he, hf'⟩ := List.mem_filterMap.mp hm
  rcases List.mem_cons.mp he with rfl | he
  · exact .inl (Option.some.inj (hf'.symm.trans hf))
  · exact .inr (List.mem_filterMap.mpr ⟨env', he, hf'⟩)
section
variable {A₀ A : Around} {base h₀ g g₁ : Heap} {outer : List Env} {env : Env} {L : Addr} {m : Str → Option Value}
/-- the frames under this one turned: so did the ground of the frame that called -/
theorem turn_back (B : Below A₀ base outer h₀) (FG : Fr h₀ L g m) (hf : env.frame = some L) (Tg : KtsTurn (frs (env :: outer)) g g₁) :
    ∃ h₁, KtsTurn (frs outer) h₀ h₁ ∧ Fr h₁ L g₁ m ∧ Below A₀ base outer h₁ := by
  have nL₀ : h₀.get? L = none := kts_self FG
  obtain ⟨oL, es, ep, hL, hLd, hLk, hLf⟩ := FG.ns
  obtain ⟨sl, hs⟩ := Tg.up hL
  obtain ⟨T₁, S₁⟩ := kts_turn_at (h := g₁) (fs := frs outer) (g := h₀)
    (fun b hb => by
      obtain ⟨_, o, ho', _⟩ := B.frames.mem hb
      exact ⟨o, ho'⟩)
    (fun b o e nmem => Tg.other b o (FG.keep b o e) (fun q => by
      rcases frs_mem hf q with z | z
      · rw [z, nL₀] at e
        cases e
      · exact nmem z))
    (fun b o e _ => Tg.up (FG.keep b o e))
  refine ⟨_, T₁, ⟨⟨_, es, ep, hs, hLd, hLk, hLf⟩, S₁, by rw [T₁.size]; exact FG.above⟩, ⟨B.stack, fun b o e => T₁.other b o (B.stays b o e) (fun hm => by
    rw [(B.frames.mem hm).1] at e
    cases e), B.frames.of_keeps fun b o e _ => by
    obtain ⟨sl', hs'⟩ := T₁.up e
    exact ⟨_, hs', rfl⟩⟩⟩
end
/-- the end of a def whose ground may have turned -/
def LeaveT (fs : List Addr) (A₀ : Around) (base : Heap) (outer : List Env) (K : Frag) (p : Program) (loose : List Str) (mean : ExcName → Option Value) (mg mb : Str → Option Value) (h₀ : Heap) (L : Addr) (m : Str → Option Value) (g : Heap) (R : Result → Shared → Prop) (v : Value) (s' : Shared) : Prop :=
  ∃ g' L' m' news', KtsTurn fs g g' ∧ Fr g' L' s'.heap m' ∧ News g' L' s'.heap news' ∧ ∀ h₁, KtsTurn (frs outer) h₀ h₁ → Fr h₁ L s'.heap m → News h₁ L s'.heap news' → Below A₀ base outer h₁ → K.In h₁ → Top p loose mean mg mb h₁ →
    KtsDicts (frs outer) h₁ → R (.ok (.ret v)) s'
section
variable {prog : Program} {w : World} {A₀ A : Around} {s : Shared} {base h₀ : Heap} {outer : List Env} {L : Addr} {m : Str → Option Value} {env : Env} {news : List (Addr × Obj)} {K : Frag} {p : Program} {loose : List Str} {mean : ExcName → Option Value} {mg mb : Str → Option Value}
    {R : Result → Shared → Prop} {name qual : Str} {params : Arguments} {body : List Stmt} {scope : Scope} {dV kV doc pm cdv ct oc : Value} {an od : Option Addr} {osl : Array (Option Value)} {f : Addr} {args : Args} {binds : List (Str × Value)}
theorem code_defT (B : Below A₀ base outer h₀) (F : Fr h₀ L s.heap m) (X₀ : K.In h₀) (N : News h₀ L s.heap news) (T : Top p loose mean mg mb h₀) (XB : K.In base) (TB : Top p loose mean mg mb base) (D : KtsDicts (frs outer) h₀)
    (hA : A.frames = some (env :: outer)) (hf : env.frame = some L) (hke : env.scope.kind = .function)
    (ho : K.lookup f = some ⟨oc, od, .func (fnOf name qual params body scope dV kV doc pm an cdv ct), osl⟩) (hcd : codeIn K cdv qual = true) (hroom : A.depth < recursionLimit)
    (hbind : BindsTo s (fnOf name qual params body scope dV kV doc pm an cdv ct) args binds) (hloc : ∀ y ∈ binds, scope.names.lookup y.1 = some .local)
    (h : ∀ g L' h₁, Fr h₀ L g m → Fr g L' h₁ (fun y => binds.reverse.lookup y) → News g L' h₁ news → Below A base (env :: outer) g → K.In g → Top p loose mean mg mb g → KtsDicts (frs (env :: outer)) g →
      wpAny (model prog w) (A.deeper (envOf qual scope L' f cdv)) (execs body (envOf qual scope L' f cdv))
        (fun fl s' => LeaveT (frs (env :: outer)) A₀ base outer K p loose mean mg mb h₀ L m g R (match fl with | .ret v => v | _ => .none) s')
        (fun e s' => wpAny (model prog w) (A.deeper (envOf qual scope L' f cdv)) (leaving (envOf qual scope L' f cdv) e) (fun _ s'' => R (.error e) s'') (fun e' s'' => R (.error e') s'') s')
        { s with heap := h₁, toks := s.toks + binds.length })
    (hco : scope.isCoroutine = false) (hgen : scope.isGenerator = false) (hk : scope.kind = .function)
    (hcell : ∀ x ∈ scope.names, x.2 ≠ .cell) : codeAny (model prog w) A (.call (.ref f) args) R s := by
  have X := X₀.keeps F.keep
  obtain ⟨FG, BG, st, _⟩ := groundX (R := R) B F N hA hf hke
  refine codeAny_call_def (fd := fnOf name qual params body scope dV kV doc pm an cdv ct) (body := body) (binds := binds) hroom (X _ _ ho) rfl (T.nolimit.keeps F.keep) (codeRec_of X hcd) rfl hbind hcell hloc (fun h₁ hns hk₁ => ?_) hco hgen hk
  refine wpAny_mono (h _ s.heap.objs.size h₁ FG ⟨hns, fun b o e => hk₁ b o (of_hideAll _ e), Nat.le_of_eq (hideAll_size _ _)⟩
    (fun p hp => ⟨hk₁ _ _ (N p hp).1, Nat.ne_of_lt (Heap.lt_size (N p hp).1), hideAll_none _ (List.mem_map_of_mem hp)⟩) BG (X₀.keeps st) (T.keeps st) (fun b hb => by
      rcases frs_mem hf hb with rfl | hb
      · obtain ⟨oL, es, ep, hL, hLd, _⟩ := FG.ns
        exact ⟨oL, es, ep, hL, hLd⟩
      · obtain ⟨o, es', n', ho', hd'⟩ := D b hb
        exact ⟨o, es', n', st b o ho', hd'⟩)) (fun fl s' hl => ?_) fun _ _ y => y
  obtain ⟨g', L', m', news', T', F', N', k⟩ := hl
  obtain ⟨h₂, T₂, F₂, B₂⟩ := turn_back B FG hf T'
  refine k h₂ T₂ ⟨by
    obtain ⟨oL, es, ep, hL, r⟩ := F₂.ns
    exact ⟨oL, es, ep, F'.keep _ _ hL, r⟩, fun b o e => F'.keep b o (F₂.keep b o e), F₂.above⟩ (fun p hp => ⟨(N' p hp).1, fun q => ?_, ?_⟩) B₂ (XB.keeps B₂.stays) (TB.keeps B₂.stays) (D.turn T₂)
  · obtain ⟨oL, es, ep, hL, _⟩ := F₂.ns
    have := (N' p hp).2.2; rw [q, hL] at this; cases this
  · exact kts_none F₂.keep (N' p hp).2.2
end
section
variable {M : Model} {A : Around} {E : Value → Shared → Prop} {s' : Shared} {base g h : Heap} {outer : List Env} {L a e t : Addr} {m : Str → Option Value} {name : Str} {scope : Scope} {cd : Value} {Q : Unit → Shared → Prop} {news : List (Addr × Obj)} {oe ot : Obj} {n : Nat}
/-- an exception that lies in the ledger leaves the def -/
theorem leave_led {vs : Array Value} {args : List Value} (K : Below A base outer g) (F : Fr g L s'.heap m) (N : News g L s'.heap ((e, oe) :: (t, ot) :: news)) (hd : oe.data = .fields vs) (h1 : vs[1]? = some .none) (h0 : vs[0]? = some (.ref t))
    (htc : ot.cls = .type "tuple") (htd : ot.data = .seq args.toArray n) (hne : ∀ q ∈ news, q.1 ≠ e ∧ q.1 ≠ t)
    (hQ : ∀ h', RaisedS base g outer e oe.cls t args news h' → g.UpToSlots h' → Q () { s' with heap := h' }) (hk : scope.kind = .function := by rfl) :
    wpAny M (A.deeper (envOf name scope L a cd)) (leaving (envOf name scope L a cd) (.ref e)) Q E s' := by
  have he := N (e, oe) (.head _)
  have ht := N (t, ot) (.tail _ (.head _))
  have K' := K.push (name := name) (a := a) (cd := cd) F hk
  have hin : ∀ env ∈ (envOf name scope L a cd :: outer), ∀ b, env.frame = some b → b ∈ e :: t :: frs (envOf name scope L a cd :: outer) := fun env he b hb => .tail _ (.tail _ (List.mem_filterMap.mpr ⟨env, he, hb⟩))
  have nfr : ∀ b, b ∈ frs (envOf name scope L a cd :: outer) → b = L ∨ b ∈ frs outer := fun b hb => kts_mem hb
  have st : base.StaysIn (hideAll s'.heap (e :: t :: frs (envOf name scope L a cd :: outer))) := fun b o q => hideAll_get _ (K'.stays b o q) fun hm => by
    rcases List.mem_cons.mp hm with rfl | hm
    · have := K.stays _ _ q; rw [he.2.2] at this; cases this
    · rcases List.mem_cons.mp hm with rfl | hm
      · have := K.stays _ _ q; rw [ht.2.2] at this; cases this
      · rw [(K'.frames.mem hm).1] at q; cases q
  have sg : ∀ b o, g.get? b = some o → b ∉ frs outer → (hideAll s'.heap (e :: t :: frs (envOf name scope L a cd :: outer))).get? b = some o := fun b o q nm => hideAll_get _ (F.keep b o q) fun hm => by
    rcases List.mem_cons.mp hm with rfl | hm
    · rw [he.2.2] at q; cases q
    · rcases List.mem_cons.mp hm with rfl | hm
      · rw [ht.2.2] at q; cases q
      · rcases nfr _ hm with z | z
        · rw [z, kts_self F] at q
          cases q
        · exact nm z
  have hl : ∀ q ∈ news, (hideAll s'.heap (e :: t :: frs (envOf name scope L a cd :: outer))).get? q.1 = some q.2 ∧ g.get? q.1 = none ∧ base.get? q.1 = none := fun q hq => by
    have hq' := N q (.tail _ (.tail _ hq))
    refine ⟨hideAll_get _ hq'.1 fun hm => ?_, hq'.2.2, fresh_of_stays K.stays hq'.2.2⟩
    rcases List.mem_cons.mp hm with z | hm
    · exact (hne q hq).1 z
    · rcases List.mem_cons.mp hm with z | hm
      · exact (hne q hq).2 z
      · obtain ⟨env, he', hf⟩ := List.mem_filterMap.mp hm
        rcases List.mem_cons.mp he' with rfl | he'
        · exact hq'.2.1 (Option.some.inj hf).symm
        · obtain ⟨o, ho, _⟩ := (K.frames.mem (List.mem_filterMap.mpr ⟨env, he', hf⟩)).2
          rw [hq'.2.2] at ho; cases ho
  have hen : (hideAll s'.heap (e :: t :: frs (envOf name scope L a cd :: outer))).get? e = none := hideAll_none _ (.head _)
  have htn : (hideAll s'.heap (e :: t :: frs (envOf name scope L a cd :: outer))).get? t = none := hideAll_none _ (.tail _ (.head _))
  refine wpAny_leaving_firstW (a0 := .ref t) K'.stack (funFrames_hide K'.frames hin) rfl he.1 (fun b o hb => of_hideAll _ hb) hen hd h1 h0 fun h' hL => ?_
  obtain ⟨k1, ⟨_, _, k2⟩, k3, k4⟩ := hL
  exact hQ h' ⟨⟨_, st, sg, hl, ⟨k1, hen, k2, k3⟩, htn⟩, Heap.TupAt.of_slots ⟨_, _, ht.1, htc, htd⟩ k4⟩ ((Heap.UpToSlots.of_keeps F.keep).trans k4)
end
end Mine
end
section
open PySem PySem.W PyProof.Rows PySem.Calls
namespace Mine
set_option maxRecDepth 100000
section
variable {M : Model} {A : Around} {E : Value → Shared → Prop} {s : Shared}
/-- the first entry of an exception's record, with all that is known of the heap -/
theorem note_own {base : Heap} {env : Env} {outer : List Env} {L e : Addr} {oe : Obj} {vs : Array Value} {Q : Unit → Shared → Prop}
    (hfr : A.frames = some (env :: outer)) (hl : s.heap.FunFrames base (env :: outer)) (hf : env.frame = some L)
    (he : s.heap.get? e = some oe) (hd : oe.data = .fields vs) (h1 : vs[1]? = some .none)
    (h : ∀ h' T oT ts, (∀ b o, s.heap.get? b = some o → b ≠ e → b ∉ frs (env :: outer) → h'.get? b = some o) → (∀ b o, s.heap.get? b = some o → b ≠ e → ∃ sl, h'.get? b = some { o with slots := sl }) →
      h'.get? e = some (oe.mapFields (·.setIfInBounds 1 (.ref T))) → s.heap.get? T = none → h'.get? T = some oT → oT.data = .fields ts → 3 < ts.size → T ≠ e → Q () { s with heap := h' }) :
    wpAny M A (noteFrame (.ref e) env) Q E s := by
  have hsz : 1 < vs.size := (Array.getElem?_eq_some_iff.mp h1).1
  unfold noteFrame
  simp only [hf]
  refine wpAny_bind (wpAny_field he hd h1 ?_)
  rw [if_neg (by decide)]
  have hene : e ∉ frs (env :: outer) := fun hm => by
    obtain ⟨_, o, ho, hnf⟩ := hl.mem hm
    rw [he] at ho; injection ho with ho; subst ho; exact hnf vs hd
  refine wpAny_bind (wpAny_frameOf_fun hfr hl hf fun h₁ hs₁ => ?_)
  refine wpAny_bind (wpAny_entryPlaceOf fun pl hpl => ?_)
  unfold EntryCells.newEntry newFields
  refine wpAny_bind (wpAny_newObj_type ?_ (hpl.sizeOk5 _ _ _ _ _))
  have he₁ : h₁.get? e = some oe := (hs₁.2.1 e hene).trans he
  have he₂ := Heap.get?_push_of_some (h := h₁) { cls := .type "traceback", dict := none, data := .fields ([.none, .ref L, .none, rawInt L, .none] ++ (if pl.isEmpty then List.replicate 6 Value.none else pl)).toArray } he₁
  have hTe : h₁.objs.size ≠ e := Nat.ne_of_gt (Heap.lt_size he₁)
  have hd₃ := Obj.data_mapFields hd (·.setIfInBounds 1 (Value.ref h₁.objs.size))
  have he₃ := Heap.get?_update_self (Obj.mapFields (·.setIfInBounds 1 (Value.ref h₁.objs.size))) he₂ (Obj.isFreed_of_fields hd₃)
  have hT₃ := (Heap.get?_update_other (h₁.push { cls := .type "traceback", dict := none, data := .fields ([.none, .ref L, .none, rawInt L, .none] ++ (if pl.isEmpty then List.replicate 6 Value.none else pl)).toArray })
    (Obj.mapFields (·.setIfInBounds 1 (Value.ref h₁.objs.size))) (Ne.symm hTe)).trans (Heap.get?_push_size h₁ rfl)
  have keep : ∀ b o, b ≠ e → h₁.get? b = some o → ((h₁.push { cls := .type "traceback", dict := none, data := .fields ([.none, .ref L, .none, rawInt L, .none] ++ (if pl.isEmpty then List.replicate 6 Value.none else pl)).toArray }).update e (Obj.mapFields (·.setIfInBounds 1 (Value.ref h₁.objs.size)))).get? b = some o :=
    fun b o hbe hb => by
      rw [Heap.get?_update_other _ _ (Ne.symm hbe)]
      exact Heap.get?_push_of_some _ hb
  refine wpAny_setField he₂ hd hsz (h _ h₁.objs.size _ _ (fun b o hb hbe hbf => keep b o hbe ((hs₁.2.1 b hbf).trans hb)) (fun b o hb hbe => ?_) he₃ ?_ hT₃ rfl ?_ hTe)
  · obtain ⟨sl, hs⟩ := hs₁.2.2 b o hb
    exact ⟨sl, keep b _ hbe hs⟩
  · cases q : s.heap.get? h₁.objs.size with
    | none => rfl
    | some o =>
      obtain ⟨sl, hs⟩ := hs₁.2.2 _ o q
      exact absurd (Heap.lt_size hs) (Nat.lt_irrefl _)
  · simp only [List.size_toArray, List.length_append, List.length_cons, List.length_nil]
    omega
theorem flight_own {e T : Addr} {oe oT : Obj} {vs ts : Array Value} {Q : Unit → Shared → Prop} (he : s.heap.get? e = some oe) (hd : oe.data = .fields vs) (h1 : vs[1]? = some (.ref T)) (hT : s.heap.get? T = some oT) (hdT : oT.data = .fields ts) (h3 : 3 < ts.size)
    (h : ∀ h' oT' ts', (∀ b, b ≠ T → h'.get? b = s.heap.get? b) → h'.get? T = some oT' → oT'.data = .fields ts' → 3 < ts'.size → Q () { s with heap := h' }) : wpAny M A (setFlight (.ref e) none) Q E s := by
  unfold setFlight
  refine wpAny_bind (wpAny_field he hd h1 ?_)
  rw [if_pos (show (Value.ref T != Value.none) = true from by simp)]
  exact wpAny_setField hT hdT h3 (h _ _ _ (fun b hb => Heap.get?_update_other _ _ (Ne.symm hb)) (Heap.get?_update_self _ hT (Obj.isFreed_of_fields (Obj.data_mapFields hdT _))) (Obj.data_mapFields hdT _) (by simpa using h3))
end
section
variable {prog : Program} {w : World} {A₀ : Around} {E : Value → Shared → Prop} {s' : Shared} {base g h : Heap} {outer : List Env} {L a e : Addr} {m : Str → Option Value} {name : Str} {scope : Scope} {cd : Value}
  {b₀ : Stmt} {suite : List Stmt} {pos np : Pos} {rest : List ExceptHandler} {Q : Flow → Shared → Prop} {news : List (Addr × Obj)} {KF : Frag}
  {p : Program} {loose : List Str} {mean : ExcName → Option Value} {mg mb : Str → Option Value} {x : Str} {X T' : String}
/-- an exception of the def's own suite is caught there: its context is known to be none -/
theorem caught_own (hx : Heap.NewExc h s'.heap e X) (F : Fr g L h m) (N : News g L h news) (K : Below A₀ base outer g) (XB : KF.In base) (TB : Top p loose mean mg mb base) (D : KtsDicts (frs outer) g)
    (ex : nsIn KF mainGlobals x = some none) (hv : bootBuiltins x = some (.type T')) (hn' : x ≠ "__name__")
    (hexc : isSubtype (.type T') (.type "BaseException") = pure true) (hnt : isSubtype (.type ((Manifest.find? T').elim "type" fun y => y.metatype)) (.type "tuple") = pure false) (hsub : isSubtype (.type X) (.type T') = pure true)
    (k : ∀ h' g' oe ws, KtsTurn (frs outer) g g' → Fr g' L h' m → News g' L h' ((e, oe) :: news) → (∀ q ∈ news, q.1 ≠ e) → oe.data = .fields ws → ws[2]? = some .none → Below A₀ base outer g' → KF.In g' → Top p loose mean mg mb g' → KtsDicts (frs outer) g' →
      wpAny (model prog w) ((A₀.deeper (envOf name scope L a cd)).mark (some (.ref e))) (execs (b₀ :: suite) (envOf name scope L a cd)) Q E { s' with heap := h' })
    (hk : scope.kind = .function := by rfl) (hx' : (envOf name scope L a cd).kindOf x = some .globalImplicit := by rfl) (hd' : (x == ("__debug__" : Str)) = false := by decide)
    (hE : PassesOwnAt (model prog w) ((A₀.deeper (envOf name scope L a cd)).mark (some (.ref e))) (A₀.deeper (envOf name scope L a cd)) (envOf name scope L a cd) E := by passes_own) :
    wpAny (model prog w) (A₀.deeper (envOf name scope L a cd)) (noteFrame (.ref e) (envOf name scope L a cd))
      (fun _ s₂ => wpAny (model prog w) (A₀.deeper (envOf name scope L a cd)) (setFlight (.ref e) none) (fun _ s₃ =>
        wpAny (model prog w) (A₀.deeper (envOf name scope L a cd)) (handleBy (.ref e) (envOf name scope L a cd) (.ExceptHandler (some (.Name x np)) none (b₀ :: suite) pos :: rest)) Q E s₃) E s₂) E s' := by
  obtain ⟨oe, t, he, hcls, hd⟩ := hx.there
  have F₁ : Fr g L s'.heap m := F.keeps hx.keeps
  have K' := K.push (name := name) (a := a) (cd := cd) F₁ hk
  have ge : g.get? e = none := kts_none F.keep hx.new
  refine note_own K'.stack K'.frames rfl he hd rfl fun h₂ T oT ts c1 c2 c3 cT c4 c5 c6 cTe => ?_
  have hd₂ := Obj.data_mapFields hd (·.setIfInBounds 1 (Value.ref T))
  refine flight_own c3 hd₂ rfl c4 c5 c6 fun h₃ oT₃ ts₃ d1 d2 d3 d4 => ?_
  have gT : g.get? T = none := kts_none F₁.keep cT
  -- what holds of a heap that has all but e, T and the frames' slots
  have ground : ∀ h₄ : Heap, (∀ b, b ≠ T → h₄.get? b = h₂.get? b) → (∃ oT ts, h₄.get? T = some oT ∧ oT.data = .fields ts) →
      ∃ g', KtsTurn (frs outer) g g' ∧ Fr g' L h₄ m ∧ Below A₀ base outer g' ∧ News g' L h₄ ((e, oe.mapFields (·.setIfInBounds 1 (Value.ref T))) :: news) := by
    intro h₄ q1 q2
    have one : ∀ b o, s'.heap.get? b = some o → b ≠ e → b ∉ frs (envOf name scope L a cd :: outer) → h₄.get? b = some o := fun b o hb hbe hbf => (q1 b (fun q => by rw [q, cT] at hb; cases hb)).trans (c1 b o hb hbe hbf)
    have two : ∀ b o, s'.heap.get? b = some o → b ≠ e → ∃ sl, h₄.get? b = some { o with slots := sl } := fun b o hb hbe => by
      obtain ⟨sl, hs⟩ := c2 b o hb hbe
      exact ⟨sl, (q1 b (fun q => by rw [q, cT] at hb; cases hb)).trans hs⟩
    obtain ⟨T₁, S₁⟩ := kts_turn_at (h := h₄) (fs := frs outer) (g := g)
      (fun b hb => by
        obtain ⟨_, o, ho', _⟩ := K.frames.mem hb
        exact ⟨o, ho'⟩)
      (fun b o eb nm => one b o (F₁.keep b o eb) (fun q => by rw [q, ge] at eb; cases eb) (fun q => by
        rcases kts_mem q with z | z
        · rw [z, kts_self F₁] at eb; cases eb
        · exact nm z))
      (fun b o eb _ => two b o (F₁.keep b o eb) (fun q => by rw [q, ge] at eb; cases eb))
    obtain ⟨oL, es, ep, hL, hLd, hLk, hLf⟩ := F₁.ns
    have hLe : L ≠ e := fun q => by rw [q, he] at hL; cases hL; rw [hd] at hLd; cases hLd
    obtain ⟨sl, hs⟩ := two L oL hL hLe
    refine ⟨_, T₁, ⟨⟨_, es, ep, hs, hLd, hLk, hLf⟩, S₁, by rw [T₁.size]; exact F₁.above⟩, ⟨K.stack, fun b o eb => T₁.other b o (K.stays b o eb) (fun hm => by
      rw [(K.frames.mem hm).1] at eb
      cases eb), K.frames.of_keeps fun b o eb _ => by
      obtain ⟨sl', hs'⟩ := T₁.up eb
      exact ⟨_, hs', rfl⟩⟩, fun q hq => ?_⟩
    rcases List.mem_cons.mp hq with rfl | hq
    · exact ⟨(q1 e (Ne.symm cTe)).trans c3, Ne.symm hLe, T₁.none_ _ ge⟩
    · obtain ⟨n1, n2, n3⟩ := N q hq
      refine ⟨one _ _ (hx.keeps _ _ n1) (fun z => by rw [z, hx.new] at n1; cases n1) (fun z => ?_), n2, T₁.none_ _ n3⟩
      rcases kts_mem z with z | z
      · exact n2 z
      · obtain ⟨_, o, ho, _⟩ := K.frames.mem z
        rw [n3] at ho; cases ho
  obtain ⟨g₃, T₃, F₃, K₃, _⟩ := ground h₃ d1 ⟨_, _, d2, d3⟩
  have X₃ : KF.In g₃ := XB.keeps K₃.stays
  have P₃ : TopRead p loose mg mb g₃ := topRead_of (TB.keeps K₃.stays)
  have he₃ : h₃.get? e = some (oe.mapFields (·.setIfInBounds 1 (Value.ref T))) := (d1 e (Ne.symm cTe)).trans c3
  refine wpAny_handleBy_builtin (X := X) (T := T') (b := true) hexc hnt hsub (name_B F₃ X₃ P₃ ex hv hn' ⟨rfl, ⟨_, he₃, (Obj.cls_mapFields _ _).trans hcls⟩, ?_⟩ hk hx' hd')
  rw [if_pos rfl]
  refine flight_own (s := { s' with heap := h₃ }) he₃ hd₂ rfl d2 d3 d4 fun h₄ oT₄ ts₄ f1 f2 f3 f4 => ?_
  obtain ⟨g₄, T₄, F₄, K₄, N₄⟩ := ground h₄ (fun b hb => (f1 b hb).trans (d1 b hb)) ⟨_, _, f2, f3⟩
  exact wpAny_passesOwnAt hE (k h₄ g₄ _ _ T₄ F₄ N₄ (fun q hq z => by have := (N q hq).1; rw [z, hx.new] at this; cases this) hd₂ rfl K₄ (XB.keeps K₄.stays) (TB.keeps K₄.stays) (D.turn T₄))
end
end Mine
end
section
open PySem PySem.W PyProof.Rows PySem.Calls
namespace Mine
set_option maxRecDepth 100000
theorem entry_unchain : entryFor table "proto.unchain" = some Builtin.«proto.unchain» := entryFor_of_tree (by kernel_rfl)
section
variable {prog : Program} {w : World} {A : Around} {E : Value → Shared → Prop} {s : Shared} {env : Env}
variable {nm q : Str} {C N : Addr} {bs bm : List Value} {hdct : Bool} {sn : List Str} {sub : List Value} {ab : Bool} {col : Option Bool} {dd : Option Addr} {k0 k1 k2 k3 k5 : Option Value} {newId : String}
theorem raise_led {x : PySem.Expr} {pos : Pos} {Q : Flow → Shared → Prop} (hbase : bm.contains (.type "BaseException") = true) (hh : A.handled = none)
    (h : wpAny (model prog w) A (eval x env) (fun v s₁ => ∃ e t, v = .ref e ∧ s₁.heap.get? C = some (excClassObj nm q C N bs bm hdct sn sub ab col dd k0 k1 k2 k3 k5 newId) ∧
      s₁.heap.get? e = some { cls := .ref C, data := .fields #[.ref t, .none, .none, .none, .bool false, .none] } ∧ E (.ref e) s₁) E s) :
    wpAny (model prog w) A (exec (.Raise (some x) none pos) env) Q E s := by
  show wpAny (model prog w) A (do standAt pos; raiseStmt env (some (do let v ← eval x env; standAt pos; pure v)) none) Q E s
  exact wpAny_bind (wpAny_standAt (wpAny_raiseStmt_made_sub hbase hh (wpAny_bind (wpAny_mono h (fun v s₁ h₁ => wpAny_bind (wpAny_standAt (wpAny_pure h₁))) fun _ _ x => x))))
theorem raise_none {x : PySem.Expr} {pos cp : Pos} {kd : Nat} {ve : Addr} {Q : Flow → Shared → Prop} (hbase : bm.contains (.type "BaseException") = true) (hh : A.handled = some (.ref ve))
    (h : wpAny (model prog w) A (eval x env) (fun v s₁ => ∃ e t ov ws, v = .ref e ∧ s₁.heap.get? C = some (excClassObj nm q C N bs bm hdct sn sub ab col dd k0 k1 k2 k3 k5 newId) ∧
      s₁.heap.get? e = some { cls := .ref C, data := .fields #[.ref t, .none, .none, .none, .bool false, .none] } ∧ s₁.heap.get? ve = some ov ∧ ov.data = .fields ws ∧ ws[2]? = some .none ∧ ve ≠ e ∧ C ≠ e ∧
      ∀ h', (∀ b, b ≠ e → h'.get? b = s₁.heap.get? b) → h'.get? e = some { cls := .ref C, data := .fields #[.ref t, .none, .ref ve, .none, .bool true, .none] } → E (.ref e) { s₁ with heap := h' }) E s) :
    wpAny (model prog w) A (exec (.Raise (some x) (some (.Constant .none kd cp)) pos) env) Q E s := by
  have hcB : (Value.ref C :: bm).contains (.type "BaseException") = true := by rw [List.contains_cons, hbase, Bool.or_true]
  show wpAny (model prog w) A (do standAt pos; raiseStmt env (some (do let v ← eval x env; standAt pos; pure v)) (some (do let v ← eval (.Constant .none kd cp) env; standAt pos; pure v))) Q E s
  refine wpAny_bind (wpAny_standAt ?_)
  unfold raiseStmt
  refine wpAny_bind (wpAny_bind (wpAny_mono h (fun v s₁ h₁ => wpAny_bind (wpAny_standAt (wpAny_pure ?_))) fun _ _ x => x))
  obtain ⟨e, t, ov, ws, rfl, hC, he, hv, hvd, hv2, hne, hCe, hE⟩ := h₁
  obtain ⟨hp, g, d, tk, os⟩ := s₁
  refine wpAny_bind (wpAny_holding (wpAny_bind (m := eval (.Constant .none kd cp) env) (Constant_none (wpAny_bind (wpAny_standAt (wpAny_pure (wpAny_bind (wpAny_pure ?_))))))))
  iterate 28 (first | with_reducible refine wpAny_loadPart_at he ?_ | with_reducible refine wpAny_loadPart_at hC ?_ | (with_reducible refine wpAny_isSubtype_exc hC ?_; rw [hcB]) | wp_step)
  refine wpAny_setField he rfl (by show 3 < 6; decide) ?_
  have f1 : (hp.update e (Obj.mapFields (·.setIfInBounds 3 .none))).get? e = some { cls := .ref C, data := .fields #[.ref t, .none, .none, .none, .bool false, .none] } := Heap.get?_update_self _ he rfl
  refine wpAny_bind (wpAny_setField f1 rfl (by show 4 < 6; decide) ?_)
  have f2 : ((hp.update e (Obj.mapFields (·.setIfInBounds 3 .none))).update e (Obj.mapFields (·.setIfInBounds 4 (.bool true)))).get? e = some { cls := .ref C, data := .fields #[.ref t, .none, .none, .none, .bool true, .none] } := Heap.get?_update_self _ f1 rfl
  have oth : ∀ b, b ≠ e → ((hp.update e (Obj.mapFields (·.setIfInBounds 3 .none))).update e (Obj.mapFields (·.setIfInBounds 4 (.bool true)))).get? b = hp.get? b := fun b hb => by rw [Heap.get?_update_other _ _ (Ne.symm hb), Heap.get?_update_other _ _ (Ne.symm hb)]
  have hC2 := (oth C hCe).trans hC
  have hv2' := (oth ve hne).trans hv
  generalize ((hp.update e (Obj.mapFields (·.setIfInBounds 3 .none))).update e (Obj.mapFields (·.setIfInBounds 4 (.bool true)))) = h2 at f2 oth hC2 hv2' ⊢
  dsimp only
  iterate 20 (first | with_reducible refine wpAny_loadPart_at f2 ?_ | with_reducible refine wpAny_loadPart_at hC2 ?_ | wp_step)
  refine wpAny_pure ?_
  unfold setFlight raiseNew
  refine wpAny_bind (wpAny_bind (wpAny_field (x := .none) f2 rfl rfl ?_))
  rw [if_neg (by decide)]
  refine wpAny_pure (wpAny_bind (wpAny_handled ?_))
  rw [hh]
  dsimp only
  rw [if_pos (by simpa using hne)]
  refine wpAny_bind (wpAny_holding (wpAny_runValue (codeAny_builtin entry_unchain ?_)))
  unfold Builtin.«proto.unchain»
  dsimp only
  refine wpAny_bind (wpAny_field hv2' hvd hv2 ?_)
  rw [if_pos (by decide)]
  simp only [ret]
  refine wpAny_pure ?_
  dsimp only
  unfold updateField
  refine wpAny_bind (wpAny_bind (wpAny_load f2 ?_))
  dsimp only
  rw [if_pos (by show 2 < 6; decide)]
  refine wpAny_update f2 ?_
  refine wpAny_throw (hE _ (fun b hb => ?_) ?_)
  · rw [Heap.get?_update_other _ _ (Ne.symm hb)]; exact oth b hb
  · exact Heap.get?_update_self _ f2 rfl
end
end Mine
end
section
open PySem PySem.W PyProof.Rows PySem.Calls
namespace Mine
set_option maxRecDepth 100000
/-- the frames of a caller, with what it handles -/
abbrev topA (hd : Option Value) (dp un : Nat) (gd : Option (List Code)) (cn : Str) (cs : Scope) (L a : Addr) (ccd : Value) (cl : List (Str × Addr)) (outer : List Env) : Around := { handled := hd, depth := dp, frames := some (envX cn cs L a ccd cl :: outer), guards := gd, units := un }
abbrev coordQ : Str := Str.ofString "suffixed_err.<locals>.coord_repr"
/-- the table of suffixed_err's nested def: empty, or with the one code -/
inductive TabLed : Led → Prop
  | none : TabLed [(77, tabObj #[])]
  | some {c : Addr} {oc : Obj} {vs : Array Value} {t : Tok} : oc.data = .fields vs → vs[1]? = some (.str coordQ t) → TabLed [(c, oc), (77, tabObj (#[] ++ #[rawInt ((32 : Nat) : Int), rawInt ((4 : Nat) : Int), .ref c]))]
theorem all_ne_gt {d : Nat} {l : Led} (h : ∀ p ∈ l, d < p.1) : ∀ p ∈ l, p.1 ≠ d := fun p hp => Nat.ne_of_gt (h p hp)
local macro_rules | `(tactic| k_all) => `(tactic| assumption)
local macro_rules | `(tactic| walk_at "enter nest") => `(tactic| (refine' code_nest ?k1 ?k2 ?k3 ?k4 ?k5 ?kA ?kF ?kK ?k6 ?k7 ?k8 ?k9 ?kB ?_ ?c2 ?c3 ?c4 ?c5; (case kA => exact rfl); (case kF => exact rfl); (case kK => exact rfl); (case k1 => k_asm); (case k2 => k_asm); (case k3 => k_asm); (case k4 => k_asm); (case k5 => k_asm); (case k6 => k_mem); (case k7 => exact codeRec_news (by k_asm) (by k_mem) (by assumption) (by assumption)); (case k8 => ktr_room); (case k9 => exact BindsTo.of_eq rfl); (case c5 => decide); (case kB => exact locs rfl); (case c2 => exact rfl); (case c3 => exact rfl); (case c4 => exact rfl); k_whole; intro g' L' h' FG' F' N' B' X' T'; (try dsimp only); (try k_lift B'); (try k_fold)))
local macro_rules | `(tactic| walk_at "to call") => `(tactic| repeat' (first | (k_unfold; (try dsimp only)) | ((fail_if_success (with_reducible show wpAny _ _ (call _ _ _) _ _ _)); first | walk1 | (dsimp only; walk1))))
abbrev excO (C t : Addr) : Obj := { cls := .ref C, data := .fields #[.ref t, .none, .none, .none, .bool false, .none] }
abbrev tupO (vs : List Value) : Obj := { cls := .type "tuple", data := .seq vs.toArray }
theorem made_news {h₀ h h' : Heap} {L e : Addr} {C : Addr} {m : Str → Option Value} {vs : List Value} {news : Led} (F : Fr h₀ L h m) (N : News h₀ L h news) (x : Heap.MadeExcOf h h' e (.ref C) vs) :
    ∃ t, Fr h₀ L h' m ∧ News h₀ L h' ((e, excO C t) :: (t, tupO vs) :: news) ∧ h.get? e = none ∧ h.get? t = none := by
  obtain ⟨t, he, ht0, ht⟩ := x.there
  obtain ⟨oL, es, ep, hL, hr⟩ := F.ns
  have fresh : ∀ b, h.get? b = none → b ≠ L ∧ h₀.get? b = none := fun b hb => ⟨fun q => (by rw [q, hL] at hb; cases hb), kts_none F.keep hb⟩
  refine ⟨t, F.keeps x.keeps, fun p hp => ?_, x.new, ht0⟩
  rcases List.mem_cons.mp hp with rfl | hp
  · exact ⟨he, (fresh _ x.new).1, (fresh _ x.new).2⟩
  · rcases List.mem_cons.mp hp with rfl | hp
    · exact ⟨ht, (fresh _ ht0).1, (fresh _ ht0).2⟩
    · exact ⟨x.keeps _ _ (N p hp).1, (N p hp).2⟩
section
variable {prog : Program} {w : World} {A : Around} {E : Value → Shared → Prop} {s : Shared} {h₀ : Heap} {L : Addr} {m : Str → Option Value} {news : Led} {p : Program} {loose : List Str} {mean : ExcName → Option Value} {mg mb : Str → Option Value}
theorem toml_call {v : Value} {Q : Value → Shared → Prop} (F : Fr h₀ L s.heap m) (X : (Mine.hd.heap_39 w.params).In h₀) (N : News h₀ L s.heap news) (T : Top p loose mean mg mb h₀)
    (h : ∀ h' e t, Fr h₀ L h' m → News h₀ L h' ((e, excO 58 t) :: (t, tupO [v]) :: news) → (∀ q ∈ news, q.1 ≠ e ∧ q.1 ≠ t) → Q (.ref e) { s with heap := h' }) : wpAny (model prog w) A (call (.ref 58) [v]) Q E s := by
  have O : OwnCls (Str.ofString "TOMLDecodeError") 58 [.type "ValueError", .type "Exception", .type "BaseException", .type "object"] "ValueError.__new__" mg h₀ := own_of_in X (topRead_of T) (by k_is) (by k_exc)
  obtain ⟨bm, N', nm, q, bs, hdct, sn, sub, ab, col, dd, k0, k1, k2, k3, k5, mN, hC, hN, hq, T'⟩ := O.obj
  refine wpAny_call_exc_subU PySem.F.excBase_ValueError (by decide) PySem.F.excBase_ValueError (T'.keeps F.keep) (F.keep _ _ hC) (hN.keeps F.keep) hq ?_ (by rw [sizeLine_eq]; simp)
  intro h' e x
  obtain ⟨t, F', N', a, b⟩ := made_news F N x
  refine h h' e t F' N' fun q hq => ?_
  have n := (N q hq).1
  exact ⟨fun z => (by rw [z, a] at n; cases n), fun z => (by rw [z, b] at n; cases n)⟩
end
theorem toml_cls {w : World} {h₀ : Heap} (X : (Mine.hd.heap_39 w.params).In h₀) : ∃ nm qn N bs bm hdct sn sub ab col dd k0 k1 k2 k3 k5 newId,
    h₀.get? 58 = some (excClassObj nm qn 58 N bs bm hdct sn sub ab col dd k0 k1 k2 k3 k5 newId) ∧ bm.contains (.type "BaseException") = true := by
  obtain ⟨nm, q', N, bs, bm, hdct, sn, sub, ab, col, dd, k0, k1, k2, k3, k5, newId, hC, hbase, hbT⟩ := kts_cls (T := "BaseException") X (by kts_isx : ktsIn _ 58 "BaseException" = true)
  exact ⟨nm, q', N, bs, bm, hdct, sn, sub, ab, col, dd, k0, k1, k2, k3, k5, newId, hC, hbase⟩
end Mine
end
section
open PySem PySem.W PyProof.Rows PySem.Calls
namespace Mine
set_option maxRecDepth 100000
local macro_rules | `(tactic| k_all) => `(tactic| assumption)
local macro_rules | `(tactic| walk_at "enter nest") => `(tactic| (refine' code_nest ?k1 ?k2 ?k3 ?k4 ?k5 ?kA ?kF ?kK ?k6 ?k7 ?k8 ?k9 ?kB ?_ ?c2 ?c3 ?c4 ?c5; (case kA => exact rfl); (case kF => exact rfl); (case kK => exact rfl); (case k1 => k_asm); (case k2 => k_asm); (case k3 => k_asm); (case k4 => k_asm); (case k5 => k_asm); (case k6 => k_mem); (case k7 => exact codeRec_news (by k_asm) (by k_mem) (by assumption) (by assumption)); (case k8 => ktr_room); (case k9 => exact BindsTo.of_eq rfl); (case c5 => decide); (case kB => exact locs rfl); (case c2 => exact rfl); (case c3 => exact rfl); (case c4 => exact rfl); k_whole; intro g' L' h' FG' F' N' B' X' T'; (try dsimp only); (try k_lift B'); (try k_fold)))
local macro_rules | `(tactic| walk_at "to call") => `(tactic| repeat' (first | (k_unfold; (try dsimp only)) | ((fail_if_success (with_reducible show wpAny _ _ (call _ _ _) _ _ _)); first | walk1 | (dsimp only; walk1))))
theorem lenAt : (Str.ofString " (at ").length = 5 := by decide +kernel
theorem lenEnd : (Str.ofString "end of document").length = 15 := by decide +kernel
theorem lenPar : (Str.ofString ")").length = 1 := by decide +kernel
theorem lenLine : (Str.ofString "line ").length = 5 := by decide +kernel
theorem lenCol : (Str.ofString ", column ").length = 9 := by decide +kernel
theorem lenNil : Str.empty.length = 0 := rfl
local macro_rules | `(tactic| walk_at "my size") => `(tactic| ((simp only [Str.length_append, lenAt, lenEnd, lenPar, lenLine, lenCol, lenNil]); (rw [sizeLine_eq]); omega))
local macro_rules | `(tactic| walk_at "And") => `(tactic| ((with_reducible show PySem.Str.length _ ≤ sizeLine ∧ _); refine ⟨by walk_at "my size", ?_⟩))
local macro_rules | `(tactic| walk_at "joinParts") => `(tactic| ((with_reducible show wpAny _ _ (joinParts _ (evalEach [] _)) _ _ _); refine joinParts_nilE (joinParts_nil ?_ (by walk_at "my size"))))
local macro_rules | `(tactic| walk_at "joinParts") => `(tactic| ((with_reducible show wpAny _ _ (joinParts _ []) _ _ _); refine joinParts_nil ?_ (by walk_at "my size")))


abbrev errS (y c : Str) : Str := Str.empty ++ y ++ Str.ofString " (at " ++ c ++ Str.ofString ")"
abbrev BoxedT (news : Led) (Q : Value → Shared → Prop) (h₀ : Heap) (L : Addr) (m : Str → Option Value) (s : Shared) (y : Str) : Prop :=
  ∀ e t tm tl' h' tk', TabLed tl' → Fr h₀ L h' m → News h₀ L h' ((e, excO 58 t) :: (t, tupO [.str y tm]) :: (tl' ++ news)) → (∀ q ∈ tl' ++ news, q.1 ≠ e ∧ q.1 ≠ t) → Q (.ref e) { s with heap := h', toks := tk' }
theorem drop3 {α : Type} {a b c : α} {r : List α} {q : α} (h : q ∈ a :: b :: r) : q ∈ a :: b :: c :: r := by
  rcases List.mem_cons.mp h with rfl | h
  · exact .head _
  · rcases List.mem_cons.mp h with rfl | h
    · exact .tail _ (.head _)
    · exact .tail _ (.tail _ (.tail _ h))
set_option maxHeartbeats 1000000 in
theorem suff_eof {w : World} (news : Led) (tl : Led) (hT : TabLed tl) (h77 : ∀ p ∈ news, p.1 ≠ 77) (x : Str) (i : Nat) (y : Str) (t ti ty : Tok) (hx : x.length ≤ i) (hi1 : i ≤ 10000) (hy : y.length ≤ 1000)
   (p : Program) (loose : List Str) (mean : ExcName → Option Value) (mg mb : Str → Option Value) (hd : Option Value) (dp un : Nat) (gd : Option (List Code)) (cn : Str) (cs : Scope) (a : Addr) (ccd : Value) (cl : List (Str × Addr)) (outer : List Env) (A₀ : Around) (base h₀ : Heap) (L : Addr) (m : Str → Option Value) (s : Shared) (Q E : Value → Shared → Prop)
    (B : Below A₀ base outer h₀) (F : Fr h₀ L s.heap m) (X : (Mine.hd.heap_39 w.params).In h₀) (N : News h₀ L s.heap (tl ++ news)) (T : Top p loose mean mg mb h₀) (hk : cs.kind = .function)
    (hdp : dp + 3 < recursionLimit) (hun : un + 24 < cLine) (hret : BoxedT news Q h₀ L m s (errS y (Str.ofString "end of document"))) :
    wpAny (model PG w) (topA hd dp un gd cn cs L a ccd cl outer) (call (.ref 82) [.str x t, .int (i : Int) ti, .str y ty]) Q E s := by
  cases hT with
  | none =>
    rw [List.cons_append, List.nil_append] at N
    refine wpAny_call ?_
    k_dflt cell_enter
    rename Frag.In _ _ => X1
    have codeHd : CodeHd _ 81 77 := codeHd_of_K X1 (by rfl)
    walk_at "to call"
    refine wpAny_call ?_
    k_dflt (walk_at "enter nest")
    walk_at "to call"
    (iterate 1 walk1)
    walk_at "to call"
    refine toml_call (by k_asm) (by k_asm) (by k_asm) (by k_asm) ?_
    intro h2 e t2 F2 N2 ne
    k_steps
    rename News h₀ L _ _ => kN
    rename Fr h₀ L _ _ => kF
    have kN2 := cb_drop kN (fun q hq => drop3 hq)
    clear kN
    refine hret e t2 _ [_, _] h2 _ (TabLed.some (by assumption) (by assumption)) kF kN2 (fun q hq => ne q (.tail _ hq))
  | some hoc hvs =>
    rw [List.cons_append, List.cons_append, List.nil_append] at N
    refine wpAny_call ?_
    k_dflt cell_enter
    rename Frag.In _ _ => X1
    have codeHd : CodeHd _ 81 77 := codeHd_of_K X1 (by rfl)
    walk_at "to call"
    refine wpAny_call ?_
    k_dflt (walk_at "enter nest")
    walk_at "to call"
    (iterate 1 walk1)
    walk_at "to call"
    refine toml_call (by k_asm) (by k_asm) (by k_asm) (by k_asm) ?_
    intro h2 e t2 F2 N2 ne
    k_steps
    rename News h₀ L _ _ => kN
    rename Fr h₀ L _ _ => kF
    have kN2 := cb_drop kN (fun q hq => drop3 hq)
    clear kN
    refine hret e t2 _ [_, _] h2 _ (TabLed.some (by assumption) (by assumption)) kF kN2 (fun q hq => ne q (.tail _ hq))
end Mine
end
section
open PySem PySem.W PyProof.Rows PySem.Builtin PySem.Builtin.Str PySem.StrLaws
namespace Mine
abbrev NL : Str := ⟨#[10]⟩
theorem nl_eq : Str.ofString "\n" = NL := by decide +kernel
theorem at_nl {x : Str} {hi i : Nat} (hh : hi ≤ x.length) : At x NL hi i ↔ (x.cps.toList.take hi)[i]? = some 10 := by
  have e : NL.length = 1 := rfl
  have h := subAt_one x 10 i
  rw [List.getElem?_take]
  constructor
  · rintro ⟨h1, h2⟩
    have h1' : i + 1 ≤ hi := h1
    rw [if_pos (by omega)]
    exact h.mp ⟨by show i + 1 ≤ x.length; omega, h2⟩
  · intro h3
    by_cases hlt : i < hi
    · rw [if_pos hlt] at h3
      exact ⟨by show i + 1 ≤ hi; omega, (h.mpr h3).2⟩
    · rw [if_neg hlt] at h3
      cases h3
theorem drop_cons_of {l : List Nat} {a c : Nat} (h : l[a]? = some c) : l.drop a = c :: l.drop (a + 1) := by
  obtain ⟨hlt, rfl⟩ := List.getElem?_eq_some_iff.mp h
  exact List.drop_eq_getElem_cons hlt
theorem occ_nl (x : Str) (hi limit : Nat) (hh : hi ≤ x.length) : ∀ (n a : Nat) (st : Array Nat × Nat), st.2 ≤ a → a + n = hi + 1 → st.1.size + n ≤ limit →
    (forIn (List.range' a n) st (occBody x NL hi limit)).run.fst.size = st.1.size + ((x.cps.toList.take hi).drop a).count 10 := by
  intro n
  induction n with
  | zero =>
    intro a st _ hn _
    rw [List.drop_eq_nil_of_le (by rw [List.length_take]; omega)]
    simp
  | succ n ih =>
    intro a st hf hn hl
    rw [List.range'_succ, List.forIn_cons]
    unfold occBody
    by_cases hc : At x NL hi a
    · have hg := (at_nl hh).mp hc
      rw [if_pos ⟨⟨⟨by omega, hf⟩, hc.1⟩, hc.2⟩, drop_cons_of hg]
      have := ih (a + 1) (st.1.push a, a + NL.length) (Nat.le_refl _) (by omega) (by simp; omega)
      simp only [Array.size_push] at this
      show (forIn (List.range' (a + 1) n) (st.1.push a, a + NL.length) (occBody x NL hi limit)).run.fst.size = _
      rw [this]
      simp
      omega
    · rw [if_neg (fun z => hc ⟨z.1.2, z.2⟩)]
      have := ih (a + 1) (st.1, st.2) (by show st.2 ≤ a + 1; omega) (by omega) (by show st.1.size + n ≤ limit; omega)
      show (forIn (List.range' (a + 1) n) (st.1, st.2) (occBody x NL hi limit)).run.fst.size = _
      rw [this]
      cases hg : (x.cps.toList.take hi)[a]? with
      | none =>
        have h0 := List.getElem?_eq_none_iff.mp hg
        rw [List.drop_eq_nil_of_le h0, List.drop_eq_nil_of_le (by omega)]
      | some c =>
        rw [drop_cons_of hg, List.count_cons_of_ne]
        intro q
        exact hc ((at_nl hh).mpr (by rw [hg, q]))
theorem count_nl (x : Str) (i : Nat) (hi : i ≤ x.length) : (occurrences x NL 0 i (x.length + 1)).length = (x.cps.toList.take i).count 10 := by
  rw [occ_eq]
  have := occ_nl x i (x.length + 1) hi (i + 1 - 0) 0 (#[], 0) (Nat.le_refl _) (by omega) (by simp; omega)
  simpa using this
theorem last_nl (x : Str) (i : Nat) (hi : i ≤ x.length) (hc : (x.cps.toList.take i).count 10 ≠ 0) : ∃ k, lastOccurrence x NL 0 i = some k ∧ k < i ∧ i - k = ((x.cps.toList.take i).reverse.takeWhile (fun c => c != 10)).length + 1 := by
  rw [last_eq]
  have key := last_run x NL i (List.range' 0 (i + 1 - 0)) [] none (fun _ h => nomatch h) (fun _ h => nomatch h) (by simpa using List.pairwise_lt_range' (s := 0) (n := i + 1 - 0))
  have mem : ∀ k, At x NL i k → k ∈ [] ++ List.range' 0 (i + 1 - 0) := fun k hk => by have := hk.1; simp [List.mem_range'] <;> omega
  have hin : 10 ∈ x.cps.toList.take i := List.count_pos_iff.mp (Nat.pos_of_ne_zero hc)
  cases hr : (forIn (List.range' 0 (i + 1 - 0)) none (lastBody x NL i)).run with
  | none =>
    rw [hr] at key
    obtain ⟨k, hk⟩ := List.getElem?_of_mem hin
    have hA := (at_nl hi).mpr hk
    exact absurd hA (key k (mem k hA))
  | some a =>
    rw [hr] at key
    have ha := (at_nl hi).mp key.1
    have hlen : (x.cps.toList.take i).length = i := by rw [List.length_take]; exact Nat.min_eq_left hi
    have hlt : a < i := by
      have := (List.getElem?_eq_some_iff.mp ha).1
      omega
    refine ⟨a, rfl, hlt, ?_⟩
    have hs : x.cps.toList.take i = (x.cps.toList.take i).take a ++ 10 :: (x.cps.toList.take i).drop (a + 1) := by
      rw [← drop_cons_of ha, List.take_append_drop]
    have hno : ∀ c ∈ ((x.cps.toList.take i).drop (a + 1)).reverse, (c != 10) = true := by
      intro c hc'
      rw [List.mem_reverse] at hc'
      obtain ⟨j, hj⟩ := List.getElem?_of_mem hc'
      rw [List.getElem?_drop] at hj
      by_cases q : c = 10
      · rw [q] at hj
        have hA := (at_nl hi).mpr hj
        exact absurd hA (key.2 _ (mem _ hA) (by omega))
      · simpa using q
    have hrev : (x.cps.toList.take i).reverse = ((x.cps.toList.take i).drop (a + 1)).reverse ++ 10 :: ((x.cps.toList.take i).take a).reverse := by
      conv => lhs; rw [hs]
      simp
    rw [hrev, List.takeWhile_append_of_pos hno]
    simp [hlen]
    omega
abbrev lineL (l : List Nat) : Nat := l.count 10 + 1
abbrev colL (l : List Nat) : Nat := (l.reverse.takeWhile (fun c => c != 10)).length + 1
theorem colL_one {l : List Nat} (h : l.count 10 = 0) : colL l = l.length + 1 := by
  have hno : ∀ c ∈ l.reverse, (c != 10) = true := fun c hc => by
    have := List.count_eq_zero.mp h
    have hc' := List.mem_reverse.mp hc
    simp only [bne_iff_ne, ne_eq]
    intro q
    rw [q] at hc'
    exact this hc'
  have e : l.reverse.takeWhile (fun c => c != 10) = l.reverse := by
    have := List.takeWhile_append_of_pos (l₂ := []) hno
    simpa using this
  unfold colL
  rw [e, List.length_reverse]
end Mine
end
section
open PySem PySem.W PyProof.Rows PySem.Calls
namespace Mine
set_option maxRecDepth 100000
local macro_rules | `(tactic| k_all) => `(tactic| assumption)
local macro_rules | `(tactic| walk_at "enter nest") => `(tactic| (refine' code_nest ?k1 ?k2 ?k3 ?k4 ?k5 ?kA ?kF ?kK ?k6 ?k7 ?k8 ?k9 ?kB ?_ ?c2 ?c3 ?c4 ?c5; (case kA => exact rfl); (case kF => exact rfl); (case kK => exact rfl); (case k1 => k_asm); (case k2 => k_asm); (case k3 => k_asm); (case k4 => k_asm); (case k5 => k_asm); (case k6 => k_mem); (case k7 => exact codeRec_news (by k_asm) (by k_mem) (by assumption) (by assumption)); (case k8 => ktr_room); (case k9 => exact BindsTo.of_eq rfl); (case c5 => decide); (case kB => exact locs rfl); (case c2 => exact rfl); (case c3 => exact rfl); (case c4 => exact rfl); k_whole; intro g' L' h' FG' F' N' B' X' T'; (try dsimp only); (try k_lift B'); (try k_fold)))
local macro_rules | `(tactic| walk_at "to call") => `(tactic| repeat' (first | (k_unfold; (try dsimp only)) | ((fail_if_success (with_reducible show wpAny _ _ (call _ _ _) _ _ _)); first | walk1 | (dsimp only; walk1))))
local macro_rules | `(tactic| walk_at "my size") => `(tactic| ((simp only [Str.length_append, lenAt, lenEnd, lenPar, lenLine, lenCol, lenNil]); (rw [sizeLine_eq]); omega))
local macro_rules | `(tactic| walk_at "And") => `(tactic| ((with_reducible show PySem.Str.length _ ≤ sizeLine ∧ _); refine ⟨by walk_at "my size", ?_⟩))
local macro_rules | `(tactic| walk_at "joinParts") => `(tactic| ((with_reducible show wpAny _ _ (joinParts _ (evalEach [] _)) _ _ _); refine joinParts_nilE (joinParts_nil ?_ (by walk_at "my size"))))
local macro_rules | `(tactic| walk_at "joinParts") => `(tactic| ((with_reducible show wpAny _ _ (joinParts _ []) _ _ _); refine joinParts_nil ?_ (by walk_at "my size")))
section
variable {prog : Program} {w : World} {A : Around} {E : Value → Shared → Prop} {s : Shared} {x : Str} {t u v z : Tok} {Q : Value → Shared → Prop}
theorem countNl_call {i : Nat} (hi : i ≤ x.length) (h : Q (.int (((x.cps.toList.take i).count 10 : Nat) : Int) s.toks) { s with toks := s.toks + 1 }) : wpAny (model prog w) A (call (.builtin "str.count") [.str x t, .str (Str.ofString "\n") u, .int 0 v, .int (i : Int) z]) Q E s := by
  refine count4_call (i := 0) hi ?_
  rw [nl_eq, count_nl x i hi]
  exact h
theorem rindexNl_call {i : Nat} (hi : i ≤ x.length) (hc : (x.cps.toList.take i).count 10 ≠ 0) (h : ∀ k : Nat, k < i → i - k = colL (x.cps.toList.take i) → Q (.int (k : Int) s.toks) { s with toks := s.toks + 1 }) : wpAny (model prog w) A (call (.builtin "str.rindex") [.str x t, .str (Str.ofString "\n") u, .int 0 v, .int (i : Int) z]) Q E s := by
  obtain ⟨k, h1, h2, h3⟩ := last_nl x i hi hc
  exact rindex4_call (i := 0) hi (by rw [nl_eq]; exact h1) (h k h2 h3)
end
abbrev coordA (l : List Nat) : Str := Str.empty ++ Str.ofString "line " ++ Str.ofString (toString ((lineL l : Nat) : Int)) ++ Str.ofString ", column " ++ Str.ofString (toString ((colL l : Nat) : Int))
set_option maxHeartbeats 2000000 in
theorem suff_at {w : World} (news : Led) (tl : Led) (hT : TabLed tl) (h77 : ∀ p ∈ news, p.1 ≠ 77) (x : Str) (i : Nat) (y : Str) (t ti ty : Tok) (hx : x.length ≤ 10000) (hi1 : i < x.length) (hy : y.length ≤ 1000)
   (p : Program) (loose : List Str) (mean : ExcName → Option Value) (mg mb : Str → Option Value) (dp un : Nat) (gd : Option (List Code)) (cn : Str) (cs : Scope) (a : Addr) (ccd : Value) (cl : List (Str × Addr)) (outer : List Env) (A₀ : Around) (base h₀ : Heap) (L : Addr) (m : Str → Option Value) (s : Shared) (Q E : Value → Shared → Prop)
    (B : Below A₀ base outer h₀) (F : Fr h₀ L s.heap m) (X : (Mine.hd.heap_39 w.params).In h₀) (N : News h₀ L s.heap (tl ++ news)) (T : Top p loose mean mg mb h₀) (hk : cs.kind = .function)
    (hdp : dp + 3 < recursionLimit) (hun : un + 24 < cLine) (hret : BoxedT news Q h₀ L m s (errS y (coordA (x.cps.toList.take i)))) :
    wpAny (model PG w) (ktrTop dp un gd cn cs L a ccd cl outer) (call (.ref 82) [.str x t, .int (i : Int) ti, .str y ty]) Q E s := by
  cases hT with
  | none =>
    rw [List.cons_append, List.nil_append] at N
    refine wpAny_call ?_
    k_dflt cell_enter
    rename Frag.In _ _ => X1
    have codeHd : CodeHd _ 81 77 := codeHd_of_K X1 (by rfl)
    walk_at "to call"
    refine wpAny_call ?_
    k_dflt (walk_at "enter nest")
    walk_at "to call"
    (iterate 1 walk1)
    walk_at "to call"
    refine countNl_call (Nat.le_of_lt hi1) ?_
    have hlc : (x.cps.toList.take i).count 10 ≤ 10000 := Nat.le_trans List.count_le_length (by rw [List.length_take]; exact Nat.le_trans (Nat.min_le_right _ _) hx)
    generalize hcc : (x.cps.toList.take i).count 10 = cc at hlc
    walk_at "to call"
    · have e1 : ((cc : Int) + 1) = ((lineL (x.cps.toList.take i) : Nat) : Int) := by unfold lineL; rw [hcc]; rfl
      have e2 : ((i : Int) + 1) = ((colL (x.cps.toList.take i) : Nat) : Int) := by
        rw [colL_one (by rw [hcc]; omega), List.length_take]
        have : min i x.cps.toList.length = i := Nat.min_eq_left (Nat.le_of_lt hi1)
        rw [this]; rfl
      rw [e1, e2]
      refine toml_call (by k_asm) (by k_asm) (by k_asm) (by k_asm) ?_
      intro h2 e t2 F2 N2 ne
      k_steps
      rename News h₀ L _ _ => kN
      rename Fr h₀ L _ _ => kF
      have kN2 := cb_drop kN (fun q hq => drop3 hq)
      clear kN
      refine hret e t2 _ [_, _] h2 _ (TabLed.some (by assumption) (by assumption)) kF kN2 (fun q hq => ne q (.tail _ hq))
    · refine rindexNl_call (Nat.le_of_lt hi1) (by rw [hcc]; omega) ?_
      intro k hk1 hk2
      walk_at "to call"
      have e1 : ((cc : Int) + 1) = ((lineL (x.cps.toList.take i) : Nat) : Int) := by unfold lineL; rw [hcc]; rfl
      have e2 : ((i : Int) - (k : Int)) = ((colL (x.cps.toList.take i) : Nat) : Int) := by rw [← hk2]; omega
      rw [e1, e2]
      refine toml_call (by k_asm) (by k_asm) (by k_asm) (by k_asm) ?_
      intro h2 e t2 F2 N2 ne
      k_steps
      rename News h₀ L _ _ => kN
      rename Fr h₀ L _ _ => kF
      have kN2 := cb_drop kN (fun q hq => drop3 hq)
      clear kN
      refine hret e t2 _ [_, _] h2 _ (TabLed.some (by assumption) (by assumption)) kF kN2 (fun q hq => ne q (.tail _ hq))
  | some hoc hvs =>
    rw [List.cons_append, List.cons_append, List.nil_append] at N
    refine wpAny_call ?_
    k_dflt cell_enter
    rename Frag.In _ _ => X1
    have codeHd : CodeHd _ 81 77 := codeHd_of_K X1 (by rfl)
    walk_at "to call"
    refine wpAny_call ?_
    k_dflt (walk_at "enter nest")
    walk_at "to call"
    (iterate 1 walk1)
    walk_at "to call"
    refine countNl_call (Nat.le_of_lt hi1) ?_
    have hlc : (x.cps.toList.take i).count 10 ≤ 10000 := Nat.le_trans List.count_le_length (by rw [List.length_take]; exact Nat.le_trans (Nat.min_le_right _ _) hx)
    generalize hcc : (x.cps.toList.take i).count 10 = cc at hlc
    walk_at "to call"
    · have e1 : ((cc : Int) + 1) = ((lineL (x.cps.toList.take i) : Nat) : Int) := by unfold lineL; rw [hcc]; rfl
      have e2 : ((i : Int) + 1) = ((colL (x.cps.toList.take i) : Nat) : Int) := by
        rw [colL_one (by rw [hcc]; omega), List.length_take]
        have : min i x.cps.toList.length = i := Nat.min_eq_left (Nat.le_of_lt hi1)
        rw [this]; rfl
      rw [e1, e2]
      refine toml_call (by k_asm) (by k_asm) (by k_asm) (by k_asm) ?_
      intro h2 e t2 F2 N2 ne
      k_steps
      rename News h₀ L _ _ => kN
      rename Fr h₀ L _ _ => kF
      have kN2 := cb_drop kN (fun q hq => drop3 hq)
      clear kN
      refine hret e t2 _ [_, _] h2 _ (TabLed.some (by assumption) (by assumption)) kF kN2 (fun q hq => ne q (.tail _ hq))
    · refine rindexNl_call (Nat.le_of_lt hi1) (by rw [hcc]; omega) ?_
      intro k hk1 hk2
      walk_at "to call"
      have e1 : ((cc : Int) + 1) = ((lineL (x.cps.toList.take i) : Nat) : Int) := by unfold lineL; rw [hcc]; rfl
      have e2 : ((i : Int) - (k : Int)) = ((colL (x.cps.toList.take i) : Nat) : Int) := by rw [← hk2]; omega
      rw [e1, e2]
      refine toml_call (by k_asm) (by k_asm) (by k_asm) (by k_asm) ?_
      intro h2 e t2 F2 N2 ne
      k_steps
      rename News h₀ L _ _ => kN
      rename Fr h₀ L _ _ => kF
      have kN2 := cb_drop kN (fun q hq => drop3 hq)
      clear kN
      refine hret e t2 _ [_, _] h2 _ (TabLed.some (by assumption) (by assumption)) kF kN2 (fun q hq => ne q (.tail _ hq))
end Mine
end
section
open PySem PySem.W PyProof.Rows PySem.Calls
namespace Mine
set_option maxRecDepth 100000
theorem fz_attrs : PlainAttrs "frozenset" :=
  ⟨⟨"object.__getattribute__", by rw [typeLookup_type, builtinLookup_eq_fast]; kernel_rfl, by decide +kernel⟩, by rw [typeLookup_type, builtinLookup_eq_fast]; kernel_rfl⟩
theorem fz_owner : Manifest.owners.lookup (String.ofList ['t', 'e', 's', 'n', 'e', 'z', 'o', 'r', 'f'].reverse) = some Manifest.sig_frozenset := by kernel_rfl
theorem fz_slot_in : Slot "frozenset" "__contains__" "frozenset.__contains__" :=
  .of (owner := "frozenset") (n := "__contains__") (by rw [typeLookup_type, builtinLookup_eq_fast]; kernel_rfl) (by decide +kernel) (by decide +kernel) (by decide +kernel)
    (by first | exact .inl (by decide +kernel) | exact .inr (by decide +kernel)) (by rw [isSubtype_type]; kernel_rfl)
theorem fz_args_in (a b : Value) : argsOk "frozenset.__contains__" ⟨[a, b], []⟩ := by
  unfold argsOk; rw [signature?_of (id := "frozenset.__contains__") (n := ['_', '_', 's', 'n', 'i', 'a', 't', 'n', 'o', 'c', '_', '_']) (o := ['t', 'e', 's', 'n', 'e', 'z', 'o', 'r', 'f']) (by kernel_rfl) fz_owner]; kernel_rfl
theorem fz_entry_in : entryFor table "frozenset.__contains__" = some Builtin.«frozenset.__contains__» := entryFor_of_tree (by kernel_rfl)
theorem fz_slot_dj : Slot "frozenset" "isdisjoint" "frozenset.isdisjoint" :=
  .of (owner := "frozenset") (n := "isdisjoint") (by rw [typeLookup_type, builtinLookup_eq_fast]; kernel_rfl) (by decide +kernel) (by decide +kernel) (by decide +kernel)
    (by first | exact .inl (by decide +kernel) | exact .inr (by decide +kernel)) (by rw [isSubtype_type]; kernel_rfl)
theorem fz_type_dj : typeOf (.builtin "frozenset.isdisjoint") = pure (.type "method_descriptor") := by show builtinType _ = _; rw [builtinType_eq_fast]; kernel_rfl
theorem fz_args_dj (a b : Value) : argsOk "frozenset.isdisjoint" ⟨[a, b], []⟩ := by
  unfold argsOk; rw [signature?_of (id := "frozenset.isdisjoint") (n := ['t', 'n', 'i', 'o', 'j', 's', 'i', 'd', 's', 'i']) (o := ['t', 'e', 's', 'n', 'e', 'z', 'o', 'r', 'f']) (by kernel_rfl) fz_owner]; kernel_rfl
theorem fz_entry_dj : entryFor table "frozenset.isdisjoint" = some Builtin.«frozenset.isdisjoint» := entryFor_of_tree (by kernel_rfl)
theorem fz_entry_djl : entryFor table "frozenset.isdisjoint.loop" = some Builtin.«frozenset.isdisjoint.loop» := entryFor_of_tree (by kernel_rfl)
theorem fz_plain_djl : plainId "frozenset.isdisjoint.loop" = true := by decide +kernel
theorem fz_mro : mroOf (.type "frozenset") = pure [.type "frozenset", .type "object"] := by rw [mroOf_type]; kernel_rfl
theorem fz_new_slot : typeLookup (.type "frozenset") "__new__" = pure (some (.builtin "frozenset.__new__")) := by rw [typeLookup_type, builtinLookup_eq_fast]; kernel_rfl
theorem fz_init_slot : Slot "frozenset" "__init__" "object.__init__" :=
  .of (owner := "object") (n := "__init__") (by rw [typeLookup_type, builtinLookup_eq_fast]; kernel_rfl) (by decide +kernel) (by decide +kernel) (by decide +kernel)
    (by first | exact .inl (by decide +kernel) | exact .inr (by decide +kernel)) (by rw [isSubtype_type]; kernel_rfl)
theorem fz_called : TypeCalled "frozenset" "frozenset.__new__" "object.__init__" :=
  ⟨by decide +kernel, by decide +kernel, ⟨_, _, fz_mro⟩, madeBy_type fz_mro fz_new_slot (by decide +kernel), by decide +kernel, by rw [isSubtype_type]; kernel_rfl, fz_init_slot⟩
theorem fz_tc0 : checkTypeCall "frozenset" ⟨[], []⟩ = pure () := by kernel_rfl
theorem fz_tc1 (a : Value) : checkTypeCall "frozenset" ⟨[a], []⟩ = pure () := by kernel_rfl
theorem fz_nc0 : checkBuiltinCall "frozenset.__new__" ⟨[.type "frozenset"], []⟩ = pure () := by kernel_rfl
theorem fz_nc1 (a : Value) : checkBuiltinCall "frozenset.__new__" ⟨[.type "frozenset", a], []⟩ = pure () := by kernel_rfl
theorem fz_entry_new : entryFor table "frozenset.__new__" = some Builtin.«frozenset.__new__» := entryFor_of_tree (by kernel_rfl)
/-- a frozenset of strs, and which -/
def FzObj (o : Obj) (S : Str → Bool) : Prop :=
  (o.cls = .type "frozenset" ∧ o.dict = none) ∧ ∃ es ep t, o.data = .set es ep t ∧ (∀ e ∈ es.toList, ∃ k u, e.2 = .str k u) ∧ (∀ k, S k = true ↔ ∃ e ∈ es.toList, e.2.isStr k = true) ∧ es.size < scanBound ∧ t.fits es.size = true
section
variable {prog : Program} {w : World} {A : Around} {E : Value → Shared → Prop} {s : Shared} {a : Addr} {o : Obj} {S : Str → Bool} {y : Str} {t : Tok}
theorem isStr_iff {v : Value} {k : Str} : v.isStr k = true ↔ ∃ u, v = .str k u := by
  cases v <;> simp [Value.isStr]
theorem fz_scan {es : Array (Int × Value)} {ep : Nat} {tb : SetTable} {h : Int} {adding : Bool} {Q : ScanMet → Shared → Prop} (ho : s.heap.get? a = some o) (hd : o.data = .set es ep tb) (hf : tb.fits es.size = true) (hel : ∀ e ∈ es.toList, ∃ k u, e.2 = .str k u)
    (hq : Q (match es.toList.findIdx? (fun e => e.2.isStr y) with | some j => .found j | none => .absent) s) : wpAny (model prog w) A (setScan a (.str y t) h adding es) Q E s := by
  unfold setScan
  dsimp only
  rw [if_pos (by
    rw [← Array.all_toList, List.all_eq_true]
    intro e he
    obtain ⟨k, u, e2⟩ := hel e he
    rw [e2]; rfl)]
  have hidx : es.findIdx? (fun e => e.2.isStr y) = es.toList.findIdx? (fun e => e.2.isStr y) := by cases es; simp
  unfold setScanStrs
  rw [hidx]
  cases hr : es.toList.findIdx? (fun e => e.2.isStr y) with
  | none => rw [hr] at hq; exact wpAny_pure hq
  | some j =>
    rw [hr] at hq
    obtain ⟨hj, hpj, _⟩ := List.findIdx?_eq_some_iff_getElem.mp hr
    obtain ⟨u, hu⟩ := isStr_iff.mp hpj
    have he : es[j]? = some (es.toList[j].1, es.toList[j].2) := by rw [← Array.getElem?_toList]; exact List.getElem?_eq_getElem hj
    dsimp only
    rw [he]
    dsimp only
    rw [hu]
    refine wpAny_bind (wpAny_setEpoch_of ho hd hf ?_)
    refine wpAny_bind ((strKind prog w).eqBool (a := y) (b := y) (strKind_is _ _ _ _) (strKind_is _ _ _ _) ?_)
    cases adding
    · simp only [Bool.false_and, Bool.false_eq_true, ↓reduceIte]
      refine wpAny_bind (wpAny_setEpoch_of ho hd hf ?_)
      simp only [bne_self_eq_false, Bool.false_eq_true, ↓reduceIte, decide_true]
      exact wpAny_pure hq
    · simp only [decide_true, Bool.and_self, ↓reduceIte]
      exact wpAny_pure hq
theorem fz_byScan {es : Array (Int × Value)} (hb : es.size < scanBound) (hel : ∀ e ∈ es.toList, ∃ k u, e.2 = .str k u) : byScan (.str y t) es = true := by
  simp only [byScan, Value.scannable, Bool.true_and, Bool.and_eq_true, decide_eq_true_eq]
  refine ⟨hb, ?_⟩
  rw [← Array.all_toList, List.all_eq_true]
  intro e he
  obtain ⟨k, u, e2⟩ := hel e he
  rw [e2]
theorem fz_find {h : Int} {Q : Option Nat → Shared → Prop} (ho : s.heap.get? a = some o) (hS : FzObj o S) (hq : ∀ r : Option Nat, r.isSome = S y → Q r s) : wpAny (model prog w) A (setFind a (.str y t) h) Q E s := by
  obtain ⟨_, es, ep, tb, hd, hel, hmem, hb, hf⟩ := hS
  unfold setFind setFindIn
  refine wpAny_bind (wpAny_setState_of ho hd hf ?_)
  dsimp only
  rw [fz_byScan hb hel]
  simp only [↓reduceIte]
  refine wpAny_bind (wpAny_rule ?_)
  refine wpAny_bind (fz_scan ho hd hf hel ?_)
  have hk := hmem y
  cases hr : es.toList.findIdx? (fun e => e.2.isStr y) with
  | none =>
    dsimp only
    refine wpAny_pure (hq none ?_)
    rw [Option.isSome_none, eq_comm, ← Bool.not_eq_true, hk]
    rintro ⟨e, he, hpe⟩
    have := List.findIdx?_eq_none_iff.mp hr e he
    rw [hpe] at this; exact Bool.noConfusion this
  | some j =>
    dsimp only
    refine wpAny_pure (hq (some j) ?_)
    rw [Option.isSome_some, eq_comm, hk]
    obtain ⟨hj, hpj, _⟩ := List.findIdx?_eq_some_iff_getElem.mp hr
    exact ⟨es.toList[j], List.getElem_mem hj, hpj⟩
theorem fz_contains {Q : Bool → Shared → Prop} (ho : s.heap.get? a = some o) (hS : FzObj o S) (hq : Q (S y) { s with toks := s.toks + 1 }) : wpAny (model prog w) A (setContains a (.str y t)) Q E s := by
  unfold setContains
  refine wpAny_holding (wpAny_bind ((strKind prog w).pyHash (k := y) (strKind_is _ _ _ _) ?_))
  exact wpAny_bind (fz_find (s := { s with toks := s.toks + 1 }) ho hS fun r hr => wpAny_pure (by rw [hr]; exact hq))
theorem fz_type (ho : s.heap.get? a = some o) (hS : FzObj o S) : s.TypeIs (.ref a) "frozenset" := ⟨o, ho, hS.1.1⟩
theorem fz_notIn {Q : Value → Shared → Prop} (ho : s.heap.get? a = some o) (hS : FzObj o S) (h : Q (.bool (!S y)) { s with toks := s.toks + 1 }) : wpAny (model prog w) A (compareOp .NotIn (.str y t) (.ref a)) Q E s := by
  have hT := fz_type ho hS
  show wpAny _ _ (do return .bool (!(← contains (.ref a) (.str y t)))) Q E s
  refine wpAny_bind ?_
  unfold contains
  try with_reducible refine wpAny_holding ?_
  refine wpAny_bind (wpAny_specialOf hT fz_slot_in.lookup ?_)
  show wpAny _ _ (if (some (Value.builtin "frozenset.__contains__") == some Value.none) = true then _ else _) _ E s
  rw [if_neg (by rw [beq_builtin_none]; exact Bool.false_ne_true)]
  refine wpAny_bind (wpAny_callSpecialUnlessNone?_slot (name := Str.ofString "__contains__") hT fz_slot_in
    (wpAny_call_entry fz_slot_in hT fz_entry_in ?_ (fz_args_in _ _)))
  unfold Builtin.«frozenset.__contains__» Builtin.Frozenset.oneOther
  simp only [List.isEmpty_nil, bind_assoc]
  unfold Builtin.Frozenset.addrOf Builtin.Frozenset.withSetAsKey
  refine wpAny_bind (wpAny_pure ?_)
  try dsimp only
  refine wpAny_bind (wpAny_pure ?_)
  try dsimp only
  refine wpAny_bind (wpAny_tryCatch ?_)
  refine fz_contains ho hS ?_
  exact wpAny_pure ⟨_, rfl, wpAny_truthy_bool (wpAny_pure h)⟩
theorem fz_method {pl : Sem Bool} {Q : Value × List Value → Shared → Prop} (ho : s.heap.get? a = some o) (hS : FzObj o S) (h : Q (.builtin "frozenset.isdisjoint", [.ref a]) s) :
    wpAny (model prog w) A (getMethod (.ref a) "isdisjoint" pl) Q E s :=
  getMethod_builtin (fz_type ho hS) fz_attrs fz_slot_dj fz_type_dj (fun b e => by injection e with e; subst e; exact ⟨o, ho, hS.1.2⟩) h
end
end Mine
end
section
open PySem PySem.W PyProof.Rows PySem.Calls
namespace Mine
set_option maxRecDepth 100000
section
variable {prog : Program} {w : World} {A : Around} {E : Value → Shared → Prop} {s : Shared} {a : Addr} {o : Obj} {S : Str → Bool} {y : Str} {t : Tok}
theorem all_drop_succ {l : List Nat} {i c : Nat} (p : Nat → Bool) (h : l[i]? = some c) : (l.drop i).all p = (p c && (l.drop (i + 1)).all p) := by
  obtain ⟨hlt, rfl⟩ := List.getElem?_eq_some_iff.mp h
  rw [List.drop_eq_getElem_cons hlt, List.all_cons]
theorem fz_disj_loop {I : Addr} {R : Result → Shared → Prop} {St : Nat → Heap → Prop} (W : Walks prog w A.in1 I [I] [I] y.cps.size (SignAt y) St) (haI : a ≠ I) (hS : FzObj o S) :
    ∀ (k i : Nat) (s : Shared), y.cps.size - i = k → i ≤ y.cps.size → St i s.heap → s.heap.get? a = some o →
      (∀ h' tk, (∀ b o, b ≠ I → s.heap.get? b = some o → h'.get? b = some o) → R (.ok (.ret (.bool ((y.cps.toList.drop i).all fun c => !S ⟨#[c]⟩)))) { s with heap := h', toks := tk }) →
      codeAny (model prog w) A (.builtin "frozenset.isdisjoint.loop" ⟨[.ref a, .ref I], []⟩) R s := by
  intro k
  induction k with
  | zero =>
    intro i s hk hi hst ho hR
    have hin : i = y.cps.size := by omega
    subst hin
    refine codeAny_builtin fz_entry_djl ?_
    rw [Around.under_plainId fz_plain_djl _]
    show wpAny _ A.in1 (pyNext (.ref I) >>= _) _ _ s
    refine wpAny_bind (W.done s _ _ hst fun h' tk hm => ?_)
    show wpAny _ A.in1 (ret (Value.bool true)) _ _ _
    have := hR h' tk (fun b o hb e => hm b o (by simpa using hb) e)
    rw [List.drop_eq_nil_of_le (by simp)] at this
    exact wpAny_pure this
  | succ k ih =>
    intro i s hk hi hst ho hR
    have hlt : i < y.cps.size := by omega
    refine codeAny_builtin fz_entry_djl ?_
    rw [Around.under_plainId fz_plain_djl _]
    show wpAny _ A.in1 (pyNext (.ref I) >>= _) _ _ s
    refine wpAny_bind (W.item i s _ _ hlt hst fun v h' tk hP hst' hm => ?_)
    obtain ⟨c, u, hc, rfl⟩ := hP
    have hc' : y.cps.toList[i]? = some c := by rw [Array.getElem?_toList]; exact hc
    have ho' : h'.get? a = some o := hm a o (by simpa using haI) ho
    show wpAny _ A.in1 (holding [Value.str ⟨#[c]⟩ u] (setContains a (.str ⟨#[c]⟩ u)) >>= _) _ _ _
    refine wpAny_bind (wpAny_holding (fz_contains (s := { s with heap := h', toks := tk }) ho' hS ?_))
    cases hSc : S ⟨#[c]⟩ with
    | true =>
      simp only [if_true]
      have := hR h' (tk + 1) (fun b o hb e => hm b o (by simpa using hb) e)
      rw [all_drop_succ _ hc', hSc] at this
      exact wpAny_pure this
    | false =>
      simp only [Bool.false_eq_true, if_false]
      refine wpAny_pure ⟨plainId_quiet fz_plain_djl _, ih (i + 1) _ (by omega) hlt hst' ho' fun h'' tk'' hm'' => ?_⟩
      have := hR h'' tk'' (fun b o hb e => hm'' b o hb (hm b o (by simpa using hb) e))
      rw [all_drop_succ _ hc', hSc] at this
      exact this
theorem fz_disj {Q : Value → Shared → Prop} (hA : A.handled = none) (ho : s.heap.get? a = some o) (hS : FzObj o S)
    (h : ∀ h' tk, (∀ b o, s.heap.get? b = some o → h'.get? b = some o) → Q (.bool (y.cps.toList.all fun c => !S ⟨#[c]⟩)) { s with heap := h', toks := tk }) :
    wpAny (model prog w) A (call (.builtin "frozenset.isdisjoint") [.ref a, .str y t]) Q E s := by
  refine wpAny_call (codeAny_call_builtin fz_slot_dj.plain fz_entry_dj (fz_slot_dj.check _ _ _ _ _ _ _ _ (fz_type ho hS) (fz_args_dj _ _) ?_))
  unfold Builtin.«frozenset.isdisjoint» Builtin.Frozenset.oneOther
  simp only [List.isEmpty_nil, bind_assoc]
  unfold Builtin.Frozenset.addrOf
  refine wpAny_bind (wpAny_pure ?_)
  try dsimp only
  refine wpAny_bind (wpAny_pure ?_)
  try dsimp only
  rw [if_neg (by simp)]
  refine wpAny_bind (wpAny_pure ?_)
  try dsimp only
  refine wpAny_bind (wpAny_pyIter_str fun oI St W st0 => ?_)
  refine wpAny_pure ⟨plainId_quiet fz_plain_djl _, ?_⟩
  have haI : a ≠ s.heap.objs.size := Nat.ne_of_lt (Heap.lt_size ho)
  refine fz_disj_loop (W _ hA) haI hS _ 0 _ rfl (Nat.zero_le _) st0 (Heap.get?_push_of_some _ ho) fun h' tk hm => ?_
  exact h h' tk fun b o' e => hm b o' (Nat.ne_of_lt (Heap.lt_size e)) (Heap.get?_push_of_some _ e)
end
end Mine
end
section
open PySem PySem.W PyProof.Rows PySem.Calls
namespace Mine
set_option maxRecDepth 100000
/-- a frozenset of at most n strs -/
def FzN (o : Obj) (S : Str → Bool) (n : Nat) : Prop :=
  (o.cls = .type "frozenset" ∧ o.dict = none) ∧ ∃ es ep t, o.data = .set es ep t ∧ (∀ e ∈ es.toList, ∃ k u, e.2 = .str k u) ∧ (∀ k, S k = true ↔ ∃ e ∈ es.toList, e.2.isStr k = true) ∧ es.size ≤ n ∧ t.fits es.size = true
theorem FzN.obj {o : Obj} {S : Str → Bool} {n : Nat} (h : FzN o S n) (hn : n < scanBound) : FzObj o S :=
  ⟨h.1, let ⟨es, ep, t, a, b, c, d, e⟩ := h.2; ⟨es, ep, t, a, b, c, Nat.lt_of_le_of_lt d hn, e⟩⟩
section
variable {prog : Program} {w : World} {A : Around} {E : Value → Shared → Prop} {s : Shared} {a : Addr} {o : Obj} {S S' : Str → Bool} {y : Str} {t : Tok}
theorem fz_store {es es' : Array (Int × Value)} {ep n : Nat} {tb tb' : SetTable} {Q : Unit → Shared → Prop} (hc : o.cls = .type "frozenset" ∧ o.dict = none) (ho : s.heap.get? a = some o) (hd : o.data = .set es ep tb)
    (hn : es'.size ≤ n) (hb : n < scanBound)
    (h : ∀ h' o', Heap.SameBut a s.heap h' → h'.get? a = some o' → (o'.cls = .type "frozenset" ∧ o'.dict = none) → o'.data = .set es' (ep + 1) tb' → Q () { s with heap := h' }) : wpAny (model prog w) A (storeSet a es' tb') Q E s := by
  refine wpAny_storeSet_of ho hd ?_ (fits_of_scanBound (Nat.lt_of_le_of_lt hn hb))
  have hg : (s.heap.update a (Obj.putSet es' tb')).get? a = some { o with data := .set es' (ep + 1) tb' } := by
    have := Heap.get?_update_self (Obj.putSet es' tb') ho (by rw [putSet_of es' tb' hd]; rfl)
    rw [putSet_of es' tb' hd] at this; exact this
  exact h _ _ (Heap.SameBut.update s.heap a _) hg hc rfl
set_option maxHeartbeats 1000000 in
theorem fz_add {hsh : Int} {n : Nat} {Q : Bool → Shared → Prop} (ho : s.heap.get? a = some o) (hS : FzN o S n) (hn : n + 1 < scanBound)
    (h : ∀ b h' o', Heap.SameBut a s.heap h' → h'.get? a = some o' → FzN o' (fun k => S k || decide (k = y)) (n + 1) → Q b { s with heap := h' }) : wpAny (model prog w) A (setAddHashed a (.str y t) hsh) Q E s := by
  obtain ⟨hc, es, ep, tb, hd, hel, hmem, hb, hf⟩ := hS
  unfold setAddHashed setAddHashedIn
  refine wpAny_holding (wpAny_bind (wpAny_setState_of ho hd hf ?_))
  dsimp only
  rw [fz_byScan (by omega) hel]
  simp only [↓reduceIte]
  unfold setAddByScan
  refine wpAny_bind ?_
  refine wpAny_bind (wpAny_rule ?_)
  refine wpAny_bind (fz_scan ho hd hf hel ?_)
  cases hr : es.toList.findIdx? (fun e => e.2.isStr y) with
  | some j =>
    dsimp only
    obtain ⟨hj, hpj, _⟩ := List.findIdx?_eq_some_iff_getElem.mp hr
    have hSk : S y = true := (hmem y).mpr ⟨es.toList[j], List.getElem_mem hj, hpj⟩
    refine wpAny_pure (wpAny_pure ?_)
    refine h false s.heap o (Heap.SameBut.refl a s.heap) ho ⟨hc, es, ep, tb, hd, hel, fun k => ?_, by omega, hf⟩
    rw [Bool.or_eq_true, decide_eq_true_eq, ← hmem k]
    exact ⟨fun hk => hk.elim id (fun e => e ▸ hSk), .inl⟩
  | none =>
    dsimp only
    have hgw : ∀ (b : Bool) {s₁ : Shared} {Q' : Unit → Shared → Prop}, Q' () s₁ → wpAny (model prog w) A (match b with | true => rule "set.scan.the-table-gave-way" | false => pure ()) Q' E s₁ :=
      fun b s₁ Q' hq => by cases b <;> first | exact wpAny_pure hq | exact wpAny_rule hq
    have hperm := layNew_perm tb es hsh (.str y t)
    have hfits := layNew_fits tb es hsh (.str y t)
    generalize hL : layNew tb es hsh (.str y t) = L at hperm hfits ⊢
    obtain ⟨es1, t1, wasDummy, gave⟩ := L
    dsimp only at hperm hfits ⊢
    rw [Array.toList_push] at hperm
    have hel1 : ∀ l : List (Int × Value), List.Perm l (es.toList ++ [(hsh, Value.str y t)]) → ∀ e ∈ l, ∃ k u, e.2 = .str k u := fun l p e he => by
      rcases List.mem_append.mp (p.mem_iff.mp he) with he | he
      · exact hel e he
      · rw [List.mem_singleton] at he; subst he; exact ⟨y, t, rfl⟩
    have hmem1 : ∀ l : List (Int × Value), List.Perm l (es.toList ++ [(hsh, Value.str y t)]) → ∀ k, (S k || decide (k = y)) = true ↔ ∃ e ∈ l, e.2.isStr k = true := fun l p k => by
      rw [Bool.or_eq_true, hmem k, decide_eq_true_eq]
      constructor
      · rintro (⟨e, he, hp⟩ | rfl)
        · exact ⟨e, p.mem_iff.mpr (List.mem_append_left _ he), hp⟩
        · exact ⟨(hsh, .str k t), p.mem_iff.mpr (List.mem_append_right _ (List.mem_singleton.mpr rfl)), by simp [Value.isStr]⟩
      · rintro ⟨e, he, hp⟩
        rcases List.mem_append.mp (p.mem_iff.mp he) with he | he
        · exact .inl ⟨e, he, hp⟩
        · rw [List.mem_singleton] at he; subst he
          exact .inr (by obtain ⟨u, hu⟩ := isStr_iff.mp hp; injection hu with h1 h2; exact h1.symm)
    have hsz1 : es1.size = es.size + 1 := by rw [← Array.length_toList, hperm.length_eq, List.length_append, Array.length_toList]; rfl
    refine wpAny_bind (hgw _ ?_)
    have tail : ∀ (t2 : SetTable) (Q' : Option Bool → Shared → Prop), t2.fits es1.size = true → (∀ h' o', Heap.SameBut a s.heap h' → h'.get? a = some o' → FzN o' (fun k => S k || decide (k = y)) (n + 1) → Q' (some true) { s with heap := h' }) → wpAny (model prog w) A (do
        storeSet a es1 t2
        if (!wasDummy && t2.tooFull) = true then do
            (match (relayAll t2 es1 (SetTable.grown es1.size)).2.2 with | true => rule "set.scan.the-table-gave-way" | false => pure ())
            storeSet a (relayAll t2 es1 (SetTable.grown es1.size)).1 (relayAll t2 es1 (SetTable.grown es1.size)).2.1
            pure (some true)
          else pure (some true)) Q' E s := by
      intro t2 Q' hf2 hq'
      refine wpAny_bind (fz_store hc ho hd (n := n + 1) (by omega) hn fun h1 o1 sb1 g1 c1 d1 => ?_)
      split
      · have hp := relayAll_perm t2 es1 (SetTable.grown es1.size)
        have hfr := relayAll_fits t2 es1 (SetTable.grown es1.size)
        generalize hRl : relayAll t2 es1 (SetTable.grown es1.size) = Rl at hp hfr ⊢
        obtain ⟨es2, t3, gave2⟩ := Rl
        dsimp only at hp hfr ⊢
        have hp2 := hp.trans hperm
        have hsz : es2.size = es1.size := by rw [← Array.length_toList, hp.length_eq, Array.length_toList]
        refine wpAny_bind (hgw _ ?_)
        refine wpAny_bind (fz_store (s := { s with heap := h1 }) c1 g1 d1 (n := n + 1) (by omega) hn fun h2 o2 sb2 g2 c2 d2 => ?_)
        exact wpAny_pure (hq' h2 o2 (sb1.trans sb2) g2 ⟨c2, es2, _, t3, d2, hel1 _ hp2, hmem1 _ hp2, by omega, hfr⟩)
      · exact wpAny_pure (hq' h1 o1 sb1 g1 ⟨c1, es1, _, t2, d1, hel1 _ hperm, hmem1 _ hperm, by omega, hf2⟩)
    split
    · refine wpAny_bind ?_
      rw [hashByValue_scannable 8 (x := .str y t) rfl]
      refine wpAny_pure ?_
      refine tail _ _ ?_ fun h' o' sb g F => ?_
      · split
        · exact hfits
        · exact SetTable.fits_plain_off hfits
      · dsimp only; exact wpAny_pure (h true h' o' sb g F)
    · refine wpAny_bind (wpAny_pure ?_)
      simp only [↓reduceIte]
      refine tail _ _ hfits fun h' o' sb g F => ?_
      dsimp only; exact wpAny_pure (h true h' o' sb g F)
end
end Mine
end
section
open PySem PySem.W PyProof.Rows PySem.Calls
namespace Mine
set_option maxRecDepth 100000
section
variable {prog : Program} {w : World} {A : Around} {E : Value → Shared → Prop} {s : Shared} {a : Addr} {o : Obj} {S S' : Str → Bool} {y : Str} {t : Tok}
abbrev signIn (l : List Nat) (k : Str) : Bool := l.any fun c => k == ⟨#[c]⟩
theorem signIn_succ {l : List Nat} {i c : Nat} (h : l[i]? = some c) (k : Str) : signIn (l.take (i + 1)) k = (signIn (l.take i) k || decide (k = ⟨#[c]⟩)) := by
  have e : l.take (i + 1) = l.take i ++ [c] := by
    obtain ⟨hlt, rfl⟩ := List.getElem?_eq_some_iff.mp h
    rw [List.take_succ_eq_append_getElem hlt]
  unfold signIn
  rw [e, List.any_append, List.any_cons, List.any_nil, Bool.or_false]
  congr 1
theorem fz_fill_loop {I : Addr} {R : Result → Shared → Prop} {St : Nat → Heap → Prop} (W : Walks prog w A.in1 I [I] [I] y.cps.size (SignAt y) St) (haI : a ≠ I) (hb : y.cps.size + 1 < scanBound) :
    ∀ (k i : Nat) (s : Shared) (o : Obj), y.cps.size - i = k → i ≤ y.cps.size → St i s.heap → s.heap.get? a = some o → FzN o (signIn (y.cps.toList.take i)) i →
      (∀ h' o' tk, (∀ b o, b ≠ I → b ≠ a → s.heap.get? b = some o → h'.get? b = some o) → h'.get? a = some o' → FzN o' (signIn y.cps.toList) y.cps.size → R (.ok (.ret .none)) { s with heap := h', toks := tk }) →
      codeAny (model prog w) A (.builtin "set.update.loop" ⟨[.ref a, .ref I], []⟩) R s := by
  intro k
  induction k with
  | zero =>
    intro i s o hk hi hst ho hS hR
    have hin : i = y.cps.size := by omega
    subst hin
    refine codeAny_builtin F.entry_set_update_loop ?_
    rw [Around.under_plainId F.plain_set_update_loop _]
    show wpAny _ A.in1 (pyNext (.ref I) >>= _) _ _ s
    refine wpAny_bind (W.done s _ _ hst fun h' tk hm => ?_)
    show wpAny _ A.in1 (ret Value.none) _ _ _
    rw [List.take_of_length_le (by simp)] at hS
    exact wpAny_pure (hR h' o tk (fun b o hb _ e => hm b o (by simpa using hb) e) (hm a o (by simpa using haI) ho) hS)
  | succ k ih =>
    intro i s o hk hi hst ho hS hR
    have hlt : i < y.cps.size := by omega
    refine codeAny_builtin F.entry_set_update_loop ?_
    rw [Around.under_plainId F.plain_set_update_loop _]
    show wpAny _ A.in1 (pyNext (.ref I) >>= _) _ _ s
    refine wpAny_bind (W.item i s _ _ hlt hst fun v h' tk hP hst' hm => ?_)
    obtain ⟨c, u, hc, rfl⟩ := hP
    have hc' : y.cps.toList[i]? = some c := by rw [Array.getElem?_toList]; exact hc
    have ho' : h'.get? a = some o := hm a o (by simpa using haI) ho
    show wpAny _ A.in1 (holding [Value.str ⟨#[c]⟩ u] (setAdd a (.str ⟨#[c]⟩ u)) >>= _) _ _ _
    refine wpAny_bind (wpAny_holding ?_)
    unfold setAdd
    refine wpAny_holding (wpAny_bind ((strKind prog w).pyHash (k := ⟨#[c]⟩) (strKind_is _ _ _ _) ?_))
    refine fz_add (s := { s with heap := h', toks := tk + 1 }) ho' hS (by omega) fun b h2 o2 sb g2 F2 => ?_
    have F3 : FzN o2 (signIn (y.cps.toList.take (i + 1))) (i + 1) := by
      rw [show signIn (y.cps.toList.take (i + 1)) = fun k => signIn (y.cps.toList.take i) k || decide (k = ⟨#[c]⟩) from funext (signIn_succ hc')]
      exact F2
    refine wpAny_pure ⟨plainId_quiet F.plain_set_update_loop _, ih (i + 1) _ o2 (by omega) hlt (W.frame _ h' _ hst' fun b hb o e => ?_) g2 F3 fun h3 o3 tk3 hm3 g3 F3' => ?_⟩
    · rw [sb.2 b (fun h : b = a => haI (by rw [← h]; simpa using hb))]; exact e
    · exact hR h3 o3 tk3 (fun b o hb hba e => hm3 b o hb hba (by
        show h2.get? b = some o
        rw [sb.2 b hba]; exact hm b o (by simpa using hb) e)) g3 F3'
theorem fz_fresh (led : Bool) : FzN { cls := .type "frozenset", dict := none, data := .set #[] 0 (.fresh 0 0 led) } (signIn []) 0 :=
  ⟨⟨rfl, rfl⟩, #[], 0, _, rfl, fun e he => by simp at he, fun k => by simp [signIn], Nat.le_refl _, by rfl⟩
theorem fz_newSet {Q : Value → Shared → Prop} (h : ∀ led : Bool, Q (.ref s.heap.objs.size) { s with heap := s.heap.push { cls := .type "frozenset", dict := none, data := .set #[] 0 (.fresh 0 0 led) } }) :
    wpAny (model prog w) A (newSet (.type "frozenset")) Q E s := by
  unfold newSet setsByText
  refine wpAny_bind (wpAny_bind (wpAny_askSetting (wpAny_pure ?_)))
  dsimp only
  simp only [newObj]
  exact wpAny_bind (wpAny_alloc (wpAny_pure (h _)))
theorem fz_meets0 : Meets (Builtin.«frozenset.__new__» ⟨[.type "frozenset"], []⟩) (fun _ R s => ∀ led : Bool, R (.ok (.ret (.ref s.heap.objs.size))) { s with heap := s.heap.push { cls := .type "frozenset", dict := none, data := .set #[] 0 (.fresh 0 0 led) } }) :=
  .of_wp fun prog w A R s h => by
    obtain ⟨hp, g, d, tk, os⟩ := s
    have hsub := fz_called.sub
    have hli := fz_init_slot.lookup
    unfold Builtin.«frozenset.__new__» Builtin.Frozenset.newClass
    wp_walk using fz_newSet
    intro led
    wp_walk
    exact ⟨_, rfl, h led⟩
theorem fz_sub_str_set : isSubtype (.type "str") (.type "set") = pure false := by rw [isSubtype_type]; kernel_rfl
theorem fz_updateFrom {Q : Unit → Shared → Prop} (hA : A.handled = none) (hb : y.cps.size + 1 < scanBound) (ho : s.heap.get? a = some o) (hS : FzN o (signIn []) 0)
    (h : ∀ h' o' tk, (∀ b o, b ≠ a → s.heap.get? b = some o → h'.get? b = some o) → h'.get? a = some o' → FzN o' (signIn y.cps.toList) y.cps.size → Q () { s with heap := h', toks := tk }) :
    wpAny (model prog w) A (Builtin.Frozenset.updateFrom "frozenset.__new__" a (.str y t)) Q E s := by
  have h1 := fz_sub_str_set
  have h2 := F.sub_str_frozenset
  have hT : s.TypeIs (.str y t) "str" := typeIs_str _ _ _
  unfold Builtin.Frozenset.updateFrom Builtin.Frozenset.isAnySet
  refine wpAny_bind ?_
  unfold orM
  refine wpAny_bind (wpAny_isInstance hT h1 ?_)
  show wpAny _ _ (isInstance (Value.str y t) (Value.type "frozenset")) _ _ _
  refine wpAny_isInstance hT h2 ?_
  rw [if_neg (by decide)]
  refine wpAny_bind (wpAny_typeOf hT ?_)
  rw [if_neg (by decide)]
  refine wpAny_bind (wpAny_pyIter_str fun oI St W st0 => ?_)
  refine wpAny_bind (wpAny_runValue ?_)
  have haI : a ≠ s.heap.objs.size := Nat.ne_of_lt (Heap.lt_size ho)
  refine fz_fill_loop (W _ hA) haI hb _ 0 _ o rfl (Nat.zero_le _) st0 (Heap.get?_push_of_some _ ho) (by rw [List.take_zero]; exact hS) fun h' o' tk hm g F => ?_
  exact wpAny_pure (h h' o' tk (fun b o' hb e => hm b o' (Nat.ne_of_lt (Heap.lt_size e)) hb (Heap.get?_push_of_some _ e)) g F)
theorem fz_meets1 (y : Str) (t : Tok) : Meets (Builtin.«frozenset.__new__» ⟨[.type "frozenset", .str y t], []⟩) (fun A R s => A.handled = none ∧ y.cps.size + 1 < scanBound ∧ ∀ h' o' tk, (∀ b o, s.heap.get? b = some o → h'.get? b = some o) → h'.get? s.heap.objs.size = some o' → FzN o' (signIn y.cps.toList) y.cps.size →
      R (.ok (.ret (.ref s.heap.objs.size))) { s with heap := h', toks := tk }) :=
  .of_wp fun prog w A R s h => by
    obtain ⟨hp, g, d, tk, os⟩ := s
    obtain ⟨hA, hb, hR⟩ := h
    have hsub := fz_called.sub
    have hli := fz_init_slot.lookup
    have hty : (Value.type "str" == Value.type "frozenset") = false := by decide
    unfold Builtin.«frozenset.__new__» Builtin.Frozenset.newClass Builtin.Frozenset.newFrom
    generalize hU : Builtin.Frozenset.updateFrom = U
    wp_walk using fz_newSet
    intro led
    wp_walk
    subst hU
    have hz : (hp.push { cls := .type "frozenset", dict := none, data := .set #[] 0 (.fresh 0 0 led) }).get? hp.objs.size = some { cls := .type "frozenset", dict := none, data := .set #[] 0 (.fresh 0 0 led) } := Heap.get?_push_size _ rfl
    refine fz_updateFrom (s := ⟨hp.push { cls := .type "frozenset", dict := none, data := .set #[] 0 (.fresh 0 0 led) }, g, d, tk, os⟩) hA hb hz (fz_fresh led) fun h' o' tk' hm g' F => ?_
    refine wpAny_pure (wpAny_pure ⟨_, rfl, hR h' o' tk' (fun b o e => hm b o (Nat.ne_of_lt (Heap.lt_size e)) (Heap.get?_push_of_some _ e)) g' F⟩)
end
section
variable {prog : Program} {w : World} {A : Around} {E : Value → Shared → Prop} {s : Shared} {h₀ : Heap} {L : Addr} {m : Str → Option Value} {news : Led} {y : Str} {t : Tok}
theorem fresh_news {h' : Heap} {o' : Obj} (F : Fr h₀ L s.heap m) (N : News h₀ L s.heap news) (hk : ∀ b o, s.heap.get? b = some o → h'.get? b = some o) (ho : h'.get? s.heap.objs.size = some o') :
    Fr h₀ L h' m ∧ News h₀ L h' ((s.heap.objs.size, o') :: news) := by
  refine ⟨F.keeps hk, fun q hq => ?_⟩
  rcases List.mem_cons.mp hq with rfl | hq
  · refine ⟨ho, ?_, kts_none F.keep (Heap.get?_none_of_le (Nat.le_refl _))⟩
    obtain ⟨oL, es, ep, hL, _⟩ := F.ns
    exact Nat.ne_of_gt (Heap.lt_size hL)
  · exact ⟨hk _ _ (N q hq).1, (N q hq).2⟩
theorem fz_call0 {Q : Value → Shared → Prop} (F : Fr h₀ L s.heap m) (N : News h₀ L s.heap news)
    (h : ∀ a o h', Fr h₀ L h' m → News h₀ L h' ((a, o) :: news) → (∀ q ∈ news, q.1 < a) → FzObj o (signIn []) → Q (.ref a) { s with heap := h' }) : wpAny (model prog w) A (call (.type "frozenset") []) Q E s := by
  refine callType_new fz_called (by decide) fz_tc0 fz_nc0 (fun obj => PySem.F.args_object_init_1 obj) fz_entry_new fz_meets0 fun led => ?_
  have hz : (s.heap.push { cls := .type "frozenset", dict := none, data := .set #[] 0 (.fresh 0 0 led) }).get? s.heap.objs.size = some { cls := .type "frozenset", dict := none, data := .set #[] 0 (.fresh 0 0 led) } := Heap.get?_push_size _ rfl
  obtain ⟨F', N'⟩ := fresh_news F N (fun b o e => Heap.get?_push_of_some _ e) hz
  exact ⟨⟨_, hz, rfl⟩, h _ _ _ F' N' (fun q hq => Heap.lt_size (N q hq).1) ((fz_fresh led).obj (by decide))⟩
theorem fz_call1 {Q : Value → Shared → Prop} (hA : A.handled = none) (hy : y.cps.size < 1000) (F : Fr h₀ L s.heap m) (N : News h₀ L s.heap news)
    (h : ∀ a o h' tk, Fr h₀ L h' m → News h₀ L h' ((a, o) :: news) → (∀ q ∈ news, q.1 < a) → FzObj o (signIn y.cps.toList) → Q (.ref a) { s with heap := h', toks := tk }) : wpAny (model prog w) A (call (.type "frozenset") [.str y t]) Q E s := by
  have hb : y.cps.size + 1 < scanBound := by show y.cps.size + 1 < 4096; omega
  refine callType_new fz_called (by decide) (fz_tc1 _) (fz_nc1 _) (fun obj => PySem.F.args_object_init_2 obj _) fz_entry_new (fz_meets1 y t) ⟨hA, hb, fun h' o' tk hk hz Fz => ?_⟩
  obtain ⟨F', N'⟩ := fresh_news F N hk hz
  exact ⟨⟨_, hz, Fz.1.1⟩, h _ _ _ _ F' N' (fun q hq => Heap.lt_size (N q hq).1) (Fz.obj (Nat.lt_of_succ_lt hb))⟩
end
end Mine
end
section
open PySem PySem.W PyProof.Rows PySem.Calls PySem.Builtin PySem.Builtin.Str
namespace Mine
set_option maxRecDepth 100000
local macro_rules | `(tactic| walk_at "to call") => `(tactic| repeat' (first | (k_unfold; (try dsimp only)) | ((fail_if_success (with_reducible show wpAny _ _ (call _ _ _) _ _ _)); (fail_if_success (with_reducible show wpAny _ _ (getMethod (Value.ref _) _ _) _ _ _)); first | walk1 | (dsimp only; walk1))))
theorem slice_nat {x : Str} {i k : Nat} (h1 : i ≤ k) (h2 : k ≤ x.length) : Txt.slice x (some (i : Int)) (some (k : Int)) = ⟨((x.cps.toList.drop i).take (k - i)).toArray⟩ := by
  have h3 : (k : Int) ≤ (x.cps.toList.length : Int) := Int.ofNat_le.mpr h2
  have h := slice_closes (x := x) (i := (i : Int)) (j := (k : Int)) ⟨by omega, by omega, h3⟩
  have e1 : ((i : Int)).toNat = i := rfl
  have e2 : ((k : Int) - (i : Int)).toNat = k - i := by omega
  rw [e1, e2] at h
  exact eq_of_beq h
set_option maxHeartbeats 1000000 in
theorem skipu_found {w : World} (news : Led) (b : Addr) (ob : Obj) (S : Str → Bool) (hb : (b, ob) ∈ news) (hS : FzObj ob S) (x y : Str) (i k : Nat) (rest : List Nat) (t ti ty : Tok) (hx : x.length ≤ 10000) (hi : i ≤ x.length)
    (hk : occurrences x y i x.length 1 = k :: rest) (hik : i ≤ k) (hkx : k ≤ x.length) (hdj : (((x.cps.toList.drop i).take (k - i)).all fun c => !S ⟨#[c]⟩) = true) :
    Does 2 w 75 [.str x t, .int (i : Int) ti, .str y ty] [(Str.ofString "error_on", .ref b), (Str.ofString "error_on_eof", .bool true)] news (fun v news' => (∃ tv, v = .int (k : Int) tv) ∧ news' = news) := by
  intro p loose mean mg mb dp un gd cn cs a ccd cl outer A₀ base h₀ L m s Q E B F X N T hk' hdp hun hret
  refine wpAny_call ?_
  k_dflt cell_enter
  walk_at "to call"
  refine index3_call hk ?_
  walk_at "to call"
  refine fz_method ((by assumption : News _ _ _ news) (b, ob) hb).1 hS ?_
  walk_at "to call"
  refine fz_disj rfl ((by assumption : News _ _ _ news) (b, ob) hb).1 hS fun h2 tk2 hk2 => ?_
  rw [slice_nat hik hkx, hdj]
  rename Fr _ _ _ _ => F9
  rename News _ _ _ _ => N9
  have F10 := F9.keeps hk2
  have N10 := News.keepsAll N9 hk2
  clear F9 N9 hk2
  k_steps
  rename News h₀ L _ _ => kN
  rename Fr h₀ L _ _ => kF
  exact hret _ _ _ _ ⟨⟨_, rfl⟩, rfl⟩ kF kN
end Mine
end
section
open PySem PySem.W PyProof.Rows PySem.Calls PySem.Builtin PySem.Builtin.Str
namespace Mine
set_option maxRecDepth 100000
local macro_rules | `(tactic| walk_at "to call") => `(tactic| repeat' (first | (k_unfold; (try dsimp only)) | ((fail_if_success (with_reducible show wpAny _ _ (call _ _ _) _ _ _)); (fail_if_success (with_reducible show wpAny _ _ (getMethod (Value.ref _) _ _) _ _ _)); (fail_if_success (with_reducible show wpAny _ _ (exec (Stmt.While _ _ _ _) _) _ _ _)); (fail_if_success (with_reducible show wpAny _ _ (exec (Stmt.Raise _ _ _) _) _ _ _)); (fail_if_success (with_reducible show wpAny _ _ (compareOp _ _ _) _ _ _)); first | walk1 | (dsimp only; walk1))))
/-- what a raising call of skip_until hands its caller -/
abbrev ExcT (w : World) (news : Led) (msg : Str) (A₀ : Around) (base h₀ : Heap) (outer : List Env) (env : Env) (L : Addr) (m : Str → Option Value) (s : Shared) (E : Value → Shared → Prop) : Prop :=
  ∀ h₁ G e t tm tl' h' tk', TabLed tl' → KtsTurn (frs outer) h₀ h₁ → Fr h₁ L G m → Below A₀ base outer h₁ → KtsDicts (frs outer) h₁ → RaisedS base G (env :: outer) e (.ref 58) t [.str msg tm] (tl' ++ news) h' → G.UpToSlots h' → E (.ref e) { s with heap := h', toks := tk' }
section
variable {w : World} {A : Around} {E : Value → Shared → Prop} {s : Shared} {env : Env} {h₀ : Heap}
theorem raise_toml {x : PySem.Expr} {pos : Pos} {Q : Flow → Shared → Prop} (X : (Mine.hd.heap_39 w.params).In h₀) (hh : A.handled = none)
    (h : wpAny (model PG w) A (eval x env) (fun v s₁ => ∃ e t, v = .ref e ∧ (∀ b o, h₀.get? b = some o → s₁.heap.get? b = some o) ∧ s₁.heap.get? e = some (excO 58 t) ∧ E (.ref e) s₁) E s) :
    wpAny (model PG w) A (exec (.Raise (some x) none pos) env) Q E s := by
  obtain ⟨nm, qn, Nn, bs, bm, hdct, sn, sub, ab, col, dd, k0, k1, k2, k3, k5, newId, hC, hbase⟩ := toml_cls X
  refine raise_led (C := 58) (nm := nm) (q := qn) (N := Nn) (bs := bs) (bm := bm) (hdct := hdct) (sn := sn) (sub := sub) (ab := ab) (col := col) (dd := dd) (k0 := k0) (k1 := k1) (k2 := k2) (k3 := k3) (k5 := k5) (newId := newId) hbase hh (wpAny_mono h (fun v s₁ q => ?_) fun _ _ e => e)
  obtain ⟨e, t, rfl, hk, he, hE⟩ := q
  exact ⟨e, t, rfl, hk _ _ hC, he, hE⟩
theorem raise_none_toml {x : PySem.Expr} {pos cp : Pos} {kd : Nat} {ve : Addr} {Q : Flow → Shared → Prop} (X : (Mine.hd.heap_39 w.params).In h₀) (hh : A.handled = some (.ref ve))
    (h : wpAny (model PG w) A (eval x env) (fun v s₁ => ∃ e t ov ws, v = .ref e ∧ (∀ b o, h₀.get? b = some o → s₁.heap.get? b = some o) ∧ h₀.get? e = none ∧ s₁.heap.get? e = some (excO 58 t) ∧ s₁.heap.get? ve = some ov ∧ ov.data = .fields ws ∧ ws[2]? = some .none ∧ ve ≠ e ∧
      ∀ h', (∀ b, b ≠ e → h'.get? b = s₁.heap.get? b) → h'.get? e = some { cls := .ref 58, data := .fields #[.ref t, .none, .ref ve, .none, .bool true, .none] } → E (.ref e) { s₁ with heap := h' }) E s) :
    wpAny (model PG w) A (exec (.Raise (some x) (some (.Constant .none kd cp)) pos) env) Q E s := by
  obtain ⟨nm, qn, Nn, bs, bm, hdct, sn, sub, ab, col, dd, k0, k1, k2, k3, k5, newId, hC, hbase⟩ := toml_cls X
  refine raise_none (C := 58) (nm := nm) (q := qn) (N := Nn) (bs := bs) (bm := bm) (hdct := hdct) (sn := sn) (sub := sub) (ab := ab) (col := col) (dd := dd) (k0 := k0) (k1 := k1) (k2 := k2) (k3 := k3) (k5 := k5) (newId := newId) hbase hh (wpAny_mono h (fun v s₁ q => ?_) fun _ _ e => e)
  obtain ⟨e, t, ov, ws, rfl, hk, hn, he, hv, hd, h2, hne, hE⟩ := q
  exact ⟨e, t, ov, ws, rfl, hk _ _ hC, he, hv, hd, h2, hne, fun z => (by rw [← z, hC] at hn; cases hn), hE⟩
end
set_option maxHeartbeats 1000000 in
theorem skipu_bad {w : World} (news tl : Led) (hT : TabLed tl) (h77 : ∀ p ∈ news, p.1 ≠ 77) (b : Addr) (ob : Obj) (S : Str → Bool) (hb : (b, ob) ∈ news) (hS : FzObj ob S) (x y : Str) (i j k c : Nat) (rest : List Nat) (t ti ty : Tok) (hx : x.length ≤ 10000)
    (hk : occurrences x y i x.length 1 = k :: rest) (hij : i ≤ j) (hjk : j < k) (hkx : k ≤ x.length) (hc : x.cps.toList[j]? = some c) (hSc : S ⟨#[c]⟩ = true) (hno : ∀ n d, i ≤ n → n < j → x.cps.toList[n]? = some d → S ⟨#[d]⟩ = false) (r : Str) (hr : reprText ⟨#[c]⟩ = r) (hrl : r.length ≤ 100)
   (p : Program) (loose : List Str) (mean : ExcName → Option Value) (mg mb : Str → Option Value) (dp un : Nat) (gd : Option (List Code)) (cn : Str) (cs : Scope) (a : Addr) (ccd : Value) (cl : List (Str × Addr)) (outer : List Env) (A₀ : Around) (base h₀ : Heap) (L : Addr) (m : Str → Option Value) (s : Shared) (Q E : Value → Shared → Prop)
    (B : Below A₀ base outer h₀) (F : Fr h₀ L s.heap m) (X : (Mine.hd.heap_39 w.params).In h₀) (N : News h₀ L s.heap (tl ++ news)) (T : Top p loose mean mg mb h₀) (D : KtsDicts (frs outer) h₀) (hkd : cs.kind = .function)
    (hdp : dp + 5 < recursionLimit) (hun : un + 40 < cLine) (hexc : ExcT w news (errS (Str.empty ++ Str.ofString "Found invalid character " ++ r) (coordA (x.cps.toList.take j))) A₀ base h₀ outer (envX cn cs L a ccd cl) L m s E) :
    wpAny (model PG w) (ktrTop dp un gd cn cs L a ccd cl outer) (call (.ref 75) [.str x t, .int (i : Int) ti, .str y ty] [(Str.ofString "error_on", .ref b), (Str.ofString "error_on_eof", .bool true)]) Q E s := by
  have hb' : (b, ob) ∈ tl ++ news := List.mem_append_right _ hb
  refine wpAny_call ?_
  k_dflt cell_enter
  walk_at "to call"
  refine index3_call hk ?_
  walk_at "to call"
  refine fz_method ((by assumption : News _ _ _ (tl ++ news)) (b, ob) hb').1 hS ?_
  walk_at "to call"
  refine fz_disj rfl ((by assumption : News _ _ _ (tl ++ news)) (b, ob) hb').1 hS fun h2 tk2 hk2 => ?_
  rw [slice_nat (by omega) hkx]
  have hdj : (((x.cps.toList.drop i).take (k - i)).all fun c => !S ⟨#[c]⟩) = false := by
    rw [List.all_eq_false]
    refine ⟨c, List.mem_of_getElem? (i := j - i) ?_, by simp [hSc]⟩
    rw [List.getElem?_take, if_pos (by omega), List.getElem?_drop, show i + (j - i) = j by omega, hc]
  rw [hdj]
  rename Fr _ _ _ _ => F9
  rename News _ _ _ _ => N9
  have F10 := F9.keeps hk2
  have N10 := News.keepsAll N9 hk2
  clear F9 N9 hk2
  walk_at "to call"
  refine ksw_while (σ := Nat × Tok) (fun _ => tl ++ news) (fun c => [(Str.ofString "pos", .int (c.1 : Int) c.2)]) (fun _ => True) [] (fun c => i ≤ c.1 ∧ c.1 ≤ j) (fun c => j - c.1) (i, ti)
    (by assumption) (by assumption) trivial ?_ ?_ ?_ ?_
  · intro q hq
    rw [List.mem_singleton.mp hq]
    rfl
  · exact ⟨Nat.le_refl _, hij⟩
  · rintro ⟨n, tn⟩ u h tk _ ⟨hn1, hn2⟩ F1 N1
    dsimp only at F1 hn1 hn2 ⊢
    obtain ⟨ch, hch, hit⟩ := item_eq (x := x) (k := (n : Int)) (n := n) rfl (by omega)
    walk_at "to call"
    rw [hit]
    refine fz_notIn ((by assumption : News _ _ _ (tl ++ news)) (b, ob) hb').1 hS ?_
    cases hq : S ⟨#[ch]⟩ with
    | true =>
      have hnj : n = j := by
        rcases Nat.lt_or_ge n j with q | q
        · rw [hno n ch hn1 q hch] at hq; cases hq
        · omega
      subst hnj
      obtain rfl : c = ch := Option.some.inj (hc.symm.trans hch)
      walk_at "to call"
      rename Frag.In _ _ => X1
      refine raise_toml X1 rfl ?_
      walk_at "to call"
      rw [hit]
      have hrs : (reprText ⟨#[c]⟩).length ≤ sizeLine := by rw [hr, sizeLine_eq]; omega
      refine pyReprObj_str ?_ hrs
      rw [hr]
      walk_at "to call"
      have hyl : (Str.empty ++ Str.ofString "Found invalid character " ++ r).length ≤ 1000 := by
        rw [Str.length_append, Str.length_append, lenNil, show (Str.ofString "Found invalid character ").length = 24 by decide +kernel]
        omega
      refine suff_at news tl hT h77 x n _ _ _ _ hx (by omega) hyl p loose mean mg mb _ _ _ _ _ _ _ _ _ _ _ _ _ _ _ _ _ (by k_asm) (by k_asm) (by k_asm) (by k_asm) (by k_asm) rfl (by ktr_room) (by ktr_units) ?_
      intro e t5 tm tl' h5 tk5 hT5 F5 N5 ne5
      refine ⟨e, t5, rfl, F5.keep, (N5 _ (.head _)).1, ?_⟩
      k_unfold
      (try dsimp only)
      refine leave_led (by k_asm) F5 N5 rfl rfl rfl rfl rfl ne5 ?_
      intro h6 R6 U6
      exact hexc h₀ _ e t5 tm tl' h6 _ hT5 KtsTurn.refl (by assumption) B D R6 U6
    | false =>
      have hlt : n < j := by
        rcases Nat.lt_or_ge n j with q | q
        · exact q
        · have e : n = j := by omega
          rw [e, hc] at hch
          rw [← Option.some.inj hch, hSc] at hq
          cases hq
      walk_at "to call"
      refine ksw_end (n + 1, tk + 1) (by assumption) (by assumption) (fun _ h => h) trivial ?_ ?_ ⟨by dsimp only; omega, by dsimp only; omega⟩ (by dsimp only; omega)
      · intro q hq
        rw [List.mem_singleton.mp hq]
        rfl
      · intro z hz _
        have hz' := hz _ (.head _)
        dsimp only at hz' ⊢
        rw [if_neg hz']
        dsimp only [kstB]
        rw [if_neg hz']
        rfl
  · k_steps
end Mine
end
section
open PySem PySem.W PyProof.Rows PySem.Calls PySem.Builtin PySem.Builtin.Str
namespace Mine
set_option maxRecDepth 100000
local macro_rules | `(tactic| walk_at "to call") => `(tactic| repeat' (first | (k_unfold; (try dsimp only)) | ((fail_if_success (with_reducible show wpAny _ _ (call _ _ _) _ _ _)); (fail_if_success (with_reducible show wpAny _ _ (getMethod (Value.ref _) _ _) _ _ _)); (fail_if_success (with_reducible show wpAny _ _ (exec (Stmt.Raise _ _ _) _) _ _ _)); (fail_if_success (with_reducible show wpAny _ _ (pyReprObj _) _ _ _)); first | walk1 | (dsimp only; walk1))))
local macro_rules | `(tactic| walk_at "enter turn") => `(tactic| (refine' code_defT ?k1 ?k2 ?k3 ?k4 ?k5 ?XB ?TB ?D ?kA ?kF ?kK ?k6 ?k7 ?k8 ?k9 ?kB ?_ ?c2 ?c3 ?c4 ?c5; (case kA => exact rfl); (case kF => exact rfl); (case kK => assumption); (case XB => assumption); (case TB => assumption); (case D => assumption); (case k1 => k_asm); (case k2 => k_asm); (case k3 => k_asm); (case k4 => k_asm); (case k5 => k_asm); (case k6 => k_is); (case k7 => k_is); (case k8 => ktr_room); (case k9 => exact BindsTo.of_eq rfl); (case c5 => decide); (case kB => exact locs rfl); (case c2 => exact rfl); (case c3 => exact rfl); (case c4 => exact rfl); k_whole; intro g' L' h' FG' F' N' B' X' T' D'; (try dsimp only); (try k_lift B'); (try k_fold)))
theorem raised_drop {base G : Heap} {l : List Env} {e t : Addr} {cls : Value} {vs : List Value} {news news' : Led} {h : Heap} (R : RaisedS base G l e cls t vs news h) (hs : ∀ q ∈ news', q ∈ news) : RaisedS base G l e cls t vs news' h := by
  obtain ⟨⟨B, hB, hBG, hl, hfl, hnew⟩, htup⟩ := R
  exact ⟨⟨B, hB, hBG, fun q hq => hl q (hs q hq), hfl, hnew⟩, htup⟩
theorem perm_news {q e : Addr × Obj} {tl news : Led} (h : q ∈ tl ++ (e :: news)) : q ∈ e :: (tl ++ news) := by
  rcases List.mem_append.mp h with h | h
  · exact .tail _ (List.mem_append_left _ h)
  · rcases List.mem_cons.mp h with rfl | h
    · exact .head _
    · exact .tail _ (List.mem_append_right _ h)
theorem tab77 {tl : Led} (h : TabLed tl) : ∃ o, (77, o) ∈ tl := by
  cases h with
  | none => exact ⟨_, .head _⟩
  | some _ _ => exact ⟨_, .tail _ (.head _)⟩
theorem set_head {h₀ h h' : Heap} {L e : Addr} {m : Str → Option Value} {o o' : Obj} {rest : Led} (F : Fr h₀ L h m) (N : News h₀ L h ((e, o) :: rest)) (hne : ∀ q ∈ rest, q.1 ≠ e) (hk : ∀ b, b ≠ e → h'.get? b = h.get? b) (he : h'.get? e = some o') :
    Fr h₀ L h' m ∧ News h₀ L h' ((e, o') :: rest) := by
  have n := N _ (.head _)
  refine ⟨⟨?_, fun b ob q => (hk b fun z => by rw [z, n.2.2] at q; cases q).trans (F.keep b ob q), F.above⟩, fun q hq => ?_⟩
  · obtain ⟨oL, es, ep, hL, r⟩ := F.ns
    exact ⟨oL, es, ep, (hk L (Ne.symm n.2.1)).trans hL, r⟩
  · rcases List.mem_cons.mp hq with rfl | hq
    · exact ⟨he, n.2⟩
    · exact ⟨(hk _ (hne q hq)).trans (N q (.tail _ hq)).1, (N q (.tail _ hq)).2⟩
set_option maxHeartbeats 1000000 in
theorem skipu_eof {w : World} (news tl : Led) (hT : TabLed tl) (h77 : ∀ p ∈ news, p.1 ≠ 77) (b : Addr) (x y : Str) (i : Nat) (t ti ty : Tok) (hx : x.length ≤ 10000)
    (hk : occurrences x y i x.length 1 = []) (r : Str) (hr : reprText y = r) (hrl : r.length ≤ 100)
   (p : Program) (loose : List Str) (mean : ExcName → Option Value) (mg mb : Str → Option Value) (dp un : Nat) (gd : Option (List Code)) (cn : Str) (cs : Scope) (a : Addr) (ccd : Value) (cl : List (Str × Addr)) (outer : List Env) (A₀ : Around) (base h₀ : Heap) (L : Addr) (m : Str → Option Value) (s : Shared) (Q E : Value → Shared → Prop)
    (B : Below A₀ base outer h₀) (F : Fr h₀ L s.heap m) (X : (Mine.hd.heap_39 w.params).In h₀) (N : News h₀ L s.heap (tl ++ news)) (T : Top p loose mean mg mb h₀) (XB : (Mine.hd.heap_39 w.params).In base) (TB : Top p loose mean mg mb base) (D : KtsDicts (frs outer) h₀) (hkd : cs.kind = .function)
    (hdp : dp + 5 < recursionLimit) (hun : un + 40 < cLine) (hexc : ExcT w news (errS (Str.empty ++ Str.ofString "Expected " ++ r) (Str.ofString "end of document")) A₀ base h₀ outer (envX cn cs L a ccd cl) L m s E) :
    wpAny (model PG w) (ktrTop dp un gd cn cs L a ccd cl outer) (call (.ref 75) [.str x t, .int (i : Int) ti, .str y ty] [(Str.ofString "error_on", .ref b), (Str.ofString "error_on_eof", .bool true)]) Q E s := by
  refine wpAny_call ?_
  k_dflt (walk_at "enter turn")
  rename Fr h₀ L _ _ => FG
  walk_at "to call"
  refine index3_raise rfl hk ?_
  intro h2 tk2 e hx2
  (try dsimp only)
  refine caught_own hx2 (by assumption) (by assumption) (by assumption) XB TB (by assumption) (by k_is) PyProof.Rows.Boot.«ValueError» (by decide) PySem.F.isExc_ValueError PySem.F.notTuple_ValueError (by kts_sub) ?_
  intro h3 g3 oe ws T3 F3 N3 ne3 hd3 hw3 B3 X3 P3 D3
  clear hx2
  walk_at "to call"
  (iterate 1 walk1)
  walk_at "to call"
  refine raise_none_toml X3 rfl ?_
  walk_at "to call"
  have hrs : (reprText y).length ≤ sizeLine := by rw [hr, sizeLine_eq]; omega
  refine pyReprObj_str ?_ hrs
  rw [hr]
  walk_at "to call"
  have hyl : (Str.empty ++ Str.ofString "Expected " ++ r).length ≤ 1000 := by
    rw [Str.length_append, Str.length_append, lenNil, show (Str.ofString "Expected ").length = 9 by decide +kernel]
    omega
  have h77' : ∀ p ∈ (e, oe) :: news, p.1 ≠ 77 := by
    intro q hq
    rcases List.mem_cons.mp hq with rfl | hq
    · obtain ⟨o7, h7⟩ := tab77 hT
      exact Ne.symm (ne3 _ (List.mem_append_left _ h7))
    · exact h77 q hq
  rename News g3 _ _ _ => N4
  have N4' := cb_drop N4 (fun q hq => perm_news (tl := tl) (news := news) (e := (e, oe)) hq)
  clear N4
  refine suff_eof ((e, oe) :: news) tl hT h77' x x.length _ _ _ _ (Nat.le_refl _) hx hyl p loose mean mg mb (some (.ref e)) _ _ _ _ _ _ _ _ _ _ _ _ _ _ _ _ _ (by k_asm) (by k_asm) (by k_asm) N4' (by k_asm) rfl (by ktr_room) (by ktr_units) ?_
  intro e5 t5 tm tl' h5 tk5 hT5 F5 N5 ne5
  have n5 := N5 _ (.head _)
  have nv : (e, oe) ∈ tl' ++ (e, oe) :: news := List.mem_append_right _ (.head _)
  refine ⟨e5, t5, oe, ws, rfl, F5.keep, n5.2.2, n5.1, (N5 _ (.tail _ (.tail _ nv))).1, hd3, hw3, (ne5 _ nv).1, ?_⟩
  intro h6 hk6 he6
  have hne6 : ∀ q ∈ (t5, tupO [Value.str (errS (Str.empty ++ Str.ofString "Expected " ++ r) (Str.ofString "end of document")) tm]) :: (tl' ++ (e, oe) :: news), q.1 ≠ e5 := by
    intro q hq
    rcases List.mem_cons.mp hq with rfl | hq
    · intro z
      have a1 := (N5 _ (.tail _ (.head _))).1
      rw [show ((t5, tupO [Value.str (errS (Str.empty ++ Str.ofString "Expected " ++ r) (Str.ofString "end of document")) tm]) : Addr × Obj).1 = e5 from z, n5.1] at a1
      cases a1
    · exact (ne5 q hq).1
  obtain ⟨F6, N6⟩ := set_head F5 N5 hne6 hk6 he6
  (try dsimp only)
  first | (k_unfold; (try dsimp only)) | (dsimp only [ek]) | (unfold ek)
  refine leave_led (by k_asm) F6 N6 rfl rfl rfl rfl rfl ne5 ?_
  intro h7 R7 U7
  obtain ⟨h8, T8, F8, B8⟩ := turn_back B FG (env := envX cn cs L a ccd cl) rfl T3
  exact hexc h8 g3 e5 t5 tm tl' h7 _ hT5 T8 F8 B8 (D.turn T8) (raised_drop R7 (fun q hq => by
    rcases List.mem_append.mp hq with hq | hq
    · exact List.mem_append_left _ hq
    · exact List.mem_append_right _ (.tail _ hq))) U7
end Mine
end
section
open PySem PySem.W PyProof.Rows PySem.Calls PySem.Builtin PySem.Builtin.Str PySem.Builtin.BaseException PySem.Builtin.Exceptions
namespace Mine
set_option maxRecDepth 100000
theorem bs_kind : builtinKind "BaseException.__str__" = some .slot := by decide +kernel
theorem bs_split : splitId "BaseException.__str__" = some ("BaseException", "__str__") := by decide +kernel
theorem bs_plain : plainId "BaseException.__str__" = true := by decide +kernel
theorem bs_bind (self : Value) : bindSpecial (.builtin "BaseException.__str__") self = pure (.builtin "BaseException.__str__", [self]) := by
  have hop : withoutEnding? "BaseException.__str__" "#opaque" = none := by decide +kernel
  have hdat : withoutEnding? "BaseException.__str__" "#data" = none := by decide +kernel
  simp only [bindSpecial, typeOf, builtinType, hop, hdat, bs_kind]; rfl
section
variable {w : World} {A : Around} {E : Value → Shared → Prop} {s : Shared} {e t0 : Addr} {oe : Obj} {vs : Array Value} {h₀ : Heap} {msg : Str} {tm : Tok}
theorem bs_typeOf {M : Model} {Q : Value → Shared → Prop} (he : s.heap.get? e = some oe) (hq : Q oe.cls s) : wpAny M A (typeOf (.ref e)) Q E s := by
  show wpAny M A (do let o ← loadPart e (some headPart); pure o.cls) Q E s
  exact wpAny_bind (wpAny_loadPart he (wpAny_pure hq))
theorem bs_isInst {Q : Bool → Shared → Prop} (X : (Mine.hd.heap_39 w.params).In h₀) (hk : ∀ b o, h₀.get? b = some o → s.heap.get? b = some o) (he : s.heap.get? e = some oe) (hc : oe.cls = .ref 58) (hq : Q true s) :
    wpAny (model PG w) A (isInstance (.ref e) (.type "BaseException")) Q E s := by
  obtain ⟨nm, qn, Nn, bs, bm, hdct, sn, sub, ab, col, dd, k0, k1, k2, k3, k5, newId, hC, hbase⟩ := toml_cls X
  have hcB : (Value.ref 58 :: bm).contains (.type "BaseException") = true := by rw [List.contains_cons, hbase, Bool.or_true]
  unfold isInstance
  refine wpAny_bind (bs_typeOf he ?_)
  rw [hc]
  obtain ⟨hp, g, d, tk, os⟩ := s
  refine wpAny_isSubtype_exc (hk _ _ hC) ?_
  rw [hcB]
  exact hq
theorem bs_check {Q : Unit → Shared → Prop} (X : (Mine.hd.heap_39 w.params).In h₀) (hk : ∀ b o, h₀.get? b = some o → s.heap.get? b = some o) (he : s.heap.get? e = some oe) (hc : oe.cls = .ref 58) (hq : Q () s) :
    wpAny (model PG w) A (checkBuiltinCall "BaseException.__str__" ⟨[.ref e], []⟩) Q E s := by
  simp only [checkBuiltinCall, bs_kind, bs_split]
  refine wpAny_bind (bs_isInst X hk he hc ?_)
  simp only [Bool.not_true, Bool.false_eq_true, if_false]
  have ha := PySem.F.args_bexc_str (.ref e)
  unfold argsOk at ha
  cases hsig : Manifest.signature? "BaseException.__str__" with
  | none => exact wpAny_pure hq
  | some sig =>
    simp only [hsig] at ha
    have h2 : Bind.checkArgs "BaseException.__str__" sig ⟨[.ref e], []⟩ = pure () := ha
    show wpAny _ A (Bind.checkArgs "BaseException.__str__" sig ⟨[.ref e], []⟩) Q E s
    rw [h2]; exact wpAny_pure hq
theorem bs_args {M : Model} {Q : Value × List Value → Shared → Prop} {items : List Value} (he : s.heap.get? e = some oe) (hd : oe.data = .fields vs) (h0 : vs[0]? = some (.ref t0)) (ht : s.heap.TupAt t0 items) (hq : Q (.ref t0, items) s) :
    wpAny M A (bexcArgs (.ref e)) Q E s := by
  obtain ⟨ot, k, hto, _, htd⟩ := ht
  unfold bexcArgs
  refine wpAny_bind (wpAny_field he hd h0 (wpAny_bind (wpAny_seqItems hto htd ?_)))
  have : items.toArray.toList = items := by simp
  show wpAny M A (pure (Value.ref t0, items.toArray.toList)) Q E s
  rw [this]; exact wpAny_pure hq
theorem bs_entry {Q : PySem.Fin → Shared → Prop} (he : s.heap.get? e = some oe) (hd : oe.data = .fields vs) (h0 : vs[0]? = some (.ref t0)) (ht : s.heap.TupAt t0 [.str msg tm]) (hq : Q (.done (.ret (.str msg tm))) s) :
    wpAny (model PG w) A (Builtin.«BaseException.__str__» ⟨[.ref e], []⟩) Q E s := by
  unfold Builtin.«BaseException.__str__»
  repeat (first | with_reducible refine bs_args he hd h0 ht ?_ | wp_step)
  exact hq
theorem bs_strOf {Q : Value → Shared → Prop} (hu : A.units < cLine) (X : (Mine.hd.heap_39 w.params).In h₀) (hk : ∀ b o, h₀.get? b = some o → s.heap.get? b = some o) (he : s.heap.get? e = some oe) (hc : oe.cls = .ref 58) (hd : oe.data = .fields vs) (h0 : vs[0]? = some (.ref t0)) (ht : s.heap.TupAt t0 [.str msg tm])
    (hq : Q (.str msg tm) s) : wpAny (model PG w) A (Builtin.Str.strOf (.ref e)) Q E s := by
  have L1 : Looks (model PG w) s.heap (typeLookup (.ref 58) (Str.ofString "__str__")) (some (.builtin "BaseException.__str__")) := looks_findIn (X.keeps hk) (by k_is)
  unfold Builtin.Str.strOf
  rw [if_neg (by show ¬ (false = true); decide)]
  refine wpAny_bind (wpAny_cRoomFor hu ?_)
  refine wpAny_bind ?_
  unfold callSpecial? specialOf
  refine wpAny_bind (wpAny_bind (bs_typeOf he ?_))
  rw [hc]
  refine L1.here ?_
  try dsimp only
  rw [bs_bind]
  refine wpAny_holding (wpAny_bind (wpAny_pure (wpAny_bind (wpAny_call (codeAny_call_builtin bs_plain PySem.F.entry_bexc_str (bs_check X hk he hc (bs_entry he hd h0 ht ?_)))))))
  try dsimp only
  refine wpAny_pure ?_
  try dsimp only
  refine wpAny_bind (m := asStr? _) (wpAny_pure ?_)
  try dsimp only
  rw [if_neg (by show ¬ (false = true); decide)]
  first | exact wpAny_pure hq | exact wpAny_bind (wpAny_pure (wpAny_pure hq))
theorem bs_str {Q : Value → Shared → Prop} (hu : A.units + 2 < cLine) (X : (Mine.hd.heap_39 w.params).In h₀) (hk : ∀ b o, h₀.get? b = some o → s.heap.get? b = some o) (he : s.heap.get? e = some oe) (hc : oe.cls = .ref 58) (hd : oe.data = .fields vs) (h0 : vs[0]? = some (.ref t0)) (ht : s.heap.TupAt t0 [.str msg tm])
    (hq : Q (.str msg tm) s) : wpAny (model PG w) A (call (.type "str") [.ref e]) Q E s := by
  have hm : MeetsIn PG w (Builtin.«str.__new__» ⟨[.type "str", .ref e], []⟩) (fun A' R s' => s' = s ∧ A'.units + 1 < cLine ∧ R (.ok (.ret (.str msg tm))) s) := by
    intro A' R s' hS
    obtain ⟨rfl, hu', hR⟩ := hS
    rw [str_new_tree (.ref e)]
    refine wpAny_bind (wpAny_pure ?_)
    refine wpAny_bind (wpAny_of_eq isSubtype_str_str ?_)
    exact wpAny_bind (bs_strOf (A := A'.in1) hu' X hk he hc hd h0 ht (wpAny_pure hR))
  exact callType_newIn PySem.F.called_str (by decide) (PySem.F.typeCall_str_1 _) (PySem.F.newCall_str_1 _) (fun obj => PySem.F.args_object_init_2 obj _) PySem.F.entry_str_new hm
    ⟨rfl, (show A.units + 1 + 1 < cLine from hu), typeIs_str _ _ _, hq⟩
end
end Mine
end
section
open PySem PySem.W PyProof.Rows PySem.Calls PySem.Builtin PySem.Builtin.Str
namespace Mine
set_option maxRecDepth 100000
local macro_rules | `(tactic| walk_at "to call") => `(tactic| repeat' (first | (k_unfold; (try dsimp only)) | ((fail_if_success (with_reducible show wpAny _ _ (call _ _ _) _ _ _)); (fail_if_success (with_reducible show wpAny _ _ (getMethod (Value.ref _) _ _) _ _ _)); (fail_if_success (with_reducible show wpAny _ _ (noteFrame _ _) _ _ _)); (fail_if_success (with_reducible show wpAny _ _ (pyReprObj _) _ _ _)); first | walk1 | (dsimp only; walk1))))
local macro_rules | `(tactic| walk_at "enter turn") => `(tactic| (refine' code_defT ?k1 ?k2 ?k3 ?k4 ?k5 ?XB ?TB ?D ?kA ?kF ?kK ?k6 ?k7 ?k8 ?k9 ?kB ?_ ?c2 ?c3 ?c4 ?c5; (case kA => exact rfl); (case kF => exact rfl); (case kK => assumption); (case XB => assumption); (case TB => assumption); (case D => assumption); (case k1 => k_asm); (case k2 => k_asm); (case k3 => k_asm); (case k4 => k_asm); (case k5 => k_asm); (case k6 => k_is); (case k7 => k_is); (case k8 => ktr_room); (case k9 => exact BindsTo.of_eq rfl); (case c5 => decide); (case kB => exact locs rfl); (case c2 => exact rfl); (case c3 => exact rfl); (case c4 => exact rfl); k_whole; intro g' L' h' FG' F' N' B' X' T' D'; (try dsimp only); (try k_lift B'); (try k_fold)))
abbrev DoesT (k : Nat) (w : World) (f : Addr) (vs : List Value) (kw : List (Str × Value)) (tl news : Led) (Post : Value → Prop) : Prop :=
  ∀ (p : Program) (loose : List Str) (mean : ExcName → Option Value) (mg mb : Str → Option Value) (dp un : Nat) (gd : Option (List Code)) (cn : Str) (cs : Scope) (a : Addr) (ccd : Value) (cl : List (Str × Addr)) (outer : List Env) (A₀ : Around) (base h₀ : Heap) (L : Addr) (m : Str → Option Value) (s : Shared) (Q E : Value → Shared → Prop),
    Below A₀ base outer h₀ → Fr h₀ L s.heap m → (Mine.hd.heap_39 w.params).In h₀ → News h₀ L s.heap (tl ++ news) → Top p loose mean mg mb h₀ → (Mine.hd.heap_39 w.params).In base → Top p loose mean mg mb base → KtsDicts (frs outer) h₀ → cs.kind = .function →
    dp + k < recursionLimit → un + 8 * k < cLine →
    (∀ v tl' h₁ h' tk', Post v → TabLed tl' → KtsTurn (frs outer) h₀ h₁ → Fr h₁ L h' m → News h₁ L h' (tl' ++ news) → Below A₀ base outer h₁ → (Mine.hd.heap_39 w.params).In h₁ → Top p loose mean mg mb h₁ → KtsDicts (frs outer) h₁ → Q v { s with heap := h', toks := tk' }) →
    wpAny (model PG w) (ktrTop dp un gd cn cs L a ccd cl outer) (call (.ref f) vs kw) Q E s
abbrev MARK : Str := Str.ofString "\r\n.\r\n"
abbrev eofS : Str := errS (Str.empty ++ Str.ofString "Expected " ++ Str.ofString "'\\r\\n.\\r\\n'") (Str.ofString "end of document")
theorem repr_mark : reprText MARK = Str.ofString "'\\r\\n.\\r\\n'" := by decide +kernel
set_option maxHeartbeats 1000000 in
theorem lend_eof {w : World} (news tl : Led) (hT : TabLed tl) (h77 : ∀ p ∈ news, p.1 ≠ 77) (b : Addr) (x : Str) (i : Nat) (t ti : Tok) (hx : x.length ≤ 10000)
    (hk : occurrences x MARK i x.length 1 = []) :
    DoesT 7 w 108 [.str x t, .int (i : Int) ti, .ref b] [] tl news (fun v => ∃ tv, v = .str eofS tv) := by
  intro p loose mean mg mb dp un gd cn cs a ccd cl outer A₀ base h₀ L m s Q E B F X N T XB TB D hkd hdp hun hret
  refine wpAny_call ?_
  k_dflt (walk_at "enter turn")
  rename Fr h₀ L _ _ => FG
  walk_at "to call"
  refine skipu_eof news tl hT h77 b x MARK i _ _ _ hx hk _ repr_mark (by decide +kernel) p loose mean mg mb _ _ _ _ _ _ _ _ _ _ _ _ _ _ _ _ _ (by k_asm) (by k_asm) (by k_asm) (by k_asm) (by k_asm) (by assumption) (by assumption) (by assumption) rfl (by ktr_room) (by ktr_units) ?_
  intro h₁ G e t2 tm tl' h2 tk2 hT2 T2 F2 B2 D2 R2 U2
  refine caught_SOB R2 F2 B2 U2 XB TB D2 T2 (by k_is) (by kts_isx) ?_
  intro h3 g3 n3 tk3 T3 F3 N3 G3 N3' B3 X3 P3 D3
  walk_at "to call"
  obtain ⟨oe, ot, ws, nt, m1, m2, c1, d1, w0, c2, d2⟩ := G3
  refine bs_str (by ktr_units) X3 F3.keep (N3 _ m1).1 c1 d1 w0 ⟨ot, nt, (N3 _ m2).1, c2, d2⟩ ?_
  walk_at "to call"
  exact ⟨g3, _, _, tl' ++ news, T3, by assumption, by assumption, fun h4 T4 F4 N4 B4 X4 P4 D4 => hret _ tl' h4 _ _ ⟨tm, rfl⟩ hT2 T4 F4 N4 B4 X4 P4 D4⟩
abbrev badS (r : Str) (l : List Nat) : Str := errS (Str.empty ++ Str.ofString "Found invalid character " ++ r) (coordA l)
set_option maxHeartbeats 1000000 in
theorem lend_bad {w : World} (news tl : Led) (hT : TabLed tl) (h77 : ∀ p ∈ news, p.1 ≠ 77) (b : Addr) (ob : Obj) (S : Str → Bool) (hb : (b, ob) ∈ news) (hS : FzObj ob S) (x : Str) (i j k c : Nat) (rest : List Nat) (t ti : Tok) (hx : x.length ≤ 10000)
    (hk : occurrences x MARK i x.length 1 = k :: rest) (hij : i ≤ j) (hjk : j < k) (hkx : k ≤ x.length) (hc : x.cps.toList[j]? = some c) (hSc : S ⟨#[c]⟩ = true) (hno : ∀ n d, i ≤ n → n < j → x.cps.toList[n]? = some d → S ⟨#[d]⟩ = false) (r : Str) (hr : reprText ⟨#[c]⟩ = r) (hrl : r.length ≤ 100) :
    DoesT 7 w 108 [.str x t, .int (i : Int) ti, .ref b] [] tl news (fun v => ∃ tv, v = .str (badS r (x.cps.toList.take j)) tv) := by
  intro p loose mean mg mb dp un gd cn cs a ccd cl outer A₀ base h₀ L m s Q E B F X N T XB TB D hkd hdp hun hret
  refine wpAny_call ?_
  k_dflt (walk_at "enter turn")
  rename Fr h₀ L _ _ => FG
  walk_at "to call"
  refine skipu_bad news tl hT h77 b ob S hb hS x MARK i j k c rest _ _ _ hx hk hij hjk hkx hc hSc hno r hr hrl p loose mean mg mb _ _ _ _ _ _ _ _ _ _ _ _ _ _ _ _ _ (by k_asm) (by k_asm) (by k_asm) (by k_asm) (by k_asm) (by assumption) rfl (by ktr_room) (by ktr_units) ?_
  intro h₁ G e t2 tm tl' h2 tk2 hT2 T2 F2 B2 D2 R2 U2
  refine caught_SOB R2 F2 B2 U2 XB TB D2 T2 (by k_is) (by kts_isx) ?_
  intro h3 g3 n3 tk3 T3 F3 N3 G3 N3' B3 X3 P3 D3
  walk_at "to call"
  obtain ⟨oe, ot, ws, nt, m1, m2, c1, d1, w0, c2, d2⟩ := G3
  refine bs_str (by ktr_units) X3 F3.keep (N3 _ m1).1 c1 d1 w0 ⟨ot, nt, (N3 _ m2).1, c2, d2⟩ ?_
  walk_at "to call"
  exact ⟨g3, _, _, tl' ++ news, T3, by assumption, by assumption, fun h4 T4 F4 N4 B4 X4 P4 D4 => hret _ tl' h4 _ _ ⟨tm, rfl⟩ hT2 T4 F4 N4 B4 X4 P4 D4⟩
set_option maxHeartbeats 1000000 in
theorem lend_ok {w : World} (news tl : Led) (hT : TabLed tl) (b : Addr) (ob : Obj) (S : Str → Bool) (hb : (b, ob) ∈ news) (hS : FzObj ob S) (x : Str) (i k : Nat) (rest : List Nat) (t ti : Tok) (hx : x.length ≤ 10000)
    (hk : occurrences x MARK i x.length 1 = k :: rest) (hik : i ≤ k) (hkx : k ≤ x.length) (hdj : (((x.cps.toList.drop i).take (k - i)).all fun c => !S ⟨#[c]⟩) = true) :
    DoesT 7 w 108 [.str x t, .int (i : Int) ti, .ref b] [] tl news (fun v => ∃ tv, v = .int (k : Int) tv) := by
  intro p loose mean mg mb dp un gd cn cs a ccd cl outer A₀ base h₀ L m s Q E B F X N T XB TB D hkd hdp hun hret
  refine wpAny_call ?_
  k_dflt (walk_at "enter turn")
  rename Fr h₀ L _ _ => FG
  walk_at "to call"
  refine skipu_found (tl ++ news) b ob S (List.mem_append_right _ hb) hS x MARK i k rest _ _ _ hx (Nat.le_trans hik hkx) hk hik hkx hdj p loose mean mg mb _ _ _ _ _ _ _ _ _ _ _ _ _ _ _ _ _ (by k_asm) (by k_asm) (by k_asm) (by k_asm) (by k_asm) rfl (by ktr_room) (by ktr_units) ?_
  rintro v news' h1 tk1 ⟨⟨t1, rfl⟩, rfl⟩ F1 N1
  walk_at "to call"
  exact ⟨_, _, _, tl ++ news, KtsTurn.refl, F1, N1, fun h4 T4 F4 N4 B4 X4 P4 D4 => hret _ tl h4 _ _ ⟨t1, rfl⟩ hT T4 F4 N4 B4 X4 P4 D4⟩
end Mine
end
section
open PySem PySem.W PyProof.Rows PySem.Calls PySem.Builtin PySem.Builtin.Str
namespace Mine
set_option maxRecDepth 100000
abbrev CRLF : Str := Str.ofString "\r\n"
/-- what _law_end gives from a place -/
inductive EndAt (x : Str) (S : Str → Bool) (p : Nat) : Dat → Prop
  | ok {k : Nat} {rest : List Nat} : occurrences x MARK p x.length 1 = k :: rest → p ≤ k → k ≤ x.length → (((x.cps.toList.drop p).take (k - p)).all fun c => !S ⟨#[c]⟩) = true → EndAt x S p (.int (k : Int))
  | bad {j k c : Nat} {rest : List Nat} {r : Str} : occurrences x MARK p x.length 1 = k :: rest → p ≤ j → j < k → k ≤ x.length → x.cps.toList[j]? = some c → S ⟨#[c]⟩ = true → (∀ n d, p ≤ n → n < j → x.cps.toList[n]? = some d → S ⟨#[d]⟩ = false) → reprText ⟨#[c]⟩ = r → r.length ≤ 100 → EndAt x S p (.str (badS r (x.cps.toList.take j)))
  | eof : occurrences x MARK p x.length 1 = [] → EndAt x S p (.str eofS)
abbrev DoesL (k : Nat) (w : World) (f : Addr) (vs : List Value) (kw : List (Str × Value)) (tl news : Led) (Post : Value → Led → Prop) : Prop :=
  ∀ (p : Program) (loose : List Str) (mean : ExcName → Option Value) (mg mb : Str → Option Value) (dp un : Nat) (gd : Option (List Code)) (cn : Str) (cs : Scope) (a : Addr) (ccd : Value) (cl : List (Str × Addr)) (outer : List Env) (A₀ : Around) (base h₀ : Heap) (L : Addr) (m : Str → Option Value) (s : Shared) (Q E : Value → Shared → Prop),
    Below A₀ base outer h₀ → Fr h₀ L s.heap m → (Mine.hd.heap_39 w.params).In h₀ → News h₀ L s.heap (tl ++ news) → Top p loose mean mg mb h₀ → (Mine.hd.heap_39 w.params).In base → Top p loose mean mg mb base → KtsDicts (frs outer) h₀ → cs.kind = .function →
    dp + k < recursionLimit → un + 8 * k < cLine →
    (∀ v tl' add h₁ h' tk', Post v add → TabLed tl' → KtsTurn (frs outer) h₀ h₁ → Fr h₁ L h' m → News h₁ L h' (tl' ++ (add ++ news)) → Below A₀ base outer h₁ → (Mine.hd.heap_39 w.params).In h₁ → Top p loose mean mg mb h₁ → KtsDicts (frs outer) h₁ → Q v { s with heap := h', toks := tk' }) →
    wpAny (model PG w) (ktrTop dp un gd cn cs L a ccd cl outer) (call (.ref f) vs kw) Q E s
/-- a value that is no place of the heap -/
inductive Flat : Value → Dat → Prop
  | int (i : Int) (t : Tok) : Flat (.int i t) (.int i)
  | str (x : Str) (t : Tok) : Flat (.str x t) (.str x)
theorem Flat.datIn {v : Value} {d : Dat} (h : Flat v d) (news : Led) : DatIn news v d := by
  cases h with
  | int i t => exact .int i t
  | str x t => exact .str x t
theorem lend_does {w : World} (news tl : Led) (hT : TabLed tl) (h77 : ∀ p ∈ news, p.1 ≠ 77) (b : Addr) (ob : Obj) (S : Str → Bool) (hb : (b, ob) ∈ news) (hS : FzObj ob S) (x : Str) (i : Nat) (d : Dat) (t ti : Tok) (hx : x.length ≤ 10000) (h : EndAt x S i d) :
    DoesT 7 w 108 [.str x t, .int (i : Int) ti, .ref b] [] tl news (fun v => Flat v d) := by
  cases h with
  | ok h1 h2 h3 h4 =>
    intro p loose mean mg mb dp un gd cn cs a ccd cl outer A₀ base h₀ L m s Q E B F X N T XB TB D hkd hdp hun hret
    exact lend_ok news tl hT b ob S hb hS x i _ _ t ti hx h1 h2 h3 h4 p loose mean mg mb dp un gd cn cs a ccd cl outer A₀ base h₀ L m s Q E B F X N T XB TB D hkd hdp hun fun v tl' h₁ h' tk' hv => by obtain ⟨tv, rfl⟩ := hv; exact hret _ tl' h₁ h' tk' (.int _ _)
  | bad h1 h2 h3 h4 h5 h6 h7 h8 h9 =>
    intro p loose mean mg mb dp un gd cn cs a ccd cl outer A₀ base h₀ L m s Q E B F X N T XB TB D hkd hdp hun hret
    exact lend_bad news tl hT h77 b ob S hb hS x i _ _ _ _ t ti hx h1 h2 h3 h4 h5 h6 h7 _ h8 h9 p loose mean mg mb dp un gd cn cs a ccd cl outer A₀ base h₀ L m s Q E B F X N T XB TB D hkd hdp hun fun v tl' h₁ h' tk' hv => by obtain ⟨tv, rfl⟩ := hv; exact hret _ tl' h₁ h' tk' (.str _ _)
  | eof h1 =>
    intro p loose mean mg mb dp un gd cn cs a ccd cl outer A₀ base h₀ L m s Q E B F X N T XB TB D hkd hdp hun hret
    exact lend_eof news tl hT h77 b x i t ti hx h1 p loose mean mg mb dp un gd cn cs a ccd cl outer A₀ base h₀ L m s Q E B F X N T XB TB D hkd hdp hun fun v tl' h₁ h' tk' hv => by obtain ⟨tv, rfl⟩ := hv; exact hret _ tl' h₁ h' tk' (.str _ _)
/-- one row of the stream: from p to q -/
structure RowAt (x : Str) (S : Str → Bool) (p q : Nat) (told : Dat) : Prop where
  crlf : ∃ rest, occurrences x CRLF p x.length 1 = q :: rest
  stop : q + 2 ≤ x.length
  dots : p + dotsAt (x.cps.toList.drop p) ≤ q
  told : EndAt x S p told
abbrev rowD (x : Str) (p q : Nat) (told : Dat) : Dat :=
  .list [.int (dotsAt (x.cps.toList.drop p) : Nat), .str ⟨((x.cps.toList.drop (p + dotsAt (x.cps.toList.drop p))).take (q - (p + dotsAt (x.cps.toList.drop p)))).toArray⟩, told]
inductive RowsAt (x : Str) (S : Str → Bool) (k : Nat) : Nat → List Dat → Nat → Prop
  | done {p : Nat} : k < p → RowsAt x S k p [] p
  | row {p q p' : Nat} {told : Dat} {ds : List Dat} : p ≤ k → RowAt x S p q told → RowsAt x S k (q + 2) ds p' → RowsAt x S k p (rowD x p q told :: ds) p'
abbrev noS : Str → Bool := signIn []
inductive MailsAt (x : Str) (S : Str → Bool) : Nat → Dat → List Dat → Prop
  | done {p : Nat} : MailsAt x S p (.str eofS) [.str eofS]
  | mail {p k p' : Nat} {d : Dat} {ds rest : List Dat} : RowsAt x S k p ds p' → EndAt x noS (k + 5) d → MailsAt x S (k + 5) d rest → MailsAt x S p (.int (k : Int)) (ds ++ .int (k : Int) :: rest)
end Mine
end
section
open PySem PySem.W PyProof.Rows PySem.Calls PySem.Builtin PySem.Builtin.Str
namespace Mine
set_option maxRecDepth 100000
def WNext (I : Nat → Shared → Prop) (n : Nat) (s : Shared) : Prop := ∃ m, m < n ∧ I m s
theorem wnext {I : Nat → Shared → Prop} {n : Nat} {s : Shared} (m : Nat) (hm : m < n) (h : I m s) : WNext I n s := ⟨m, hm, h⟩
section
variable {prog : Program} {w : World} {A : Around} {E : Value → Shared → Prop} {s : Shared} {env : Env} {test : PySem.Expr} {body : List Stmt} {Q : Flow → Shared → Prop} {pos : Pos}
/-- a while whose state is told by a predicate of one's own -/
theorem whl_inv (I : Nat → Shared → Prop) (n : Nat) (h : I n s)
    (turn : ∀ n s, I n s → wpAny (model prog w) A (isTrue test env (eval test env)) (fun b s₂ => if b = true then wpAny (model prog w) A (execs body env) (fun f s₃ => match f with | .next => WNext I n s₃ | .cont => WNext I n s₃ | .brk => Q .next s₃ | .ret v => Q (.ret v) s₃) E s₂ else Q .next s₂) E s)
    (hE : PassesOwn (model prog w) A env E := by passes_own) : wpAny (model prog w) A (exec (.While test body [] pos) env) Q E s := by
  refine whl_start 0 ?_
  have key : ∀ N n s, n < N → I n s → WhlRest prog w A E env test body [] Q 0 s := by
    intro N
    induction N with
    | zero => intro n s hn; exact absurd hn (Nat.not_lt_zero _)
    | succ N ih =>
      intro n s hn hI
      refine whl_turn (k := 0) hE (wpAny_mono (turn n s hI) (fun b s₂ q => ?_) fun _ _ e => e)
      cases b with
      | false =>
        refine WhlIf.no rfl ?_
        rw [if_neg Bool.false_ne_true] at q
        exact wpAny_pure q
      | true =>
        refine WhlIf.yes rfl ?_
        rw [if_pos rfl] at q
        refine wpAny_mono q (fun f s₃ z => ?_) fun _ _ e => e
        cases f with
        | next => obtain ⟨m, hm, hI'⟩ := z; exact ih m s₃ (by omega) hI'
        | cont => obtain ⟨m, hm, hI'⟩ := z; exact ih m s₃ (by omega) hI'
        | brk => exact z
        | ret v => exact z
  exact key (n + 1) n s (Nat.lt_succ_self n) h
end
theorem kstB_self {m : Str → Option Value} {ps : List (Str × Value)} (h : ∀ p ∈ ps, m p.1 = some p.2) : kstB m ps = m := funext fun _ => kstB_eq h fun _ => rfl
/-- the state of _law_taken -/
def TS (w : World) (x : Str) (t : Tok) (b l : Addr) (news : Led) (p : Program) (loose : List Str) (mean : ExcName → Option Value) (mg mb : Str → Option Value) (A : Around) (base g : Heap) (ol : List Env) (L : Addr) (s : Shared) (pl : Nat) (d : Dat) (ds : List Dat) (s' : Shared) : Prop :=
  ∃ gr tl rest vs n u tp ve h tk, s' = { s with heap := h, toks := tk } ∧ TabLed tl ∧ KtsTurn (frs ol) g gr ∧
    Fr gr L h (kstB u [(Str.ofString "stream", .str x t), (Str.ofString "barred", .ref b), (Str.ofString "taken", .ref l), (Str.ofString "place", .int (pl : Int) tp), (Str.ofString "end", ve)]) ∧
    News gr L h ((l, W.listOf (vs : List Value).toArray n) :: (tl ++ (rest ++ news))) ∧ (∀ q ∈ tl ++ (rest ++ news), q.1 ≠ l) ∧ (∀ q ∈ (l, W.listOf (vs : List Value).toArray n) :: (rest ++ news), q.1 ≠ 77) ∧ DatAll rest vs ds ∧ Flat ve d ∧ vs.length = ds.length ∧
    Below A base ol gr ∧ (Mine.hd.heap_39 w.params).In gr ∧ Top p loose mean mg mb gr ∧ KtsDicts (frs ol) gr
theorem ts_mk {w : World} {x : Str} {t : Tok} {b l : Addr} {news : Led} {p : Program} {loose : List Str} {mean : ExcName → Option Value} {mg mb : Str → Option Value} {A : Around} {base g : Heap} {ol : List Env} {L : Addr} {s : Shared} {pl : Nat} {d : Dat} {ds : List Dat}
    {gr : Heap} {tl rest : Led} {vs : List Value} {n : Nat} {m' : Str → Option Value} {tp : Tok} {ve : Value} {h : Heap} {tk : Nat} (hT : TabLed tl) (T : KtsTurn (frs ol) g gr) (F : Fr gr L h m')
    (h1 : m' (Str.ofString "stream") = some (.str x t)) (h2 : m' (Str.ofString "barred") = some (.ref b)) (h3 : m' (Str.ofString "taken") = some (.ref l)) (h4 : m' (Str.ofString "place") = some (.int (pl : Int) tp)) (h5 : m' (Str.ofString "end") = some ve)
    (N : News gr L h ((l, W.listOf (vs : List Value).toArray n) :: (tl ++ (rest ++ news)))) (hl : ∀ q ∈ tl ++ (rest ++ news), q.1 ≠ l) (h77 : ∀ q ∈ (l, W.listOf (vs : List Value).toArray n) :: (rest ++ news), q.1 ≠ 77) (D : DatAll rest vs ds) (hv : Flat ve d)
    (B : Below A base ol gr) (X : (Mine.hd.heap_39 w.params).In gr) (P : Top p loose mean mg mb gr) (Dd : KtsDicts (frs ol) gr) : TS w x t b l news p loose mean mg mb A base g ol L s pl d ds { s with heap := h, toks := tk } := by
  refine ⟨gr, tl, rest, vs, n, m', tp, ve, h, tk, rfl, hT, T, ?_, N, hl, h77, D, hv, D.length, B, X, P, Dd⟩
  rw [kstB_self]
  · exact F
  · intro q hq
    simp only [List.mem_cons, List.not_mem_nil, or_false] at hq
    rcases hq with rfl | rfl | rfl | rfl | rfl
    · exact h1
    · exact h2
    · exact h3
    · exact h4
    · exact h5
theorem mem_front {q a : Addr × Obj} {tl r : Led} : q ∈ tl ++ (a :: r) ↔ q ∈ a :: (tl ++ r) := by
  simp only [List.mem_append, List.mem_cons]
  constructor
  · rintro (h | h | h)
    · exact .inr (.inl h)
    · exact .inl h
    · exact .inr (.inr h)
  · rintro (h | h | h)
    · exact .inr (.inl h)
    · exact .inl h
    · exact .inr (.inr h)
theorem mem_front2 {q a b : Addr × Obj} {tl r : Led} : q ∈ tl ++ (a :: b :: r) ↔ q ∈ a :: b :: (tl ++ r) := by
  rw [mem_front, List.mem_cons, mem_front, ← List.mem_cons]
theorem tab_ne {h₀ h : Heap} {L l : Addr} {tl r : Led} {vs : Array Value} {n : Nat} (hT : TabLed tl) (N : News h₀ L h (tl ++ r)) (hl : h.get? l = some (W.listOf vs n)) : ∀ q ∈ tl, q.1 ≠ l := by
  intro q hq z
  have n1 := (N q (List.mem_append_left _ hq)).1
  rw [z, hl] at n1
  have e := Option.some.inj n1
  cases hT with
  | none =>
    rw [List.mem_singleton.mp hq] at e
    cases e
  | some hd _ =>
    rcases List.mem_cons.mp hq with rfl | hq
    · have e2 : (W.listOf vs n).data = _ := congrArg Obj.data e
      rw [hd] at e2
      cases e2
    · rw [List.mem_singleton.mp hq] at e
      cases e
end Mine
end
section
open PySem PySem.W PyProof.Rows PySem.Calls PySem.Builtin PySem.Builtin.Str
namespace Mine
set_option maxRecDepth 100000
section
variable {prog : Program} {w : World} {A : Around} {E : Value → Shared → Prop} {s : Shared} {env : Env} {h₀ : Heap} {x : Str} {body : List Stmt} {Q : Flow → Shared → Prop}
/-- a for over a range downward, by a predicate of one's own -/
theorem range_down {r : Addr} {a₀ b₀ : Int} {t₀ u₀ v₀ : Tok} {n : Nat} {m₀ : Str → Option Value} {news : Led} (J : Nat → (Str → Option Value) → Led → Prop)
    (hh : A.handled = none) (hr : IsRange s.heap r a₀ b₀ (-1) t₀ u₀ v₀) (hsmall : Builtin.Range.small a₀ b₀ (-1) = true) (hsz : Builtin.Range.rangeSize a₀ b₀ (-1) = (n : Int)) (F : Fr h₀ env.locals s.heap m₀) (N : News h₀ env.locals s.heap news) (hj : J 0 m₀ news)
    (turn : ∀ i t m₁ nx h tk own, i < n → OwnOff own (nx.map (·.1)) → J i m₁ nx → Fr h₀ env.locals h (fun y => if y = x then some (.int (a₀ - (i : Int)) t) else m₁ y) → News h₀ env.locals h (nx ++ own) →
      wpAny (model prog w) A (execs body env) (InvPostG h₀ env.locals (J (i + 1)) own { s with heap := h, toks := tk } Q) E { s with heap := h, toks := tk })
    (done : ∀ m₁ nx h tk, J n m₁ nx → Fr h₀ env.locals h m₁ → News h₀ env.locals h nx → Q .next { s with heap := h, toks := tk }) :
    wpAny (model prog w) A (pyIter (.ref r)) (fun it s₂ => LoopAtV prog w A h₀ env x body Q E it s₂) E s := by
  refine wpAny_pyIter_range hr hsmall ?_
  have W : Walks prog w A s.heap.objs.size [s.heap.objs.size] [s.heap.objs.size] n (fun i v => i < n ∧ ∃ t, v = .int (a₀ + i * (-1)) t)
      (fun i h => IsRangeIter h s.heap.objs.size (a₀ + (i : Nat) * (-1)) ((n : Int) - (i : Nat)) (-1)) := (Walks.range hh _ a₀ (-1) n).bound
  refine kdr_loop J W (fun _ h => h) (fun _ h => h) ?_ ?_ ?_ ?_ (by show IsRangeIter _ _ _ _ _; rw [hsz]; simpa using Heap.get?_push_size _ rfl) (F.push _) (fun p hp => ⟨Heap.get?_push_of_some _ (N p hp).1, (N p hp).2⟩) hj ?_ ?_
  · intro i h hi b hb
    rw [List.mem_singleton.mp hb]
    exact ⟨_, hi⟩
  · intro hm
    exact absurd F.ns.lt ((List.mem_singleton.mp hm) ▸ Nat.lt_irrefl _)
  · intro b hb
    rw [List.mem_singleton.mp hb]
    exact next_is_new F
  · intro p hp hI
    exact absurd (Heap.lt_size (N p hp).1) ((List.mem_singleton.mp hI) ▸ Nat.lt_irrefl _)
  · rintro i v m₁ nx h tk own hi ⟨_, t, rfl⟩ hoff hJ F₁ N₁
    have e1 : a₀ + (i : Int) * (-1) = a₀ - (i : Int) := by omega
    rw [e1] at F₁
    exact turn i t m₁ nx h tk own hi hoff hJ F₁ N₁
  · exact fun m₁ nx h tk hJ F₁ N₁ => done m₁ nx h tk hJ F₁ N₁
end
end Mine
end
section
open PySem PySem.W PyProof.Rows PySem.Builtin PySem.Builtin.Str PySem.StrLaws
namespace Mine
/-- the first place of a pattern in a list -/
def firstAt (y : List Nat) : List Nat → Option Nat
  | [] => if y.isPrefixOf [] then some 0 else none
  | c :: l => if y.isPrefixOf (c :: l) then some 0 else (firstAt y l).map (· + 1)
theorem pre_iff {y l : List Nat} : y.isPrefixOf l = true ↔ l.take y.length = y := by
  rw [List.isPrefixOf_iff_prefix, List.prefix_iff_eq_take]
  exact eq_comm
theorem at_pre {x : Str} {y : Str} {i : Nat} : At x y x.length i ↔ (i + y.length ≤ x.length ∧ y.cps.toList.isPrefixOf (x.cps.toList.drop i) = true) := by
  unfold At
  rw [subAt_eq, pre_iff]
  have e : y.length = y.cps.toList.length := rfl
  rw [e]
  simp
theorem firstAt_some {y : List Nat} : ∀ {l : List Nat} {k : Nat}, firstAt y l = some k → y.isPrefixOf (l.drop k) = true ∧ ∀ j, j < k → y.isPrefixOf (l.drop j) = false
  | [], k, h => by
    unfold firstAt at h
    split at h
    · rename_i hp
      cases h
      exact ⟨hp, fun j hj => absurd hj (Nat.not_lt_zero _)⟩
    · cases h
  | c :: l, k, h => by
    unfold firstAt at h
    split at h
    · rename_i hp
      cases h
      exact ⟨hp, fun j hj => absurd hj (Nat.not_lt_zero _)⟩
    · rename_i hp
      cases hf : firstAt y l with
      | none => rw [hf] at h; cases h
      | some n =>
        rw [hf] at h
        cases h
        obtain ⟨h1, h2⟩ := firstAt_some hf
        refine ⟨h1, fun j hj => ?_⟩
        cases j with
        | zero => exact Bool.eq_false_iff.mpr hp
        | succ j => exact h2 j (Nat.lt_of_succ_lt_succ hj)
theorem firstAt_none {y : List Nat} : ∀ {l : List Nat}, firstAt y l = none → ∀ j, j ≤ l.length → y.isPrefixOf (l.drop j) = false
  | [], h => by
    unfold firstAt at h
    split at h
    · cases h
    · rename_i hp
      intro j hj
      rw [List.drop_nil]
      exact Bool.eq_false_iff.mpr hp
  | c :: l, h => by
    unfold firstAt at h
    split at h
    · cases h
    · rename_i hp
      cases hf : firstAt y l with
      | some n => rw [hf] at h; cases h
      | none =>
        intro j hj
        cases j with
        | zero => exact Bool.eq_false_iff.mpr hp
        | succ j => exact firstAt_none hf j (by simpa using hj)
theorem occ_some {x y : Str} {p k : Nat} (hy : 0 < y.length) (h : firstAt y.cps.toList (x.cps.toList.drop p) = some k) : ∃ rest, occurrences x y p x.length 1 = (p + k) :: rest := by
  obtain ⟨h1, h2⟩ := firstAt_some h
  rw [List.drop_drop] at h1
  have hlen : p + k + y.length ≤ x.length := by
    have := pre_iff.mp h1
    have := congrArg List.length this
    rw [List.length_take, List.length_drop] at this
    have e : y.cps.toList.length = y.length := rfl
    have e2 : x.cps.toList.length = x.length := rfl
    omega
  have hat : At x y x.length (p + k) := at_pre.mpr ⟨hlen, h1⟩
  rcases occ_head_from x y p 1 (Nat.le_refl 1) with ⟨_, hn⟩ | ⟨i, r, h0, hlo, hi, hn⟩
  · exact absurd hat (hn (p + k) (by omega))
  · refine ⟨r, ?_⟩
    rw [h0]
    congr 1
    rcases Nat.lt_trichotomy i (p + k) with hlt | heq | hgt
    · have := h2 (i - p) (by omega)
      rw [List.drop_drop, show p + (i - p) = i by omega] at this
      rw [(at_pre.mp hi).2] at this
      cases this
    · exact heq
    · exact absurd hat (hn (p + k) (by omega) hgt)
theorem occ_none' {x y : Str} {p : Nat} (h : firstAt y.cps.toList (x.cps.toList.drop p) = none) : occurrences x y p x.length 1 = [] := by
  rcases occ_head_from x y p 1 (Nat.le_refl 1) with ⟨h0, _⟩ | ⟨i, r, h0, hlo, hi, hn⟩
  · exact h0
  · have hi' := at_pre.mp hi
    have := firstAt_none h (i - p) (by
      rw [List.length_drop]
      have e2 : x.cps.toList.length = x.length := rfl
      rw [e2]
      omega)
    rw [List.drop_drop, show p + (i - p) = i by omega, hi'.2] at this
    cases this
end Mine
end
section
open PySem PySem.W PyProof.Rows PySem.Builtin PySem.Builtin.Str PySem.StrLaws
namespace Mine
abbrev MK : List Nat := [13, 10, 46, 13, 10]
theorem mark_list : MARK.cps.toList = MK := by decide +kernel
theorem crlf_list : CRLF.cps.toList = [13, 10] := by decide +kernel
def dotL (r : List Nat) : List Nat := if r.head? = some 46 then 46 :: r else r
def bodyL (rows : List (List Nat)) : List Nat := (rows.map fun r => dotL r ++ [13, 10]).flatten
abbrev Clean (r : List Nat) : Prop := ∀ c ∈ r, c ≠ 13 ∧ c ≠ 10
theorem dotL_clean {r : List Nat} (h : Clean r) : Clean (dotL r) := by
  unfold dotL
  split
  · intro c hc
    rcases List.mem_cons.mp hc with rfl | hc
    · decide
    · exact h c hc
  · exact h
theorem bodyL_cons (r : List Nat) (rs : List (List Nat)) : bodyL (r :: rs) = dotL r ++ 13 :: 10 :: bodyL rs := by simp [bodyL]
theorem fa_skip {y : List Nat} {c a : Nat} {l : List Nat} (h : c ≠ a) : firstAt (a :: y) (c :: l) = (firstAt (a :: y) l).map (· + 1) := by
  conv => lhs; unfold firstAt
  rw [if_neg]
  intro q
  have := pre_iff.mp q
  simp only [List.length_cons, List.take_succ_cons, List.cons.injEq] at this
  exact h this.1
theorem fa_clean {y : List Nat} {a : Nat} {l : List Nat} : ∀ {d : List Nat}, (∀ c ∈ d, c ≠ a) → firstAt (a :: y) (d ++ l) = (firstAt (a :: y) l).map (· + d.length)
  | [], _ => by
    cases h : firstAt (a :: y) l <;> simp [h]
  | c :: d, h => by
    rw [List.cons_append, fa_skip (h c (.head _)), fa_clean (fun c hc => h c (.tail _ hc))]
    cases firstAt (a :: y) l with
    | none => rfl
    | some n => simp only [Option.map_some, List.length_cons]; congr 1
theorem crlf_row {d l : List Nat} (h : Clean d) : firstAt [13, 10] (d ++ 13 :: 10 :: l) = some d.length := by
  rw [fa_clean (fun c hc => (h c hc).1)]
  have : firstAt [13, 10] (13 :: 10 :: l) = some 0 := by
    unfold firstAt
    rw [if_pos (pre_iff.mpr rfl)]
  rw [this]
  simp
theorem mark_end {l : List Nat} : firstAt MK (13 :: 10 :: 46 :: 13 :: 10 :: l) = some 0 := by
  unfold firstAt
  rw [if_pos (pre_iff.mpr rfl)]
theorem mark_step {r l : List Nat} : firstAt MK (13 :: 10 :: (dotL r ++ 13 :: 10 :: l)) = (firstAt MK (dotL r ++ 13 :: 10 :: l)).map (· + 2) := by
  conv => lhs; unfold firstAt
  rw [if_neg]
  · rw [fa_skip (by decide), Option.map_map]
    rfl
  · intro q
    have q2 := pre_iff.mp q
    unfold dotL at q2
    cases r with
    | nil => simp [MK] at q2
    | cons c r =>
      by_cases hc : c = 46
      · subst hc
        simp [MK] at q2
      · simp [MK, hc] at q2
theorem mark_body {post : List Nat} : ∀ {rows : List (List Nat)}, rows ≠ [] → (∀ r ∈ rows, Clean r) → firstAt MK (bodyL rows ++ 46 :: 13 :: 10 :: post) = some ((bodyL rows).length - 2)
  | [], h, _ => absurd rfl h
  | [r], _, hc => by
    rw [bodyL_cons]
    have e : (dotL r ++ 13 :: 10 :: bodyL []) ++ 46 :: 13 :: 10 :: post = dotL r ++ 13 :: 10 :: 46 :: 13 :: 10 :: post := by simp [bodyL]
    rw [e, fa_clean (fun c hc' => (dotL_clean (hc r (.head _)) c hc').1), mark_end]
    simp [bodyL]
  | r :: r2 :: rs, _, hc => by
    have ih := mark_body (post := post) (rows := r2 :: rs) (by simp) (fun r hr => hc r (.tail _ hr))
    rw [bodyL_cons r (r2 :: rs)]
    have e : (dotL r ++ 13 :: 10 :: bodyL (r2 :: rs)) ++ 46 :: 13 :: 10 :: post = dotL r ++ 13 :: 10 :: (dotL r2 ++ 13 :: 10 :: (bodyL rs ++ 46 :: 13 :: 10 :: post)) := by simp [bodyL_cons]
    have e2 : dotL r2 ++ 13 :: 10 :: (bodyL rs ++ 46 :: 13 :: 10 :: post) = bodyL (r2 :: rs) ++ 46 :: 13 :: 10 :: post := by simp [bodyL_cons]
    rw [e, fa_clean (fun c hc' => (dotL_clean (hc r (.head _)) c hc').1), mark_step, e2, ih]
    have hl : 2 ≤ (bodyL (r2 :: rs)).length := by rw [bodyL_cons]; simp; omega
    simp only [Option.map_some, List.length_append, List.length_cons]
    congr 1
    omega
end Mine
end
section
open PySem PySem.W PyProof.Rows PySem.Builtin PySem.Builtin.Str PySem.StrLaws
namespace Mine
def msgD (ch line col : Nat) : Str := errS (Str.empty ++ Str.ofString "Found invalid character " ++ reprText ⟨#[ch]⟩) (Str.empty ++ Str.ofString "line " ++ Str.ofString (toString ((line : Nat) : Int)) ++ Str.ofString ", column " ++ Str.ofString (toString ((col : Nat) : Int)))
def toldD (sg : List Nat) (k : Nat) : Nat → List (List Nat) → Dat
  | _, [] => .int (k : Int)
  | line, r :: rs => match (dotL r).findIdx? (fun c => sg.contains c) with
    | some c => .str (msgD ((dotL r).getD c 0) line (c + 1))
    | none => toldD sg k (line + 1) rs
theorem signIn_contains (sg : List Nat) (c : Nat) : signIn sg ⟨#[c]⟩ = sg.contains c := by
  unfold signIn
  induction sg with
  | nil => rfl
  | cons a l ih =>
    rw [List.any_cons, ih, List.contains_cons]
    congr 1
    by_cases q : c = a
    · subst q; simp
    · have : (c == a) = false := by simpa using q
      rw [this]
      simp [q]
theorem lineL_clean {pre d : List Nat} (h : Clean d) : lineL (pre ++ d) = lineL pre := by
  unfold lineL
  rw [List.count_append, List.count_eq_zero.mpr (fun hc => (h 10 hc).2 rfl)]
theorem colL_clean {pre d : List Nat} (h : Clean d) (hp : colL pre = 1) : colL (pre ++ d) = d.length + 1 := by
  unfold colL at hp ⊢
  rw [List.reverse_append, List.takeWhile_append_of_pos (fun c hc => by simpa using (h c (List.mem_reverse.mp hc)).2)]
  rw [List.length_append, List.length_reverse]
  omega
theorem lineL_nl {pre d : List Nat} (h : Clean d) : lineL (pre ++ (d ++ [13, 10])) = lineL pre + 1 := by
  have := lineL_clean (pre := pre) h
  unfold lineL at this ⊢
  rw [← List.append_assoc, List.count_append]
  simp only [List.count_cons, List.count_nil]
  simp
  simp at this
  omega
theorem colL_nl {pre d : List Nat} : colL (pre ++ (d ++ [13, 10])) = 1 := by
  unfold colL
  simp
theorem end_told {x : Str} {sg : List Nat} {k p0 : Nat} {rest post : List Nat} (hocc : occurrences x MARK p0 x.length 1 = k :: rest) (hkx : k ≤ x.length) (hpk : p0 ≤ k) (hsg : ∀ c ∈ sg, c ≠ 13 ∧ c ≠ 10 ∧ (reprText ⟨#[c]⟩).length ≤ 100) :
    ∀ (rs : List (List Nat)) (pre : List Nat), x.cps.toList = pre ++ (bodyL rs ++ post) → k + 2 = pre.length + (bodyL rs).length → p0 ≤ pre.length → (∀ n d, p0 ≤ n → n < pre.length → x.cps.toList[n]? = some d → sg.contains d = false) →
      (∀ r ∈ rs, Clean r) → colL pre = 1 → EndAt x (signIn sg) p0 (toldD sg k (lineL pre) rs) := by
  intro rs
  induction rs with
  | nil =>
    intro pre hx hk hp hno _ _
    refine EndAt.ok hocc hpk hkx ?_
    rw [List.all_eq_true]
    intro c hc
    rw [signIn_contains]
    obtain ⟨i, hi⟩ := List.getElem?_of_mem hc
    rw [List.getElem?_take] at hi
    split at hi
    · rename_i hlt
      rw [List.getElem?_drop] at hi
      simp only [bodyL, List.map_nil, List.flatten_nil, List.length_nil] at hk
      rw [hno (p0 + i) c (by omega) (by omega) hi]
      rfl
    · cases hi
  | cons r rs ih =>
    intro pre hx hk hp hno hc hcol
    have hcd := dotL_clean (hc r (.head _))
    rw [bodyL_cons] at hx hk
    unfold toldD
    cases hf : (dotL r).findIdx? (fun c => sg.contains c) with
    | some c =>
      dsimp only
      obtain ⟨hlt, hbad, hbefore⟩ := List.findIdx?_eq_some_iff_getElem.mp hf
      have hget : x.cps.toList[pre.length + c]? = some (dotL r)[c] := by
        rw [hx, List.getElem?_append_right (by omega), show pre.length + c - pre.length = c by omega]
        simp [List.getElem?_append_left, hlt]
      have hmem : (dotL r)[c] ∈ sg := by simpa using hbad
      have htake : x.cps.toList.take (pre.length + c) = pre ++ (dotL r).take c := by
        rw [hx, List.take_append, List.take_of_length_le (by omega), show pre.length + c - pre.length = c by omega]
        congr 1
        rw [List.append_assoc, List.take_append_of_le_length (by omega)]
      have hbefore' : ∀ n d, p0 ≤ n → n < pre.length + c → x.cps.toList[n]? = some d → signIn sg ⟨#[d]⟩ = false := by
        intro n d h1 h2 h3
        rw [signIn_contains]
        rcases Nat.lt_or_ge n pre.length with q | q
        · exact hno n d h1 q h3
        · rw [hx, List.getElem?_append_right q, List.append_assoc, List.getElem?_append_left (by omega)] at h3
          obtain ⟨h4, h5⟩ := List.getElem?_eq_some_iff.mp h3
          have := hbefore (n - pre.length) (by omega)
          rw [h5] at this
          simpa using this
      have e := EndAt.bad (x := x) (S := signIn sg) (p := p0) hocc (by omega : p0 ≤ pre.length + c) (by simp at hk; omega) hkx hget (by rw [signIn_contains]; exact hbad) hbefore' rfl (hsg _ hmem).2.2
      rw [htake] at e
      have hct : Clean ((dotL r).take c) := fun d hd => hcd d (List.mem_of_mem_take hd)
      have el : lineL (pre ++ (dotL r).take c) = lineL pre := lineL_clean hct
      have ec : colL (pre ++ (dotL r).take c) = c + 1 := by rw [colL_clean hct hcol, List.length_take]; omega
      unfold badS coordA at e
      rw [el, ec] at e
      unfold msgD
      rw [show (dotL r).getD c 0 = (dotL r)[c] by simp [List.getD, hlt]]
      exact e
    | none =>
      dsimp only
      have h2 := List.findIdx?_eq_none_iff.mp hf
      have := ih (pre ++ (dotL r ++ [13, 10])) (by rw [hx]; simp) (by rw [hk]; simp; omega) (by simp; omega) (by
        intro n d h1 hn h3
        rcases Nat.lt_or_ge n pre.length with q | q
        · exact hno n d h1 q h3
        · have hn' : n < pre.length + ((dotL r).length + 2) := by simpa using hn
          rw [hx, List.getElem?_append_right q, show (dotL r ++ 13 :: 10 :: bodyL rs) ++ post = (dotL r ++ [13, 10]) ++ (bodyL rs ++ post) by simp, List.getElem?_append_left (by simp; omega)] at h3
          have hm := List.mem_of_getElem? h3
          rcases List.mem_append.mp hm with hm | hm
          · exact h2 d hm
          · apply Bool.eq_false_iff.mpr
            intro q2
            have q3 : d ∈ sg := by simpa using q2
            simp only [List.mem_cons, List.not_mem_nil, or_false] at hm
            rcases hm with rfl | rfl
            · exact (hsg _ q3).1 rfl
            · exact (hsg _ q3).2.1 rfl) (fun r' hr => hc r' (.tail _ hr)) colL_nl
      rw [lineL_nl hcd] at this
      exact this
end Mine
end
section
open PySem PySem.W PyProof.Rows PySem.Builtin PySem.Builtin.Str PySem.StrLaws
namespace Mine
def rowsD (sg : List Nat) (k : Nat) : Nat → List (List Nat) → List Dat
  | _, [] => []
  | line, r :: rs => .list [.int (dotsAt (dotL r) : Nat), .str ⟨((dotL r).drop (dotsAt (dotL r))).toArray⟩, toldD sg k line (r :: rs)] :: rowsD sg k (line + 1) rs
theorem dots_app {d l : List Nat} {c : Nat} (hc : c ≠ 46) : dotsAt (d ++ c :: l) = dotsAt d ∧ dotsAt d ≤ d.length := by
  induction d with
  | nil =>
    have : (c == 46) = false := by simpa using hc
    simp [dotsAt, this]
  | cons a d ih =>
    by_cases ha : a = 46
    · subst ha
      obtain ⟨h1, h2⟩ := ih
      have e1 : ∀ l', dotsAt (46 :: l') = dotsAt l' + 1 := fun l' => by simp [dotsAt]
      rw [List.cons_append, e1, e1, h1]
      exact ⟨rfl, by simp only [List.length_cons]; omega⟩
    · have : (a == 46) = false := by simpa using ha
      simp [dotsAt, this]
theorem rows_at {x : Str} {sg post : List Nat} {k : Nat} (hsg : ∀ c ∈ sg, c ≠ 13 ∧ c ≠ 10 ∧ (reprText ⟨#[c]⟩).length ≤ 100) :
    ∀ (rs : List (List Nat)) (pre : List Nat), x.cps.toList = pre ++ (bodyL rs ++ 46 :: 13 :: 10 :: post) → k + 2 = pre.length + (bodyL rs).length → (∀ r ∈ rs, Clean r) → colL pre = 1 →
      RowsAt x (signIn sg) k pre.length (rowsD sg k (lineL pre) rs) (k + 2) := by
  intro rs
  induction rs with
  | nil =>
    intro pre hx hk hc hcol
    have : pre.length = k + 2 := by simp [bodyL] at hk; omega
    rw [this]
    exact RowsAt.done (by omega)
  | cons r rs ih =>
    intro pre hx hk hc hcol
    have hcd := dotL_clean (hc r (.head _))
    have hk' := hk
    rw [bodyL_cons] at hk'
    simp only [List.length_append, List.length_cons] at hk'
    have hxl : x.length = pre.length + ((bodyL (r :: rs)).length + (post.length + 3)) := by
      have := congrArg List.length hx
      simp only [List.length_append, List.length_cons] at this
      exact this.trans (by omega)
    have hdrop : x.cps.toList.drop pre.length = dotL r ++ 13 :: 10 :: (bodyL rs ++ 46 :: 13 :: 10 :: post) := by
      rw [hx, List.drop_left, bodyL_cons]
      simp
    have hdrop2 : x.cps.toList.drop pre.length = bodyL (r :: rs) ++ 46 :: 13 :: 10 :: post := by rw [hx, List.drop_left]
    obtain ⟨hd1, hd2⟩ := dots_app (d := dotL r) (l := 10 :: (bodyL rs ++ 46 :: 13 :: 10 :: post)) (c := 13) (by decide)
    obtain ⟨r1, ho1⟩ := occ_some (x := x) (y := CRLF) (p := pre.length) (k := (dotL r).length) (by decide +kernel) (by rw [crlf_list, hdrop]; exact crlf_row hcd)
    obtain ⟨r2, ho2⟩ := occ_some (x := x) (y := MARK) (p := pre.length) (k := (bodyL (r :: rs)).length - 2) (by decide +kernel) (by rw [mark_list, hdrop2]; exact mark_body (by simp) hc)
    have ek : pre.length + ((bodyL (r :: rs)).length - 2) = k := by omega
    rw [ek] at ho2
    have ht : EndAt x (signIn sg) pre.length (toldD sg k (lineL pre) (r :: rs)) := end_told ho2 (by omega) (by omega) hsg (r :: rs) pre hx hk (Nat.le_refl _) (fun n d h1 h2 => absurd h1 (by omega)) hc hcol
    have hrow : RowAt x (signIn sg) pre.length (pre.length + (dotL r).length) (toldD sg k (lineL pre) (r :: rs)) := ⟨⟨r1, ho1⟩, by rw [hxl, bodyL_cons]; simp only [List.length_append, List.length_cons]; omega, by rw [hdrop, hd1]; omega, ht⟩
    have ih' := ih (pre ++ (dotL r ++ [13, 10])) (by rw [hx, bodyL_cons]; simp) (by simp only [List.length_append, List.length_cons, List.length_nil]; omega) (fun r' hr => hc r' (.tail _ hr)) colL_nl
    rw [lineL_nl hcd] at ih'
    have el : (pre ++ (dotL r ++ [13, 10])).length = pre.length + (dotL r).length + 2 := by simp only [List.length_append, List.length_cons, List.length_nil]; omega
    rw [el] at ih'
    have := RowsAt.row (by omega : pre.length ≤ k) hrow ih'
    have e1 : dotsAt (x.cps.toList.drop pre.length) = dotsAt (dotL r) := by rw [hdrop, hd1]
    have e2 : (x.cps.toList.drop (pre.length + dotsAt (dotL r))).take (pre.length + (dotL r).length - (pre.length + dotsAt (dotL r))) = (dotL r).drop (dotsAt (dotL r)) := by
      rw [← List.drop_drop, hdrop, List.drop_append_of_le_length hd2, List.take_append_of_le_length (by simp; omega), List.take_of_length_le (by simp; omega)]
    unfold rowD at this
    rw [e1, e2] at this
    exact this
def streamL : List (List (List Nat)) → List Nat
  | [] => []
  | rows :: ms => bodyL rows ++ 46 :: 13 :: 10 :: streamL ms
def endD (place : Nat) : List (List (List Nat)) → Dat
  | [] => .str eofS
  | rows :: _ => .int ((place + (bodyL rows).length - 2 : Nat) : Int)
def mailsD (sg : List Nat) : Nat → Nat → List (List (List Nat)) → List Dat
  | _, _, [] => [.str eofS]
  | place, line, rows :: ms => rowsD sg (place + (bodyL rows).length - 2) line rows ++ .int ((place + (bodyL rows).length - 2 : Nat) : Int) :: mailsD sg (place + (bodyL rows).length + 3) (line + rows.length + 1) ms
theorem body_ge {rows : List (List Nat)} (h : rows ≠ []) : 2 ≤ (bodyL rows).length := by
  cases rows with
  | nil => exact absurd rfl h
  | cons r rs => rw [bodyL_cons]; simp; omega
theorem lineL_body {pre : List Nat} : ∀ {rows : List (List Nat)}, (∀ r ∈ rows, Clean r) → (pre ++ bodyL rows).count 10 = pre.count 10 + rows.length
  | [], _ => by simp [bodyL]
  | r :: rs, h => by
    have ih := lineL_body (pre := pre) (rows := rs) (fun r' hr => h r' (.tail _ hr))
    rw [List.count_append] at ih
    rw [bodyL_cons, List.count_append, List.count_append, List.count_eq_zero.mpr (fun hc => (dotL_clean (h r (.head _)) 10 hc).2 rfl)]
    simp only [List.count_cons, List.length_cons]
    simp
    omega
theorem mails_at {x : Str} {sg : List Nat} (hsg : ∀ c ∈ sg, c ≠ 13 ∧ c ≠ 10 ∧ (reprText ⟨#[c]⟩).length ≤ 100) :
    ∀ (ms : List (List (List Nat))) (pre : List Nat), x.cps.toList = pre ++ streamL ms → (∀ rows ∈ ms, rows ≠ [] ∧ ∀ r ∈ rows, Clean r) → colL pre = 1 →
      EndAt x noS pre.length (endD pre.length ms) ∧ MailsAt x (signIn sg) pre.length (endD pre.length ms) (mailsD sg pre.length (lineL pre) ms) := by
  intro ms
  induction ms with
  | nil =>
    intro pre hx _ _
    refine ⟨EndAt.eof (occ_none' ?_), MailsAt.done⟩
    rw [hx, List.drop_left, mark_list]
    rfl
  | cons rows ms ih =>
    intro pre hx hms hcol
    obtain ⟨hne, hcl⟩ := hms rows (.head _)
    have hge := body_ge hne
    have hdrop : x.cps.toList.drop pre.length = bodyL rows ++ 46 :: 13 :: 10 :: streamL ms := by rw [hx, List.drop_left]; rfl
    obtain ⟨r2, ho2⟩ := occ_some (x := x) (y := MARK) (p := pre.length) (k := (bodyL rows).length - 2) (by decide +kernel) (by rw [mark_list, hdrop]; exact mark_body hne hcl)
    have hxl : x.length = pre.length + ((bodyL rows).length + ((streamL ms).length + 3)) := by
      have := congrArg List.length hx
      simp only [streamL, List.length_append, List.length_cons] at this
      exact this.trans (by omega)
    have ek : pre.length + ((bodyL rows).length - 2) = pre.length + (bodyL rows).length - 2 := by omega
    rw [ek] at ho2
    have hx2 : x.cps.toList = (pre ++ (bodyL rows ++ [46, 13, 10])) ++ streamL ms := by rw [hx]; simp [streamL]
    have hcol2 : colL (pre ++ (bodyL rows ++ [46, 13, 10])) = 1 := by unfold colL; simp
    have hline2 : lineL (pre ++ (bodyL rows ++ [46, 13, 10])) = lineL pre + rows.length + 1 := by
      have := lineL_body (pre := pre) hcl
      unfold lineL
      rw [← List.append_assoc, List.count_append, this]
      simp
      omega
    have hlen2 : (pre ++ (bodyL rows ++ [46, 13, 10])).length = pre.length + (bodyL rows).length + 3 := by simp; omega
    obtain ⟨i1, i2⟩ := ih (pre ++ (bodyL rows ++ [46, 13, 10])) hx2 (fun r hr => hms r (.tail _ hr)) hcol2
    rw [hline2, hlen2] at i2
    rw [hlen2] at i1
    have e5 : pre.length + (bodyL rows).length - 2 + 5 = pre.length + (bodyL rows).length + 3 := by omega
    refine ⟨EndAt.ok ho2 (by omega) (by omega) (by simp [noS, signIn]), ?_⟩
    refine MailsAt.mail (k := pre.length + (bodyL rows).length - 2) (rows_at hsg rows pre hx (by omega) hcl hcol) (d := endD (pre.length + (bodyL rows).length + 3) ms) ?_ ?_
    · rw [e5]; exact i1
    · rw [e5]; exact i2
end Mine
end
section
open PySem PySem.W PyProof.Rows PySem.Builtin PySem.Builtin.Str PySem.StrLaws
namespace Mine
/-- the parts between a pattern's places -/
def splitN (y : List Nat) : Nat → List Nat → List (List Nat)
  | 0, l => [l]
  | n + 1, l => match firstAt y l with
    | none => [l]
    | some k => l.take k :: splitN y n (l.drop (k + y.length))
theorem firstAt_of {x y : Str} {a c : Nat} (h1 : a ≤ c) (h2 : At x y x.length c) (h3 : ∀ k, a ≤ k → k < c → ¬ At x y x.length k) (hy : 1 ≤ y.length) : firstAt y.cps.toList (x.cps.toList.drop a) = some (c - a) := by
  have e2 : x.cps.toList.length = x.length := rfl
  cases hf : firstAt y.cps.toList (x.cps.toList.drop a) with
  | none =>
    have := firstAt_none hf (c - a) (by rw [List.length_drop, e2]; have := h2.1; omega)
    rw [List.drop_drop, show a + (c - a) = c by omega, (at_pre.mp h2).2] at this
    cases this
  | some k =>
    obtain ⟨g1, g2⟩ := firstAt_some hf
    congr 1
    rw [List.drop_drop] at g1
    rcases Nat.lt_trichotomy k (c - a) with q | q | q
    · have hlen : a + k + y.length ≤ x.length := by
        have := congrArg List.length (pre_iff.mp g1)
        rw [List.length_take, List.length_drop] at this
        have e : y.cps.toList.length = y.length := rfl
        omega
      exact absurd (at_pre.mpr ⟨hlen, g1⟩) (h3 (a + k) (by omega) (by omega))
    · exact q
    · have := g2 (c - a) q
      rw [List.drop_drop, show a + (c - a) = c by omega, (at_pre.mp h2).2] at this
      cases this
theorem firstAt_no {x y : Str} {a : Nat} (h : ∀ k, a ≤ k → ¬ At x y x.length k) (hy : 1 ≤ y.length) : firstAt y.cps.toList (x.cps.toList.drop a) = none := by
  cases hf : firstAt y.cps.toList (x.cps.toList.drop a) with
  | none => rfl
  | some k =>
    obtain ⟨g1, _⟩ := firstAt_some hf
    rw [List.drop_drop] at g1
    have hlen : a + k + y.length ≤ x.length := by
      have := congrArg List.length (pre_iff.mp g1)
      rw [List.length_take, List.length_drop] at this
      have e : y.cps.toList.length = y.length := rfl
      have e2 : x.cps.toList.length = x.length := rfl
      omega
    exact absurd (at_pre.mpr ⟨hlen, g1⟩) (h (a + k) (by omega))
theorem parts_list {x y : Str} (hy : 1 ≤ y.length) : ∀ (cuts : List Nat) (a f n : Nat), ChainG x y x.length a cuts f → (∀ k, f ≤ k → ¬ At x y x.length k) → cuts.length ≤ n → (partsFrom x y.length a cuts).map (·.cps.toList) = splitN y.cps.toList n (x.cps.toList.drop a)
  | [], a, f, n, h, hn, _ => by
    have e : f = a := h
    subst e
    have e0 : (partsFrom x y.length f []).map (·.cps.toList) = [x.cps.toList.drop f] := by
      show [(strSub x f x.length).cps.toList] = _
      rw [strSub_toList, List.take_of_length_le (by rw [List.length_drop]; exact Nat.le_refl _)]
    rw [e0]
    cases n with
    | zero => rfl
    | succ n => unfold splitN; rw [firstAt_no hn hy]
  | c :: r, a, f, n, h, hn, hl => by
    cases n with
    | zero => exact absurd hl (by simp)
    | succ n =>
      obtain ⟨h1, h2, h3, h4⟩ := h
      have ih := parts_list hy r (c + y.length) f n h4 hn (by simpa using hl)
      show (strSub x a c).cps.toList :: (partsFrom x y.length (c + y.length) r).map (·.cps.toList) = _
      rw [ih]
      conv => rhs; unfold splitN
      rw [firstAt_of h1 h2 h3 hy]
      dsimp only
      rw [List.drop_drop, strSub_toList]
      have e : y.cps.toList.length = y.length := rfl
      rw [e, show a + (c - a + y.length) = c + y.length by omega]
end Mine
end
section
open PySem PySem.W PyProof.Rows PySem.Builtin PySem.Builtin.Str PySem.StrLaws
namespace Mine
def pushH (c : Nat) : List (List Nat) → List (List Nat)
  | [] => [[c]]
  | h :: t => (c :: h) :: t
def inter (z : List Nat) : List (List Nat) → List Nat
  | [] => []
  | [p] => p
  | p :: q :: r => p ++ z ++ inter z (q :: r)
theorem inter_pushH (z : List Nat) (c : Nat) : ∀ ps : List (List Nat), inter z (pushH c ps) = c :: inter z ps
  | [] => rfl
  | [p] => rfl
  | p :: q :: r => rfl
theorem splitN_ne (y : List Nat) (n : Nat) (l : List Nat) : splitN y n l ≠ [] := by
  cases n with
  | zero => simp [splitN]
  | succ n => unfold splitN; split <;> simp
theorem inter_nil_cons {z : List Nat} {ps : List (List Nat)} (h : ps ≠ []) : inter z ([] :: ps) = z ++ inter z ps := by
  cases ps with
  | nil => exact absurd rfl h
  | cons p r => rfl
theorem splitN_cons {y : List Nat} {n c : Nat} {l : List Nat} (h : y.isPrefixOf (c :: l) = false) : splitN y n (c :: l) = pushH c (splitN y n l) := by
  cases n with
  | zero => rfl
  | succ n =>
    have e : firstAt y (c :: l) = (firstAt y l).map (· + 1) := by
      conv => lhs; unfold firstAt
      rw [if_neg (by rw [h]; decide)]
    unfold splitN
    rw [e]
    cases firstAt y l with
    | none => rfl
    | some k =>
      simp only [Option.map_some, List.take_succ_cons, pushH]
      rw [show k + 1 + y.length = (k + y.length) + 1 by omega, List.drop_succ_cons]
theorem splitN_hit {y : List Nat} {n : Nat} {l : List Nat} (hy : y ≠ []) : splitN y (n + 1) (y ++ l) = [] :: splitN y n l := by
  have e : firstAt y (y ++ l) = some 0 := by
    cases y with
    | nil => exact absurd rfl hy
    | cons a y =>
      rw [List.cons_append]
      unfold firstAt
      rw [if_pos (pre_iff.mpr (by simp))]
  conv => lhs; unfold splitN
  rw [e]
  simp
/-- split at one sign -/
def sp (a : Nat) : List Nat → List (List Nat)
  | [] => [[]]
  | c :: l => if c = a then [] :: sp a l else pushH c (sp a l)
theorem splitN_one (a : Nat) : ∀ (l : List Nat) (n : Nat), l.length ≤ n → splitN [a] n l = sp a l
  | [], n, _ => by
    cases n with
    | zero => rfl
    | succ n => rfl
  | c :: l, n, h => by
    unfold sp
    by_cases hc : c = a
    · subst hc
      rw [if_pos rfl]
      cases n with
      | zero => exact absurd h (by simp)
      | succ n =>
        have := splitN_hit (y := [c]) (n := n) (l := l) (by simp)
        rw [List.singleton_append] at this
        rw [this, splitN_one c l n (by simpa using h)]
    · rw [if_neg hc, splitN_cons (by simp [List.isPrefixOf]; exact fun q => hc q.symm), splitN_one a l n (by simp at h; omega)]
/-- CRLF to one sign -/
def rp2 : List Nat → List Nat
  | [] => []
  | [c] => [c]
  | c :: d :: l => if c = 13 ∧ d = 10 then 10 :: rp2 l else c :: rp2 (d :: l)
theorem splitN_rp2 : ∀ (m : Nat) (l : List Nat) (n : Nat), l.length ≤ m → l.length ≤ n → inter [10] (splitN [13, 10] n l) = rp2 l := by
  intro m
  induction m with
  | zero =>
    intro l n h1 h2
    have : l = [] := List.length_eq_zero_iff.mp (by omega)
    subst this
    cases n <;> rfl
  | succ m ih =>
    intro l n h1 h2
    match l, h1, h2 with
    | [], _, _ => cases n <;> rfl
    | [c], _, h2 =>
      rw [splitN_cons (by simp [List.isPrefixOf]), inter_pushH]
      cases n <;> rfl
    | c :: d :: l, h1, h2 =>
      unfold rp2
      by_cases hc : c = 13 ∧ d = 10
      · obtain ⟨rfl, rfl⟩ := hc
        rw [if_pos ⟨rfl, rfl⟩]
        cases n with
        | zero => exact absurd h2 (by simp)
        | succ n =>
          have := splitN_hit (y := [13, 10]) (n := n) (l := l) (by simp)
          rw [show [13, 10] ++ l = 13 :: 10 :: l from rfl] at this
          rw [this, inter_nil_cons (splitN_ne _ _ _), ih l n (by simp at h1; omega) (by simp at h2; omega)]
          rfl
      · rw [if_neg hc, splitN_cons (by
          simp only [List.isPrefixOf, Bool.and_true, Bool.and_eq_false_iff, beq_eq_false_iff_ne]
          by_cases q : 13 = c
          · exact .inr fun z => hc ⟨q.symm, z.symm⟩
          · exact .inl q), inter_pushH, ih (d :: l) n (by simp at h1 ⊢; omega) (by simp at h2 ⊢; omega)]
theorem join_listL (z : Str) : ∀ ps : List Str, (Str.join z ps).cps.toList = inter z.cps.toList (ps.map (·.cps.toList))
  | [] => rfl
  | [p] => rfl
  | p :: q :: r => by
    show (p ++ z ++ Str.join z (q :: r)).cps.toList = _
    simp only [Str.cps_append, Array.toList_append]
    rw [join_listL z (q :: r)]
    rfl
theorem occ_len (x y : Str) : (occurrences x y 0 x.length (x.length + 1)).length ≤ x.length + 1 := occ_length_le x y 0 x.length (x.length + 1)
theorem split_none {x y : Str} (hy : 1 ≤ y.length) (n : Nat) (h : (occurrences x y 0 x.length (x.length + 1)).isEmpty = true) : splitN y.cps.toList n x.cps.toList = [x.cps.toList] := by
  obtain ⟨f, h1, h2⟩ := occ_tight x y hy
  rw [List.isEmpty_iff.mp h] at h1
  have e : f = 0 := h1
  subst e
  have hf := firstAt_no (a := 0) h2 hy
  rw [List.drop_zero] at hf
  cases n with
  | zero => rfl
  | succ n => unfold splitN; rw [hf]
theorem parts_all {x y : Str} (hy : 1 ≤ y.length) : (partsBetween x (occurrences x y 0 x.length (x.length + 1)) y.length).map (·.cps.toList) = splitN y.cps.toList (x.length + 1) x.cps.toList := by
  obtain ⟨f, h1, h2⟩ := occ_tight x y hy
  rw [partsBetween_eq, parts_list hy _ 0 f (x.length + 1) h1 h2 (occ_len x y), List.drop_zero]
theorem replace_list {x y z : Str} (hy : 1 ≤ y.length) : (Txt.replace x y z).cps.toList = inter z.cps.toList (splitN y.cps.toList (x.length + 1) x.cps.toList) := by
  unfold Txt.replace
  have hy0 : (y.length == 0) = false := by simp; omega
  rw [hy0, Bool.false_and, Bool.or_false]
  split
  · rename_i h
    rw [split_none hy _ h]
    rfl
  · rw [glued_eq_join, join_listL, parts_all hy]
theorem split_list {x : Str} (hk : ¬ (decide (x.length < NL.length) || decide (strKind x < strKind NL)) = true) : (Txt.split x NL).map (·.cps.toList) = splitN [10] (x.length + 1) x.cps.toList := by
  unfold Txt.split
  rw [if_neg hk]
  split
  · rename_i h
    rw [show ([10] : List Nat) = NL.cps.toList from rfl, split_none (y := NL) (Nat.le_refl 1) _ h]
    rfl
  · exact parts_all (Nat.le_refl 1)
end Mine
end
section
open PySem PySem.W PyProof.Rows PySem.Builtin PySem.Builtin.Str PySem.StrLaws
namespace Mine
theorem kind_nl (x : Str) : ¬ Builtin.Str.strKind x < Builtin.Str.strKind NL := by
  have e : Builtin.Str.strKind NL = 1 := by decide +kernel
  rw [e]
  unfold Builtin.Str.strKind
  split <;> (try split) <;> omega
theorem split_nl (x : Str) : (Txt.split x NL).map (·.cps.toList) = sp 10 x.cps.toList := by
  by_cases h : x.length < NL.length
  · have hl : x.cps.toList = [] := List.length_eq_zero_iff.mp (by have : x.length < 1 := h; exact Nat.lt_one_iff.mp this)
    unfold Txt.split
    rw [if_pos (by simp [h])]
    simp [hl, sp]
  · rw [split_list (by simp [h, kind_nl]), splitN_one 10 x.cps.toList (x.length + 1) (Nat.le_succ _)]
/-- the rows of a mail, as they are split -/
def brk : List Nat → List (List Nat)
  | [] => [[]]
  | [c] => if c = 13 ∨ c = 10 then [[], []] else [[c]]
  | c :: d :: l => if c = 13 ∧ d = 10 then [] :: brk l else if c = 13 ∨ c = 10 then [] :: brk (d :: l) else pushH c (brk (d :: l))
theorem brk_eq : ∀ (m : Nat) (l : List Nat), l.length ≤ m → sp 10 ((rp2 l).map fun c => if c = 13 then 10 else c) = brk l := by
  intro m
  induction m with
  | zero =>
    intro l h
    have : l = [] := List.length_eq_zero_iff.mp (by omega)
    subst this
    rfl
  | succ m ih =>
    intro l h
    match l, h with
    | [], _ => rfl
    | [c], _ =>
      unfold brk rp2
      by_cases h1 : c = 13
      · subst h1; rfl
      · by_cases h2 : c = 10
        · subst h2; rfl
        · simp [h1, h2, sp, pushH]
    | c :: d :: l, h =>
      unfold brk rp2
      by_cases hc : c = 13 ∧ d = 10
      · rw [if_pos hc, if_pos hc, List.map_cons, if_neg (by decide)]
        conv => lhs; unfold sp
        rw [if_pos rfl, ih l (by simp at h; omega)]
      · rw [if_neg hc, if_neg hc, List.map_cons]
        conv => lhs; unfold sp
        rw [ih (d :: l) (by simp at h ⊢; omega)]
        by_cases h1 : c = 13
        · simp [h1]
        · by_cases h2 : c = 10
          · simp [h2]
          · simp [h1, h2]
theorem rp1_list (x : Str) : (Txt.replace x (Str.ofString "\r") (Str.ofString "\n")).cps.toList = x.cps.toList.map fun c => if c = 13 then 10 else c := by
  have e1 : (Str.ofString "\r").cps.toList = [13] := by decide +kernel
  have e2 : (Str.ofString "\n").cps.toList = [10] := by decide +kernel
  rw [replace_list (by decide +kernel), e1, e2, splitN_one 13 x.cps.toList (x.length + 1) (Nat.le_succ _)]
  generalize x.cps.toList = l
  induction l with
  | nil => rfl
  | cons c l ih =>
    unfold sp
    have hne : sp 13 l ≠ [] := by
      cases l with
      | nil => simp [sp]
      | cons d l => unfold sp; split
                    · simp
                    · cases sp 13 l <;> simp [pushH]
    by_cases hc : c = 13
    · rw [if_pos hc, inter_nil_cons hne, ih, List.map_cons, if_pos hc]
      rfl
    · rw [if_neg hc, inter_pushH, ih, List.map_cons, if_neg hc]
theorem rp2_list (x : Str) : (Txt.replace x (Str.ofString "\r\n") (Str.ofString "\n")).cps.toList = rp2 x.cps.toList := by
  have e1 : (Str.ofString "\r\n").cps.toList = [13, 10] := by decide +kernel
  have e2 : (Str.ofString "\n").cps.toList = [10] := by decide +kernel
  rw [replace_list (by decide +kernel), e1, e2]
  exact splitN_rp2 _ _ _ (Nat.le_refl _) (Nat.le_succ _)
theorem rowsRaw_list (x : Str) : (rowsRaw x).map (·.cps.toList) = brk x.cps.toList := by
  unfold rowsRaw
  rw [show Str.ofString "\n" = NL from nl_eq, split_nl, ← nl_eq, rp1_list, rp2_list]
  exact brk_eq _ _ (Nat.le_refl _)
end Mine
end
section
open PySem PySem.W PyProof.Rows PySem.Builtin PySem.Builtin.Str PySem.StrLaws
namespace Mine
theorem rp2_len : ∀ (m : Nat) (l : List Nat), l.length ≤ m → (rp2 l).length ≤ l.length := by
  intro m
  induction m with
  | zero =>
    intro l h
    have : l = [] := List.length_eq_zero_iff.mp (by omega)
    subst this
    exact Nat.le_refl _
  | succ m ih =>
    intro l h
    match l, h with
    | [], _ => exact Nat.le_refl _
    | [c], _ => exact Nat.le_refl _
    | c :: d :: l, h =>
      unfold rp2
      split
      · have := ih l (by simp at h; omega)
        simp only [List.length_cons]
        omega
      · have := ih (d :: l) (by simp at h ⊢; omega)
        simp only [List.length_cons] at this ⊢
        omega
theorem sp_len (a : Nat) : ∀ l : List Nat, (sp a l).length ≤ l.length + 1
  | [] => Nat.le_refl _
  | c :: l => by
    have ih := sp_len a l
    unfold sp
    split
    · simp only [List.length_cons]; omega
    · cases hs : sp a l with
      | nil => simp [pushH]
      | cons p r => rw [hs] at ih; simp only [pushH, List.length_cons] at ih ⊢; omega
theorem len_rep2' (x : Str) : (Txt.replace x (Str.ofString "\r\n") (Str.ofString "\n")).length ≤ x.length := by
  show (Txt.replace x (Str.ofString "\r\n") (Str.ofString "\n")).cps.toList.length ≤ x.cps.toList.length
  rw [rp2_list]
  exact rp2_len _ _ (Nat.le_refl _)
theorem len_rep1' (x : Str) : (Txt.replace x (Str.ofString "\r") (Str.ofString "\n")).length ≤ x.length := by
  show (Txt.replace x (Str.ofString "\r") (Str.ofString "\n")).cps.toList.length ≤ x.cps.toList.length
  rw [rp1_list, List.length_map]
  exact Nat.le_refl _
theorem len_rowsRaw' (x : Str) : (rowsRaw x).length ≤ x.length + 1 := by
  have h := congrArg List.length (rowsRaw_list x)
  rw [List.length_map, ← brk_eq _ _ (Nat.le_refl _)] at h
  rw [h]
  refine Nat.le_trans (sp_len 10 _) ?_
  rw [List.length_map]
  exact Nat.succ_le_succ (rp2_len _ _ (Nat.le_refl _))
/-- every row is clean -/
theorem brk_clean : ∀ (m : Nat) (l : List Nat), l.length ≤ m → ∀ r ∈ brk l, Clean r := by
  intro m
  induction m with
  | zero =>
    intro l h r hr
    have : l = [] := List.length_eq_zero_iff.mp (by omega)
    subst this
    simp [brk] at hr
    subst hr
    intro c hc
    cases hc
  | succ m ih =>
    intro l h
    match l, h with
    | [], _ =>
      intro r hr
      simp [brk] at hr
      subst hr
      intro c hc
      cases hc
    | [c], _ =>
      intro r hr
      unfold brk at hr
      split at hr
      · simp at hr
        subst hr
        intro c hc
        cases hc
      · rename_i hc
        simp at hr
        subst hr
        intro d hd
        simp at hd
        subst hd
        exact ⟨fun q => hc (.inl q), fun q => hc (.inr q)⟩
    | c :: d :: l, h =>
      intro r hr
      unfold brk at hr
      split at hr
      · rcases List.mem_cons.mp hr with rfl | hr
        · intro c hc; cases hc
        · exact ih l (by simp at h; omega) r hr
      · split at hr
        · rcases List.mem_cons.mp hr with rfl | hr
          · intro c hc; cases hc
          · exact ih (d :: l) (by simp at h ⊢; omega) r hr
        · rename_i hc
          have ih' := ih (d :: l) (by simp at h ⊢; omega)
          cases hb : brk (d :: l) with
          | nil =>
            rw [hb] at hr
            simp [pushH] at hr
            subst hr
            intro e he
            simp at he
            subst he
            exact ⟨fun q => hc (.inl q), fun q => hc (.inr q)⟩
          | cons p t =>
            rw [hb] at hr ih'
            rcases List.mem_cons.mp hr with rfl | hr
            · intro e he
              rcases List.mem_cons.mp he with rfl | he
              · exact ⟨fun q => hc (.inl q), fun q => hc (.inr q)⟩
              · exact ih' p (.head _) e he
            · exact ih' r (.tail _ hr)
end Mine
end
section
open PySem PySem.W PyProof.Rows PySem.Builtin PySem.Builtin.Str PySem.StrLaws
namespace Mine
theorem subOut_skip {nx : Nat → Option (Nat × Nat)} {l r : List Nat} {f p c : Nat} (hp : l[p]? = some c) (h : nx p = nx (p + 1)) (hok : ∀ b e, nx (p + 1) = some (b, e) → p + 1 ≤ b) : subOut nx l r (f + 1) p = c :: subOut nx l r (f + 1) (p + 1) := by
  unfold subOut
  rw [h]
  cases hn : nx (p + 1) with
  | none => exact drop_cons_of hp
  | some be =>
    obtain ⟨b, e⟩ := be
    have hb := hok b e hn
    dsimp only
    rw [drop_cons_of hp, show b - p = (b - (p + 1)) + 1 by omega, List.take_succ_cons]
    rfl
theorem subOut_hit {nx : Nat → Option (Nat × Nat)} {l r : List Nat} {f p e : Nat} (h : nx p = some (p, e)) : subOut nx l r (f + 1) p = r ++ subOut nx l r f e := by
  conv => lhs; unfold subOut
  rw [h]
  dsimp only
  rw [Nat.sub_self, List.take_zero, List.nil_append]
theorem subOut_end {nx : Nat → Option (Nat × Nat)} {l r : List Nat} {f p : Nat} (h : nx p = none) : subOut nx l r f p = l.drop p := by
  cases f with
  | zero => rfl
  | succ f => unfold subOut; rw [h]
end Mine
end
section
open PySem PySem.W PyProof.Rows PySem.Builtin PySem.Builtin.Str PySem.StrLaws
namespace Mine
theorem brk_skip {c : Nat} {l : List Nat} (h1 : c ≠ 13) (h2 : c ≠ 10) : brk (c :: l) = pushH c (brk l) := by
  cases l with
  | nil => unfold brk; rw [if_neg (by omega)]; rfl
  | cons d l =>
    conv => lhs; unfold brk
    rw [if_neg (by omega), if_neg (by omega)]
theorem brk_crlf {l : List Nat} : brk (13 :: 10 :: l) = [] :: brk l := by
  conv => lhs; unfold brk
  rw [if_pos ⟨rfl, rfl⟩]
theorem brk_nl {c : Nat} {l : List Nat} (h : c = 13 ∨ c = 10) (h2 : ¬ (c = 13 ∧ l.head? = some 10)) : brk (c :: l) = [] :: brk l := by
  cases l with
  | nil => unfold brk; rw [if_pos h]
  | cons d l =>
    conv => lhs; unfold brk
    rw [if_neg (fun q => h2 ⟨q.1, by rw [q.2]; rfl⟩), if_pos h]
theorem brk_ne : ∀ l : List Nat, brk l ≠ [] := by
  intro l
  match l with
  | [] => simp [brk]
  | [c] => unfold brk; split <;> simp
  | c :: d :: l =>
    unfold brk
    split
    · simp
    · split
      · simp
      · cases brk (d :: l) <;> simp [pushH]
theorem getD_at {x : Str} {p c : Nat} (h : x.cps.toList[p]? = some c) : x.cps.getD p 0 = c := getD_of_getElem? h
theorem sub2_from (x : Str) : ∀ (m p f : Nat), x.length - p ≤ m → x.length - p < f → subOut (nx2 x.cps) x.cps.toList [13, 10] f p = inter [13, 10] (brk (x.cps.toList.drop p)) := by
  have el : x.cps.toList.length = x.length := rfl
  have es : x.cps.size = x.length := rfl
  have ende : ∀ p f, x.length ≤ p → subOut (nx2 x.cps) x.cps.toList [13, 10] f p = inter [13, 10] (brk (x.cps.toList.drop p)) := by
    intro p f hp
    rw [subOut_end (by unfold nx2; rw [if_neg (by omega)]), List.drop_eq_nil_of_le (by omega)]
    rfl
  intro m
  induction m with
  | zero => intro p f h1 h2; exact ende p f (by omega)
  | succ m ih =>
    intro p f h1 h2
    rcases Nat.lt_or_ge p x.length with hp | hp
    · obtain ⟨f, rfl⟩ : ∃ g, f = g + 1 := ⟨f - 1, by omega⟩
      obtain ⟨c, hc⟩ : ∃ c, x.cps.toList[p]? = some c := ⟨_, List.getElem?_eq_getElem (by omega)⟩
      have hg := getD_at hc
      by_cases hb : c = 10 ∨ c = 13
      · have hn : nx2 x.cps p = some (p, end2 x.cps p) := by
          unfold nx2 next2
          rw [if_pos (by omega), show x.cps.size + 1 - p = (x.cps.size - p) + 1 by omega]
          unfold nextL
          rw [if_neg (by omega), if_pos (by rw [hg]; exact hb)]
          rfl
        rw [subOut_hit hn, drop_cons_of hc]
        unfold end2
        by_cases h13 : x.cps.getD p 0 = 13 ∧ p + 1 < x.cps.size ∧ x.cps.getD (p + 1) 0 = 10
        · rw [if_pos h13]
          have hc1 : x.cps.toList[p + 1]? = some 10 := getElem?_of_getD (by omega) h13.2.2
          have e13 : c = 13 := by rw [← hg]; exact h13.1
          rw [drop_cons_of hc1, e13, brk_crlf, inter_nil_cons (brk_ne _), ih (p + 2) f (by omega) (by omega)]
        · rw [if_neg h13, brk_nl (by omega) (fun q => h13 ⟨by rw [hg]; exact q.1, ?_⟩), inter_nil_cons (brk_ne _), ih (p + 1) f (by omega) (by omega)]
          have q2 := q.2
          rw [List.head?_drop] at q2
          have hlt := (List.getElem?_eq_some_iff.mp q2).1
          exact ⟨by omega, getD_at q2⟩
      · have hn : nx2 x.cps p = nx2 x.cps (p + 1) := by
          unfold nx2 next2
          rw [if_pos (by omega), show x.cps.size + 1 - p = (x.cps.size - p) + 1 by omega]
          conv => lhs; unfold nextL
          rw [if_neg (by omega), if_neg (by rw [hg]; exact hb)]
          by_cases h3 : p + 1 < x.cps.size
          · rw [if_pos h3, show x.cps.size + 1 - (p + 1) = x.cps.size - p by omega]
          · rw [if_neg h3]
            have : x.cps.size - p = 1 := by omega
            rw [this]
            unfold nextL
            rw [if_pos (by omega)]
            rfl
        rw [subOut_skip hc hn (fun b e h => (nx2_ok _ _ _ h).1), drop_cons_of hc, brk_skip (by omega) (by omega), inter_pushH, ih (p + 1) (f + 1) (by omega) (by omega)]
    · exact ende p f hp
theorem sub2_list (x : Str) : (sub2S x).cps.toList = inter [13, 10] (brk x.cps.toList) := by
  have := sub2_from x x.length 0 (x.cps.size + 1) (by omega) (by show x.length - 0 < x.length + 1; omega)
  rw [List.drop_zero] at this
  exact this
end Mine
end
section
open PySem PySem.W PyProof.Rows PySem.Builtin PySem.Builtin.Str PySem.StrLaws
namespace Mine
/-- a dot behind a line end (or first of all) is doubled -/
def q1 : Bool → List Nat → List Nat
  | _, [] => []
  | st, c :: l => if (st && c == 46) = true then 46 :: 46 :: q1 false l else c :: q1 (c == 10) l
theorem q1_46 (l : List Nat) : q1 (46 == 10) l = q1 false l := rfl
theorem sub1_from (x : Str) : ∀ (m p f : Nat), x.length - p ≤ m → x.length - p < f → subOut (nx1 x.cps) x.cps.toList [46, 46] f p = q1 (p == 0 || x.cps.getD (p - 1) 0 == 10) (x.cps.toList.drop p) := by
  have el : x.cps.toList.length = x.length := rfl
  have es : x.cps.size = x.length := rfl
  have ende : ∀ p f, x.length ≤ p → subOut (nx1 x.cps) x.cps.toList [46, 46] f p = q1 (p == 0 || x.cps.getD (p - 1) 0 == 10) (x.cps.toList.drop p) := by
    intro p f hp
    rw [subOut_end (by unfold nx1; rw [if_neg (by omega)]), List.drop_eq_nil_of_le (by omega)]
    rfl
  intro m
  induction m with
  | zero => intro p f h1 h2; exact ende p f (by omega)
  | succ m ih =>
    intro p f h1 h2
    rcases Nat.lt_or_ge p x.length with hp | hp
    · obtain ⟨f, rfl⟩ : ∃ g, f = g + 1 := ⟨f - 1, by omega⟩
      obtain ⟨c, hc⟩ : ∃ c, x.cps.toList[p]? = some c := ⟨_, List.getElem?_eq_getElem (by omega)⟩
      have hg := getD_at hc
      have hst : (p + 1 == 0 || x.cps.getD (p + 1 - 1) 0 == 10) = (c == 10) := by
        rw [show p + 1 - 1 = p by omega, hg]
        simp
      have hhit : hit1 x.cps p = ((p == 0 || x.cps.getD (p - 1) 0 == 10) && c == 46) := by
        unfold hit1
        rw [hg, decide_eq_true (by omega : p < x.cps.size), Bool.true_and]
      rw [drop_cons_of hc]
      unfold q1
      rw [← hhit]
      by_cases hb : hit1 x.cps p = true
      · have hn : nx1 x.cps p = some (p, p + 1) := by
          unfold nx1
          rw [if_pos (by omega), show x.cps.size + 1 - p = (x.cps.size - p) + 1 by omega]
          unfold next1
          rw [if_pos hb]
        have hc46 : c = 46 := by
          rw [hhit] at hb
          simpa using (Bool.and_eq_true_iff.mp hb).2
        rw [subOut_hit hn, if_pos hb, ih (p + 1) f (by omega) (by omega), hst, hc46]
        rfl
      · have hn : nx1 x.cps p = nx1 x.cps (p + 1) := by
          unfold nx1
          rw [if_pos (by omega), show x.cps.size + 1 - p = (x.cps.size - p) + 1 by omega]
          conv => lhs; unfold next1
          rw [if_neg hb]
          by_cases h3 : p + 1 < x.cps.size
          · rw [if_pos h3, show x.cps.size + 1 - (p + 1) = x.cps.size - p by omega]
          · rw [if_neg h3]
            have : x.cps.size - p = 1 := by omega
            rw [this]
            unfold next1
            rw [if_neg (by unfold hit1; simp; omega)]
            rfl
        rw [subOut_skip hc hn (fun b e h => (nx1_ok _ _ _ h).1), if_neg hb, ih (p + 1) (f + 1) (by omega) (by omega), hst]
    · exact ende p f hp
theorem sub1_list (x : Str) : (sub1S x).cps.toList = q1 true x.cps.toList := by
  have := sub1_from x x.length 0 (x.cps.size + 1) (by omega) (by show x.length - 0 < x.length + 1; omega)
  rw [List.drop_zero] at this
  exact this
theorem q1_clean : ∀ {r t : List Nat}, Clean r → q1 false (r ++ 13 :: 10 :: t) = r ++ 13 :: 10 :: q1 true t
  | [], _, _ => rfl
  | c :: r, t, h => by
    have h10 : (c == 10) = false := by simpa using (h c (.head _)).2
    rw [List.cons_append]
    conv => lhs; unfold q1
    rw [Bool.false_and, if_neg (by decide), h10, q1_clean (fun d hd => h d (.tail _ hd))]
    rfl
theorem q1_clean0 : ∀ {r : List Nat}, Clean r → q1 false r = r
  | [], _ => rfl
  | c :: r, h => by
    have h10 : (c == 10) = false := by simpa using (h c (.head _)).2
    unfold q1
    rw [Bool.false_and, if_neg (by decide), h10, q1_clean0 (fun d hd => h d (.tail _ hd))]
theorem q1_row {r t : List Nat} (h : Clean r) : q1 true (r ++ 13 :: 10 :: t) = dotL r ++ 13 :: 10 :: q1 true t := by
  cases r with
  | nil => rfl
  | cons c r =>
    have h10 : (c == 10) = false := by simpa using (h c (.head _)).2
    have hr : Clean r := fun d hd => h d (.tail _ hd)
    rw [List.cons_append]
    conv => lhs; unfold q1
    unfold dotL
    by_cases hc : c = 46
    · subst hc
      rw [if_pos (by decide), if_pos (by rfl : (46 :: r).head? = some 46), q1_clean hr]
      rfl
    · rw [if_neg (by simpa using hc), if_neg (by simpa using hc), h10, q1_clean hr]
      rfl
theorem q1_row0 {r : List Nat} (h : Clean r) : q1 true r = dotL r := by
  cases r with
  | nil => rfl
  | cons c r =>
    have h10 : (c == 10) = false := by simpa using (h c (.head _)).2
    have hr : Clean r := fun d hd => h d (.tail _ hd)
    unfold q1 dotL
    by_cases hc : c = 46
    · subst hc
      rw [if_pos (by decide), if_pos (by rfl : (46 :: r).head? = some 46), q1_clean0 hr]
    · rw [if_neg (by simpa using hc), if_neg (by simpa using hc), h10, q1_clean0 hr]
theorem q1_inter : ∀ {ps : List (List Nat)}, (∀ r ∈ ps, Clean r) → q1 true (inter [13, 10] ps) = inter [13, 10] (ps.map dotL)
  | [], _ => rfl
  | [p], h => q1_row0 (h p (.head _))
  | p :: q :: r, h => by
    have ih := q1_inter (ps := q :: r) (fun r' hr => h r' (.tail _ hr))
    show q1 true (p ++ [13, 10] ++ inter [13, 10] (q :: r)) = dotL p ++ [13, 10] ++ inter [13, 10] ((q :: r).map dotL)
    rw [List.append_assoc, List.append_assoc, ← ih]
    exact q1_row (h p (.head _))
theorem quote_list (x : Str) : (quoteS x).cps.toList = inter [13, 10] ((brk x.cps.toList).map dotL) := by
  show (sub1S (sub2S x)).cps.toList = _
  rw [sub1_list, sub2_list, q1_inter (brk_clean _ _ (Nat.le_refl _))]
end Mine
end
section
open PySem PySem.W PyProof.Rows PySem.Builtin PySem.Builtin.Str PySem.StrLaws
namespace Mine
def rowsB (bs : List (List Nat)) : List (List Nat) := if 1 < bs.length ∧ bs.getLast? = some [] then bs.dropLast else bs
theorem inter_body {z : List Nat} : ∀ {ps : List (List Nat)}, ps ≠ [] → inter z ps ++ z = (ps.map (· ++ z)).flatten
  | [], h => absurd rfl h
  | [p], _ => by simp [inter]
  | p :: q :: r, _ => by
    have ih := inter_body (z := z) (ps := q :: r) (by simp)
    show p ++ z ++ inter z (q :: r) ++ z = _
    rw [List.append_assoc, ih]
    rfl
theorem inter_last {z : List Nat} : ∀ {ps : List (List Nat)}, ps ≠ [] → inter z (ps ++ [[]]) = (ps.map (· ++ z)).flatten
  | [], h => absurd rfl h
  | [p], _ => by simp [inter]
  | p :: q :: r, _ => by
    have ih := inter_last (z := z) (ps := q :: r) (by simp)
    show p ++ z ++ inter z ((q :: r) ++ [[]]) = _
    rw [ih]
    rfl
theorem body_map (bs : List (List Nat)) : bodyL bs = ((bs.map dotL).map (· ++ [13, 10])).flatten := by
  unfold bodyL
  rw [List.map_map]
  rfl
/-- whether a text ends with a line end, as the slice says it -/
theorem ends_iff (q : Str) : (Txt.slice q (some (-2)) none != Str.ofString "\r\n") = false ↔ ∃ l, q.cps.toList = l ++ [13, 10] := by
  have e1 : (Str.ofString "\r\n").cps.toList = [13, 10] := by decide +kernel
  have el : q.cps.toList.length = q.length := rfl
  rw [bne_eq_false_iff_eq]
  rcases Nat.lt_or_ge q.length 2 with h | h
  · constructor
    · intro e
      have := Txt.slice_le q (some (-2)) none
      rw [e] at this
      have e2 : (Str.ofString "\r\n").length = 2 := by decide +kernel
      omega
    · rintro ⟨l, hl⟩
      have := congrArg List.length hl
      rw [el, List.length_append] at this
      simp only [List.length_cons, List.length_nil] at this
      omega
  · have hs := eq_of_beq (slice_closes_from_neg (x := q) (i := -2) (a := (q.length : Int) - 2) (b := (q.length : Int)) (by omega) (by omega) (by omega) rfl)
    have e3 : ((q.length : Int) - 2).toNat = q.length - 2 := by omega
    have e4 : ((q.length : Int) - ((q.length : Int) - 2)).toNat = 2 := by omega
    rw [e3, e4] at hs
    rw [hs]
    have ht : (q.cps.toList.drop (q.length - 2)).take 2 = q.cps.toList.drop (q.length - 2) := List.take_of_length_le (by rw [List.length_drop, el]; omega)
    rw [ht]
    constructor
    · intro e
      have := congrArg (fun s : Str => s.cps.toList) e
      simp only [e1] at this
      refine ⟨q.cps.toList.take (q.length - 2), ?_⟩
      rw [← this]
      exact (List.take_append_drop _ _).symm
    · rintro ⟨l, hl⟩
      have hll : l.length = q.length - 2 := by
        have := congrArg List.length hl
        rw [el, List.length_append] at this
        simp only [List.length_cons, List.length_nil] at this
        omega
      apply Str.ext'
      apply Array.toList_inj.mp
      show q.cps.toList.drop (q.length - 2) = (Str.ofString "\r\n").cps.toList
      rw [e1, hl, ← hll, List.drop_left]
end Mine
end
section
open PySem PySem.W PyProof.Rows PySem.Builtin PySem.Builtin.Str PySem.StrLaws
namespace Mine
theorem inter_snoc {z p : List Nat} : ∀ ps : List (List Nat), ∃ t, inter z (ps ++ [p]) = t ++ p
  | [] => ⟨[], rfl⟩
  | [a] => ⟨a ++ z, rfl⟩
  | a :: b :: r => by
    obtain ⟨t, ht⟩ := inter_snoc (z := z) (p := p) (b :: r)
    refine ⟨a ++ z ++ t, ?_⟩
    show a ++ z ++ inter z ((b :: r) ++ [p]) = _
    rw [ht]
    simp
theorem snoc_last {α : Type} {l : List α} {r : α} (h : l.getLast? = some r) : l = l.dropLast ++ [r] := by
  have hne : l ≠ [] := fun q => by rw [q] at h; cases h
  have := List.dropLast_concat_getLast hne
  rw [List.getLast?_eq_some_getLast hne] at h
  rw [← Option.some.inj h]
  exact this.symm
theorem map_ne {f : List Nat → List Nat} {l : List (List Nat)} (h : l ≠ []) : l.map f ≠ [] := fun q => h (List.map_eq_nil_iff.mp q)
theorem sent_list (x : Str) : (sentS x).cps.toList = bodyL (rowsB (brk x.cps.toList)) ++ [46, 13, 10] := by
  have e1 : (Str.ofString "\r\n").cps.toList = [13, 10] := by decide +kernel
  have e2 : (Str.ofString ".\r\n").cps.toList = [46, 13, 10] := by decide +kernel
  have hq := quote_list x
  have hcl := brk_clean _ _ (Nat.le_refl x.cps.toList.length)
  have hne := brk_ne x.cps.toList
  unfold sentS
  generalize brk x.cps.toList = bs at hq hcl hne
  generalize quoteS x = q at hq
  unfold rowsB
  by_cases hA : 1 < bs.length ∧ bs.getLast? = some []
  · rw [if_pos hA]
    have hbs : bs = bs.dropLast ++ [[]] := snoc_last hA.2
    have hin : bs.dropLast ≠ [] := by
      intro h
      have := congrArg List.length h
      rw [List.length_dropLast] at this
      simp at this
      omega
    have hq2 : q.cps.toList = bodyL bs.dropLast := by
      rw [hq, hbs, List.map_append, body_map]
      have := inter_last (z := [13, 10]) (ps := bs.dropLast.map dotL) (map_ne hin)
      rw [show ([[]] : List (List Nat)).map dotL = [[]] from rfl]
      rw [this]
      simp
    have hend : (Txt.slice q (some (-2)) none != Str.ofString "\r\n") = false := (ends_iff q).mpr ⟨inter [13, 10] (bs.dropLast.map dotL), by rw [hq2, body_map, inter_body (map_ne hin)]⟩
    rw [hend, if_neg (by decide)]
    simp only [Str.cps_append, Array.toList_append]
    rw [hq2, e2]
  · rw [if_neg hA]
    have hend : (Txt.slice q (some (-2)) none != Str.ofString "\r\n") = true := by
      refine Bool.of_not_eq_false fun h => ?_
      obtain ⟨l, hl⟩ := (ends_iff q).mp h
      obtain ⟨r, hr⟩ : ∃ r, bs.getLast? = some r := by
        cases hb : bs.getLast? with
        | none => exact absurd (List.getLast?_eq_none_iff.mp hb) hne
        | some r => exact ⟨r, rfl⟩
      have hbs : bs = bs.dropLast ++ [r] := snoc_last hr
      have hrm : r ∈ bs := List.mem_of_getLast? hr
      obtain ⟨t, ht⟩ := inter_snoc (z := [13, 10]) (p := dotL r) (bs.dropLast.map dotL)
      have hq3 : q.cps.toList = t ++ dotL r := by
        rw [hq, hbs, List.map_append]
        exact ht
      cases hd : dotL r with
      | nil =>
        have hr0 : r = [] := by
          unfold dotL at hd
          split at hd
          · cases hd
          · exact hd
        subst hr0
        have h1 : bs.length ≤ 1 := by
          rcases Nat.lt_or_ge 1 bs.length with q | q
          · exact absurd ⟨q, hr⟩ hA
          · exact q
        have hbs1 : bs = [[]] := by
          rw [hbs]
          have : bs.dropLast = [] := List.length_eq_zero_iff.mp (by rw [List.length_dropLast]; omega)
          rw [this]
          rfl
        rw [hbs1] at hq
        rw [hq] at hl
        have := congrArg List.length hl
        simp [inter, dotL] at this
      | cons a b =>
        have hlast : (dotL r).getLast? = some 10 := by
          have : q.cps.toList.getLast? = some 10 := by rw [hl]; simp
          rw [hq3, List.getLast?_append] at this
          rw [hd] at this ⊢
          simpa using this
        exact (dotL_clean (hcl r hrm) 10 (List.mem_of_getLast? hlast)).2 rfl
    rw [hend, if_pos rfl]
    simp only [Str.cps_append, Array.toList_append]
    rw [hq, e1, e2, inter_body (map_ne hne), ← body_map]
end Mine
end
section
open PySem PySem.W PyProof.Rows PySem.Builtin PySem.Builtin.Str PySem.StrLaws
namespace Mine
theorem rowsS_list (x : Str) : (rowsS x).map (·.cps.toList) = rowsB (brk x.cps.toList) := by
  have h := rowsRaw_list x
  have hl : (rowsRaw x).length = (brk x.cps.toList).length := by rw [← h, List.length_map]
  have hg : (rowsRaw x).getLast? = some Str.empty ↔ (brk x.cps.toList).getLast? = some [] := by
    rw [← h, List.getLast?_map]
    cases hr : (rowsRaw x).getLast? with
    | none => simp
    | some r =>
      simp only [Option.map_some, Option.some.injEq]
      constructor
      · intro e; rw [e]; rfl
      · intro e
        apply Str.ext'
        apply Array.toList_inj.mp
        exact e
  unfold rowsS rowsB
  by_cases hA : 1 < (rowsRaw x).length ∧ (rowsRaw x).getLast? = some Str.empty
  · rw [if_pos hA, if_pos ⟨by rw [← hl]; exact hA.1, hg.mp hA.2⟩, List.map_dropLast, h]
  · rw [if_neg hA, if_neg (fun q => hA ⟨by rw [hl]; exact q.1, hg.mpr q.2⟩), h]
theorem rowsB_clean (l : List Nat) : ∀ r ∈ rowsB (brk l), Clean r := by
  intro r hr
  unfold rowsB at hr
  split at hr
  · exact brk_clean _ _ (Nat.le_refl _) r (List.dropLast_subset _ hr)
  · exact brk_clean _ _ (Nat.le_refl _) r hr
theorem rowsB_ne (l : List Nat) : rowsB (brk l) ≠ [] := by
  unfold rowsB
  split
  · rename_i h
    intro q
    have := congrArg List.length q
    rw [List.length_dropLast] at this
    simp at this
    omega
  · exact brk_ne l
end Mine
end
section
open PySem PySem.W PyProof.Rows PySem.Builtin PySem.Builtin.Str PySem.StrLaws
namespace Mine
theorem q1_len : ∀ (l : List Nat) (st : Bool), (q1 st l).length ≤ 2 * l.length
  | [], _ => Nat.le_refl _
  | c :: l, st => by
    unfold q1
    split
    · have := q1_len l false
      simp only [List.length_cons]
      omega
    · have := q1_len l (c == 10)
      simp only [List.length_cons]
      omega
theorem inter_len : ∀ (m : Nat) (l : List Nat), l.length ≤ m → (inter [13, 10] (brk l)).length ≤ 2 * l.length := by
  intro m
  induction m with
  | zero =>
    intro l h
    have : l = [] := List.length_eq_zero_iff.mp (by omega)
    subst this
    exact Nat.le_refl _
  | succ m ih =>
    intro l h
    match l, h with
    | [], _ => exact Nat.le_refl _
    | c :: l, h =>
      by_cases hb : c = 13 ∨ c = 10
      · by_cases hc : c = 13 ∧ l.head? = some 10
        · obtain ⟨rfl, hh⟩ := hc
          cases l with
          | nil => cases hh
          | cons d l =>
            simp at hh
            subst hh
            rw [brk_crlf, inter_nil_cons (brk_ne _)]
            have := ih l (by simp at h; omega)
            simp only [List.length_append, List.length_cons, List.length_nil]
            omega
        · rw [brk_nl hb hc, inter_nil_cons (brk_ne _)]
          have := ih l (by simp at h; omega)
          simp only [List.length_append, List.length_cons, List.length_nil]
          omega
      · rw [brk_skip (by omega) (by omega), inter_pushH]
        have := ih l (by simp at h; omega)
        simp only [List.length_cons]
        omega
theorem len_sub2' (x : Str) : (sub2S x).length ≤ 2 * x.length := by
  show (sub2S x).cps.toList.length ≤ 2 * x.cps.toList.length
  rw [sub2_list]
  exact inter_len _ _ (Nat.le_refl _)
theorem len_sub1' (x : Str) : (sub1S x).length ≤ 2 * x.length := by
  show (sub1S x).cps.toList.length ≤ 2 * x.cps.toList.length
  rw [sub1_list]
  exact q1_len _ _
end Mine
end
section
open PySem PySem.W PyProof.Rows PySem.Calls
namespace Mine
theorem top_off_Crows : True := by
  w_top off
  trivial
set_option maxRecDepth 100000
local macro_rules | `(tactic| walk_at "call builtin:str.replace") => `(tactic| fail)
local macro_rules | `(tactic| walk_at "to if") => `(tactic| repeat' (first | (k_unfold; (try dsimp only)) | ((fail_if_success (with_reducible show wpAny _ _ (exec (Stmt.If _ _ _ _) _) _ _ _)); first | walk1 | (dsimp only; walk1))))
theorem ofString_nil : Str.ofString "" = Str.empty := by decide +kernel
theorem last_getD {R : List Str} (h : 1 < R.length) : R.getLast? = some (R.getD (-1 + (R.length : Int)).toNat Str.empty) := by
  have e : (-1 + (R.length : Int)).toNat = R.length - 1 := by omega
  rw [e, List.getLast?_eq_getElem?, List.getD_eq_getElem?_getD, List.getElem?_eq_getElem (by omega)]
  rfl
theorem last_empty {R : List Str} (h : 1 < R.length) (e : (R.getD (-1 + (R.length : Int)).toNat Str.empty == Str.ofString "") = true) : R.getLast? = some Str.empty := by
  rw [last_getD h, eq_of_beq e, ofString_nil]
theorem last_empty' {R : List Str} (h : 1 < R.length) (e : R.getLast? = some Str.empty) : (R.getD (-1 + (R.length : Int)).toNat Str.empty == Str.ofString "") = true := by
  rw [last_getD h] at e
  rw [Option.some.inj e, ofString_nil]
  exact beq_self_eq_true _
set_option maxHeartbeats 4000000 in
theorem rows_does {w : World} (news : Led) (x : Str) (t : Tok) (hx : x.length < 1001) :
    Does 2 w 122 [.str x t] [] news (fun v news' => ∃ l ws n, v = .ref l ∧ news' = (l, listOf (List.toArray ws) n) :: news ∧ StrsAre ws (rowsS x) ∧ ∀ p ∈ news, p.1 < l) := by
  intro p loose mean mg mb dp un gd cn cs a ccd cl outer A₀ base h₀ L m s Q E B F X N T hk hdp hun hret
  refine wpAny_call ?_
  k_dflt cell_enter
  refine gen_toks (Nat.le_add_left 1 s.toks) ?_
  intro tk0 htk0
  refine wpAny_execs_cons ?_
  have hx2 := len_rep2' x
  have hx3 := len_rep1' (Txt.replace x (Str.ofString "\r\n") (Str.ofString "\n"))
  have hxx := PySem.Flt.Hid.mk hx
  clear hx
  k_steps
  (try dsimp only)
  refine replaceT (by omega) (by omega) (by omega) (by decide +kernel) ?_ ?_
  · show x.length + (x.length + 1) * 1 ≤ _
    have := hxx.out
    omega
  dsimp only
  intro t1 k1 hk1
  k_steps
  (try dsimp only)
  refine replaceT (by omega) (by omega) (by omega) (by decide +kernel) ?_ ?_
  · show (Txt.replace x (Str.ofString "\r\n") (Str.ofString "\n")).length + ((Txt.replace x (Str.ofString "\r\n") (Str.ofString "\n")).length + 1) * 1 ≤ _
    have := hxx.out
    omega
  dsimp only
  intro t2 k2 hk2
  k_steps
  refine KSpl.split1 (by k_asm) (by k_asm) (by decide +kernel) ?_ (by have := hxx.out; rw [sizeLine_eq]; omega)
  intro D l h' k e sa F' N' lt
  have hR : ∃ R, R = rowsRaw x ∧ R.length ≤ 1001 ∧ StrsAre (strValues l) R := ⟨_, rfl, by have := len_rowsRaw' x; have := hxx.out; omega, by unfold rowsRaw; rw [← e]; exact sa⟩
  clear sa e hx2 hx3
  obtain ⟨R, hRx, hRl, sa⟩ := hR
  generalize strValues l = ws at *
  have hwl := strsAre_len sa
  walk_at "to if"
  have hsz : ∀ q ∈ news, q.1 < _ := fun q hq => Heap.lt_size ((by k_asm : News _ _ _ _) q (.tail _ hq)).1
  k_steps
  · rename (_ == Str.ofString "") = true => hlast
    rename News h₀ L _ _ => kN
    rename Fr h₀ L _ _ => kF
    have hgt' : 1 < R.length := by omega
    have e1 : slicePick ws.toArray none (some (-1)) none = (ws.take (ws.length - 1)).toArray := by
      rw [kms_pick_eq]
      unfold kms_pick
      simp [kms_lo, kms_hi]
    rw [e1] at kN
    refine hret _ _ _ _ ⟨_, ws.take (ws.length - 1), 0, rfl, rfl, ?_, ?_⟩ kF (cb_drop kN ?_)
    rotate_left 1
    · intro q hq
      exact Nat.lt_succ_of_lt (hsz q hq)
    rotate_left 1
    · unfold rowsS
      rw [← hRx, if_pos ⟨hgt', last_empty hgt' hlast⟩, hwl, List.dropLast_eq_take]
      exact strsAre_take (by assumption) _
    · intro q hq
      rcases List.mem_cons.mp hq with rfl | hq
      · exact .head _
      · exact .tail _ (.tail _ hq)
  · rename (_ == Str.ofString "") = false => hlast
    rename News h₀ L _ _ => kN
    rename Fr h₀ L _ _ => kF
    have hgt' : 1 < R.length := by omega
    refine hret _ _ _ _ ⟨D, ws, 0, rfl, rfl, ?_, lt⟩ kF kN
    unfold rowsS
    rw [← hRx, if_neg (fun h => absurd (last_empty' hgt' h.2) (by rw [hlast]; decide))]
    assumption
  · rename News h₀ L _ _ => kN
    rename Fr h₀ L _ _ => kF
    refine hret _ _ _ _ ⟨D, ws, 0, rfl, rfl, ?_, lt⟩ kF kN
    have hgt' : ¬ 1 < R.length := by omega
    unfold rowsS
    rw [← hRx, if_neg (fun h => hgt' h.1)]
    assumption
end Mine
end
section
open PySem PySem.W PyProof.Rows PySem.Calls
namespace Mine
set_option maxRecDepth 100000
local macro_rules | `(tactic| walk_at "to method") => `(tactic| repeat' (first | (k_unfold; (try dsimp only)) | ((fail_if_success (with_reducible show wpAny _ _ (getMethod (Value.ref _) _ _) _ _ _)); first | walk1 | (dsimp only; walk1))))
local macro_rules | `(tactic| walk_at "to call") => `(tactic| repeat' (first | (k_unfold; (try dsimp only)) | ((fail_if_success (with_reducible show wpAny _ _ (call _ _ _) _ _ _)); first | walk1 | (dsimp only; walk1))))
set_option maxHeartbeats 4000000 in
theorem quote_does {w : World} (news : Led) (x : Str) (t : Tok) (hx : x.length ≤ 500) :
    Does 2 w 48 [.str x t] [] news (fun v news' => ∃ t, v = .str (quoteS x) t ∧ news' = news) := by
  intro p loose mean mg mb dp un gd cn cs a ccd cl outer A₀ base h₀ L m s Q E B F X N T hk hdp hun hret
  refine wpAny_call ?_
  k_dflt cell_enter
  have hx2 := len_sub2' x
  walk_at "to method"
  refine method_re (by k_asm) (Frag.In.keeps (by k_asm) (fun _ _ e => e) 36 _ rfl) ?_
  walk_at "to method"
  refine method_re (by k_asm) (Frag.In.keeps (by k_asm) (fun _ _ e => e) 41 _ rfl) ?_
  walk_at "to call"
  refine sub2_call (by k_asm) (by k_asm) (by k_asm) (by omega) ?_
  intro h1 tk1 t1 F1 N1
  walk_at "to call"
  refine sub1_call (by k_asm) (by k_asm) (by k_asm) (by omega) ?_
  intro h2 tk2 t2 F2 N2
  k_steps
  rename News h₀ L _ _ => kN
  rename Fr h₀ L _ _ => kF
  exact hret _ _ _ _ ⟨_, rfl, rfl⟩ kF kN
set_option maxHeartbeats 4000000 in
theorem sent_does {w : World} (news : Led) (x : Str) (t : Tok) (hx : x.length ≤ 500) :
    Does 4 w 101 [.str x t] [] news (fun v news' => ∃ t, v = .str (sentS x) t ∧ news' = news) := by
  intro p loose mean mg mb dp un gd cn cs a ccd cl outer A₀ base h₀ L m s Q E B F X N T hk hdp hun hret
  refine wpAny_call ?_
  k_dflt cell_enter
  have hx2 := len_sub2' x
  have hx1 := len_sub1' (sub2S x)
  have hq : (quoteS x).length ≤ 2000 := by unfold quoteS; omega
  clear hx1 hx2
  walk_at "to call"
  refine quote_does _ _ _ hx p loose mean mg mb _ _ _ _ _ _ _ _ _ _ _ _ _ _ _ _ _ (by k_asm) (by k_asm) (by k_asm) (by k_asm) (by k_asm) rfl (by ktr_room) (by ktr_units) ?_
  rintro v news' h1 tk1 ⟨t1, rfl, rfl⟩ F1 N1
  have hqx : ∃ qx, qx = quoteS x := ⟨_, rfl⟩
  obtain ⟨qx, eqx⟩ := hqx
  rw [← eqx] at hq
  have e : sentS x = (if (Txt.slice qx (some (-2)) none != Str.ofString "\r\n") = true then qx ++ Str.ofString "\r\n" else qx) ++ Str.ofString ".\r\n" := by rw [eqx]; rfl
  rw [e] at hret
  rw [← eqx]
  clear e eqx
  k_steps
  · rename News h₀ L _ _ => kN
    rename Fr h₀ L _ _ => kF
    rename (_ != _) = true => hb
    rw [if_pos hb] at hret
    exact hret _ _ _ _ ⟨_, rfl, rfl⟩ kF kN
  · rename News h₀ L _ _ => kN
    rename Fr h₀ L _ _ => kF
    rename (_ != _) = false => hb
    rw [if_neg (by rw [hb]; decide)] at hret
    exact hret _ _ _ _ ⟨_, rfl, rfl⟩ kF kN
end Mine
end
section
open PySem PySem.W PyProof.Rows PySem.Calls PySem.Builtin PySem.Builtin.Str
namespace Mine
set_option maxRecDepth 100000
local macro_rules | `(tactic| k_all) => `(tactic| assumption)
local macro_rules | `(tactic| walk_at "to call") => `(tactic| repeat' (first | (k_unfold; (try dsimp only)) | ((fail_if_success (with_reducible show wpAny _ _ (call _ _ _) _ _ _)); (fail_if_success (with_reducible show wpAny _ _ (exec (Stmt.While _ _ _ _) _) _ _ _)); (fail_if_success (with_reducible show wpAny _ _ (binaryOp _ (Value.ref _) _) _ _ _)); (fail_if_success (with_reducible show wpAny _ _ (pyReprObj _) _ _ _)); first | walk1 | (dsimp only; walk1))))
local macro_rules | `(tactic| walk_at "enter turn") => `(tactic| (refine' code_defT ?k1 ?k2 ?k3 ?k4 ?k5 ?XB ?TB ?D ?kA ?kF ?kK ?k6 ?k7 ?k8 ?k9 ?kB ?_ ?c2 ?c3 ?c4 ?c5; (case kA => exact rfl); (case kF => exact rfl); (case kK => assumption); (case XB => assumption); (case TB => assumption); (case D => assumption); (case k1 => k_asm); (case k2 => k_asm); (case k3 => k_asm); (case k4 => k_asm); (case k5 => k_asm); (case k6 => k_is); (case k7 => k_is); (case k8 => ktr_room); (case k9 => exact BindsTo.of_eq rfl); (case c5 => decide); (case kB => exact locs rfl); (case c2 => exact rfl); (case c3 => exact rfl); (case c4 => exact rfl); k_whole))
theorem led_list {h₀ h : Heap} {L l : Addr} {led : Led} {vs : List Value} {n : Nat} (N : News h₀ L h led) (hm : (l, W.listOf vs.toArray n) ∈ led) : h.IsList l vs.toArray := ⟨_, (N _ hm).1, rfl, n, rfl⟩
theorem h77_two {tl news : Led} {l fa : Addr} {o fo : Obj} (hT : TabLed tl) (h77 : ∀ p ∈ news, p.1 ≠ 77) (l1 : ∀ p ∈ tl ++ news, p.1 < l) (lt2 : ∀ q ∈ (l, o) :: (tl ++ news), q.1 < fa) : ∀ q ∈ (fa, fo) :: (l, o) :: news, q.1 ≠ 77 := by
  obtain ⟨o7, h7⟩ := tab77 hT
  have a1 : 77 < l := l1 _ (List.mem_append_left _ h7)
  have a2 : l < fa := lt2 _ (.head _)
  intro q hq
  rcases List.mem_cons.mp hq with rfl | hq
  · exact Nat.ne_of_gt (Nat.lt_trans a1 a2)
  · rcases List.mem_cons.mp hq with rfl | hq
    · exact Nat.ne_of_gt a1
    · exact h77 q hq
theorem h77_two2 {tl rest : Led} {l fa : Addr} {o fo : Obj} (hT : TabLed tl) (h77 : ∀ p ∈ (l, o) :: rest, p.1 ≠ 77) (lt2 : ∀ q ∈ (l, o) :: (tl ++ rest), q.1 < fa) : ∀ q ∈ (fa, fo) :: (l, o) :: rest, q.1 ≠ 77 := by
  obtain ⟨o7, h7⟩ := tab77 hT
  have a1 : 77 < fa := lt2 _ (.tail _ (List.mem_append_left _ h7))
  intro q hq
  rcases List.mem_cons.mp hq with rfl | hq
  · exact Nat.ne_of_gt a1
  · exact h77 q hq
theorem mem_shuffle {q a r f : Addr × Obj} {tl s : Led} (h : q ∈ a :: (tl ++ (r :: f :: s))) : q ∈ r :: f :: a :: (tl ++ s) := by
  rcases List.mem_cons.mp h with rfl | h
  · exact .tail _ (.tail _ (.head _))
  · rcases List.mem_cons.mp (mem_front2.mp h) with rfl | h
    · exact .head _
    · rcases List.mem_cons.mp h with rfl | h
      · exact .tail _ (.head _)
      · exact .tail _ (.tail _ (.tail _ h))
theorem hap_of {r f : Addr × Obj} {l : Addr} {tl s : Led} (h : ∀ q ∈ tl ++ s, q.1 ≠ l) (hr : r.1 ≠ l) (hf : f.1 ≠ l) : ∀ q ∈ tl ++ (r :: f :: s), q.1 ≠ l := by
  intro q hq
  rcases List.mem_cons.mp (mem_front2.mp hq) with rfl | hq
  · exact hr
  · rcases List.mem_cons.mp hq with rfl | hq
    · exact hf
    · exact h q hq
theorem h77_of {r f : Addr × Obj} {l : Addr} {o o' : Obj} {rest news : Led} (h : ∀ q ∈ (l, o) :: (rest ++ news), q.1 ≠ 77) (hr : r.1 ≠ 77) (hf : f.1 ≠ 77) : ∀ q ∈ (l, o') :: ((r :: f :: rest) ++ news), q.1 ≠ 77 := by
  intro q hq
  rcases List.mem_cons.mp hq with rfl | hq
  · exact h (l, o) (.head _)
  · rcases List.mem_cons.mp hq with rfl | hq
    · exact hr
    · rcases List.mem_cons.mp hq with rfl | hq
      · exact hf
      · exact h q (.tail _ hq)
set_option maxHeartbeats 1000000 in
theorem taken_does {w : World} (news tl : Led) (hT : TabLed tl) (h77 : ∀ p ∈ news, p.1 ≠ 77) (b : Addr) (ob : Obj) (S : Str → Bool) (hb : (b, ob) ∈ news) (hS : FzObj ob S) (x : Str) (t : Tok) (hx : x.length ≤ 10000) (d : Dat) (ds : List Dat)
    (hE : EndAt x noS 0 d) (hM : MailsAt x S 0 d ds) (hds : ds.length ≤ 10000) :
    DoesL 9 w 115 [.str x t, .ref b] [] tl news (fun v add => ∃ l vs n, v = .ref l ∧ (l, listOf vs.toArray n) ∈ add ∧ DatAll add vs ds) := by
  intro p loose mean mg mb dp un gd cn cs a ccd cl outer A₀ base h₀ L m s Q E B F X N T XB TB D hkd hdp hun hret
  refine wpAny_call ?_
  k_dflt (walk_at "enter turn")
  intro g1 L1 hh1 FG F1 N1 B1 X1 T1 D1
  (try dsimp only)
  (try k_lift B1)
  (try k_fold)
  walk_at "to call"
  rename_i l hA l1 hB hC F' N'
  refine fz_call0 (by k_asm) (by k_asm) ?_
  intro fa fo h2 F2 N2 lt2 Z2
  walk_at "to call"
  have N2' := cb_drop N2 (fun q hq => mem_front2.mp hq)
  have h77' := h77_two (fo := fo) hT h77 l1 lt2
  refine lend_does _ tl hT h77' fa fo noS (.head _) Z2 x 0 d _ _ hx hE p loose mean mg mb _ _ _ _ _ _ _ _ _ _ _ _ _ _ _ _ _ B1 F2 X1 N2' T1 XB TB D1 rfl (by ktr_room) (by ktr_units) ?_
  intro ve tl3 g3 h3 tk3 hve hT3 T3 F3 N3 B3 X3 P3 D3
  walk_at "to call"
  rename Fr g3 _ _ _ => F4
  rename News g3 _ _ _ => N4
  have lne : ∀ q ∈ tl3 ++ ([(fa, fo)] ++ news), q.1 ≠ l := by
    intro q hq
    rcases List.mem_append.mp hq with hq | hq
    · exact tab_ne hT3 N4 (N4 _ (List.mem_append_right _ (.tail _ (.head _)))).1 q hq
    · rcases List.mem_append.mp hq with hq | hq
      · rw [List.mem_singleton.mp hq]
        exact Nat.ne_of_gt (lt2 _ (.head _))
      · exact Nat.ne_of_lt (l1 _ (List.mem_append_right _ hq))
  refine whl_inv (fun n s' => ∃ pl d' rest' pre, MailsAt x S pl d' rest' ∧ pre ++ rest' = ds ∧ rest'.length = n ∧ TS w x t b l news p loose mean mg mb (ktrTop dp un gd cn cs L a ccd cl outer) base g1 (envX cn cs L a ccd cl :: outer) L1 s pl d' pre s') ds.length ⟨0, d, ds, [], hM, rfl, rfl, ?_⟩ ?_ ?_
  · refine ts_mk (rest := [(fa, fo)]) (vs := []) (n := 0) hT3 T3 F4 rfl rfl rfl rfl rfl ?_ lne ?_ .nil hve B3 X3 P3 D3
    · refine cb_drop N4 (fun q hq => ?_)
      rw [List.mem_cons] at hq
      rcases hq with rfl | hq
      · exact List.mem_append_right _ (.tail _ (.head _))
      · rcases List.mem_append.mp hq with hq | hq
        · exact List.mem_append_left _ hq
        · rcases List.mem_append.mp hq with hq | hq
          · rw [List.mem_singleton.mp hq]
            exact List.mem_append_right _ (.head _)
          · exact List.mem_append_right _ (.tail _ (.tail _ hq))
    · intro q hq
      refine h77' q ?_
      rcases List.mem_cons.mp hq with rfl | hq
      · exact .tail _ (.head _)
      · rcases List.mem_cons.mp hq with rfl | hq
        · exact .head _
        · exact .tail _ (.tail _ hq)
  · clear F4 N4 lne B3 X3 P3 D3 T3 hT3 hve h77' N2 N2' F2 lt2 Z2 F' N'
    rintro n s2 ⟨pl, d', rest', pre, hM', hpre, hlen, gr, tl4, rest, vs, nn, u, tp, ve4, h4, tk4, rfl, hT4, T4, F4, N4, lne4, h774, D4, hve4, hvs, B4, X4, P4, Dd4⟩
    cases hve4 with
    | str y ty =>
      walk_at "to call"
      (iterate 1 walk1)
      walk_at "to call"
      rename_i r2 h5 F5 N5 l5
      have hz : vs.length + [Value.str y ty].length ≤ sizeLine := by
        have : pre.length ≤ ds.length := by rw [← hpre, List.length_append]; omega
        rw [hvs, sizeLine_eq]
        simp only [List.length_cons, List.length_nil]
        omega
      refine add_lists F5 N5 (led_list N5 (.tail _ (.head _))) (led_list N5 (.head _)) (fun h6 F6 N6 => ?_) hz
      walk_at "to call"
      refine ⟨gr, L1, _, tl4 ++ ([(_, { cls := .type "list", data := .seq (vs ++ [Value.str y ty]).toArray })] ++ rest ++ news), T4, F6, cb_drop N6 (fun q hq => ?_), fun h7 T7 F7 N7 B7 X7 P7 D7 => hret _ tl4 _ h7 h6 _ ⟨_, vs ++ [Value.str y ty], 0, rfl, List.mem_append_left _ (.head _), ?_⟩ hT4 T7 F7 N7 B7 X7 P7 D7⟩
      · rcases List.mem_append.mp hq with hq | hq
        · exact .tail _ (.tail _ (.tail _ (List.mem_append_left _ hq)))
        · rw [List.append_assoc] at hq
          rcases List.mem_append.mp hq with hq | hq
          · rw [List.mem_singleton.mp hq]
            exact .head _
          · exact .tail _ (.tail _ (.tail _ (List.mem_append_right _ hq)))
      · cases hM' with
        | done =>
          rw [← hpre]
          exact DatAll.append (DatAll.mono (fun q hq => List.mem_append_right _ hq) D4) (DatAll.one (.str _ _))
    | int k tk =>
      walk_at "to call"
      (iterate 1 walk1)
      walk_at "to call"
      cases hM' with
      | mail hR hE' hM'' =>
        rename_i k p' d5 dsr rest5
        refine whl_inv (fun n s' => ∃ pl' dsr' pre', RowsAt x S k pl' dsr' p' ∧ pre' ++ dsr' = pre ++ dsr ∧ dsr'.length = n ∧ TS w x t b l news p loose mean mg mb (ktrTop dp un gd cn cs L a ccd cl outer) base g1 (envX cn cs L a ccd cl :: outer) L1 s pl' (.int (k : Int)) pre' s') dsr.length ⟨pl, dsr, pre, hR, rfl, rfl, ts_mk hT4 T4 (by assumption) rfl rfl rfl rfl rfl (by assumption) lne4 h774 D4 (.int _ _) B4 X4 P4 Dd4⟩ ?_ ?_
        · clear lne4 h774 D4 hvs B4 X4 P4 Dd4 T4 hT4 F4 N4
          rintro n2 s3 ⟨pl', dsr', pre', hR', hpre', hlen', gr, tl4, rest, vs, nn, u, tp, ve4, h4, tk4, rfl, hT4, T4, F4, N4, lne4, h774, D4, hve4, hvs, B4, X4, P4, Dd4⟩
          cases hve4
          cases hR' with
          | done hlt =>
            walk_at "to call"
            rename_i tE
            rw [List.append_nil] at hpre'
            have hzl : pre'.length ≤ 10000 := by
              have : pre'.length ≤ ds.length := by
                rw [← hpre, ← List.append_assoc, ← hpre']
                simp only [List.length_append]
                omega
              omega
            refine append_head (by assumption) N4 lne4 ?_ (by rw [sizeLine_eq]; show vs.toArray.size ≤ _; rw [List.size_toArray, hvs]; omega)
            intro h13 F13 N14
            rw [show vs.toArray.push (Value.int (k : Int) tE) = (vs ++ [Value.int (k : Int) tE]).toArray by simp] at N14
            clear F4 N4
            walk_at "to call"
            refine fz_call0 (by k_asm) (by k_asm) ?_
            intro fa2 fo2 h6 F6 N6 lt6 Z6
            walk_at "to call"
            have lfa : l < fa2 := lt6 _ (.head _)
            have hfa7 : 77 < fa2 := by
              obtain ⟨o7, h7⟩ := tab77 hT4
              exact lt6 _ (.tail _ (List.mem_append_left _ h7))
            have h77x : ∀ q ∈ (fa2, fo2) :: (l, W.listOf (vs ++ [Value.int (k : Int) tE]).toArray (nn + 1)) :: (rest ++ news), q.1 ≠ 77 := by
              intro q hq
              rcases List.mem_cons.mp hq with rfl | hq
              · exact Nat.ne_of_gt hfa7
              · rcases List.mem_cons.mp hq with rfl | hq
                · exact h774 (l, W.listOf vs.toArray nn) (.head _)
                · exact h774 q (.tail _ hq)
            refine lend_does ((fa2, fo2) :: (l, W.listOf (vs ++ [Value.int (k : Int) tE]).toArray (nn + 1)) :: (rest ++ news)) tl4 hT4 h77x fa2 fo2 noS (.head _) Z6 x (k + 5) d5 _ _ hx hE' p loose mean mg mb _ _ _ _ _ _ _ _ _ _ _ _ _ _ _ _ _ B4 F6 X4 (cb_drop N6 (fun q hq => mem_front2.mp hq)) P4 XB TB Dd4 rfl (by ktr_room) (by ktr_units) ?_
            intro ve9 tl9 g9 h10 tk9 hve9 hT9 T9 F10 N10 B10 X10 P10 D10
            have lne9 : ∀ q ∈ tl9 ++ (((fa2, fo2) :: rest) ++ news), q.1 ≠ l := by
              intro q hq
              rcases List.mem_append.mp hq with hq | hq
              · exact tab_ne hT9 N10 (N10 _ (List.mem_append_right _ (.tail _ (.head _)))).1 q hq
              · rcases List.mem_cons.mp hq with rfl | hq
                · exact Nat.ne_of_gt lfa
                · exact lne4 q (List.mem_append_right _ hq)
            have N11 := cb_drop N10 (fun q (hq : q ∈ (l, W.listOf (vs ++ [Value.int (k : Int) tE]).toArray (nn + 1)) :: (tl9 ++ (((fa2, fo2) :: rest) ++ news))) => (by
              rcases List.mem_cons.mp hq with rfl | hq
              · exact List.mem_append_right _ (.tail _ (.head _))
              · rcases List.mem_append.mp hq with hq | hq
                · exact List.mem_append_left _ hq
                · rcases List.mem_cons.mp hq with rfl | hq
                  · exact List.mem_append_right _ (.head _)
                  · exact List.mem_append_right _ (.tail _ (.tail _ hq))))
            have h77y : ∀ q ∈ (l, W.listOf (vs ++ [Value.int (k : Int) tE]).toArray (nn + 1)) :: (((fa2, fo2) :: rest) ++ news), q.1 ≠ 77 := by
              intro q hq
              rcases List.mem_cons.mp hq with rfl | hq
              · exact h774 (l, W.listOf vs.toArray nn) (.head _)
              · rcases List.mem_cons.mp hq with rfl | hq
                · exact Nat.ne_of_gt hfa7
                · exact h774 q (.tail _ hq)
            clear N10 N6 F6 B4 X4 P4 Dd4 lne4
            walk_at "to call"
            rename_i h15 F15 N15
            refine wnext rest5.length (by rw [← hlen, List.length_append, List.length_cons]; omega) ⟨k + 5, d5, rest5, pre' ++ [.int (k : Int)], hM'', by rw [hpre', List.append_assoc, List.append_assoc]; exact hpre, rfl, ts_mk (rest := (fa2, fo2) :: rest) hT9 (T4.trans T9) F15 rfl rfl rfl rfl rfl N15 lne9 h77y ?_ hve9 B10 X10 P10 D10⟩
            exact DatAll.append (DatAll.mono (fun q hq => .tail _ hq) D4) (DatAll.one (.int _ _))
          | row hle hrow hR2 =>
            rename_i q told dsr2
            walk_at "to call"
            refine fz_call0 (by k_asm) (by k_asm) ?_
            intro fa2 fo2 h6 F6 N6 lt6 Z6
            walk_at "to call"
            obtain ⟨rs, hcr⟩ := hrow.crlf
            have hpq : pl' ≤ q := Nat.le_trans (Nat.le_add_right _ _) hrow.dots
            have hqx : q ≤ x.length := by have := hrow.stop; omega
            refine skipu_found ((fa2, fo2) :: (l, W.listOf vs.toArray nn) :: (tl4 ++ (rest ++ news))) fa2 fo2 noS (.head _) Z6 x CRLF pl' q rs _ _ _ hx (Nat.le_trans hpq hqx) hcr hpq hqx (by simp [noS, signIn]) p loose mean mg mb _ _ _ _ _ _ _ _ _ _ _ _ _ _ _ _ _ (by k_asm) (by k_asm) (by k_asm) (by k_asm) (by k_asm) rfl (by ktr_room) (by ktr_units) ?_
            rintro v7 news7 h7 tk7 ⟨⟨t7, rfl⟩, rfl⟩ F7 N7
            walk_at "to call"
            refine skipc_does ((fa2, fo2) :: (l, W.listOf vs.toArray nn) :: (tl4 ++ (rest ++ news))) x pl' _ _ _ (by omega) (by have := hrow.dots; have := hrow.stop; omega) p loose mean mg mb _ _ _ _ _ _ _ _ _ _ _ _ _ _ _ _ _ (by k_asm) (by k_asm) (by k_asm) (by k_asm) (by k_asm) rfl (by ktr_room) (by ktr_units) ?_
            rintro v8 news8 h8 tk8 ⟨t8, rfl, rfl⟩ F8 N8
            walk_at "to call"
            rename_i h9 t9 k9 F9 N9 z9
            have lfa : l < fa2 := lt6 _ (.head _)
            have h77x := h77_two2 (fo := fo2) hT4 h774 lt6
            refine lend_does ((fa2, fo2) :: (l, W.listOf vs.toArray nn) :: (rest ++ news)) tl4 hT4 h77x b ob S (.tail _ (.tail _ (List.mem_append_right _ hb))) hS x pl' told _ _ hx hrow.told p loose mean mg mb _ _ _ _ _ _ _ _ _ _ _ _ _ _ _ _ _ B4 F9 X4 (cb_drop N9 (fun q hq => mem_front2.mp hq)) P4 XB TB Dd4 rfl (by ktr_room) (by ktr_units) ?_
            intro ve9 tl9 g9 h10 tk9 hve9 hT9 T9 F10 N10 B10 X10 P10 D10
            have lne9 : ∀ q ∈ tl9 ++ (rest ++ news), q.1 ≠ l := by
              intro q hq
              rcases List.mem_append.mp hq with hq | hq
              · exact tab_ne hT9 N10 (N10 _ (List.mem_append_right _ (.tail _ (.head _)))).1 q hq
              · exact lne4 q (List.mem_append_right _ hq)
            have N11 := cb_drop N10 (fun q hq => mem_front2.mpr hq)
            clear N10 F9 N9 B4 X4 P4 Dd4 lne4
            (try clear F8)
            (try clear N8)
            (try clear F7)
            (try clear N7)
            (try clear F6)
            (try clear N6)
            (try clear F4)
            (try clear N4)
            walk_at "to call"
            rename_i rl h12 F12 N12 l12
            have e1 : (((pl' + dotsAt (x.cps.toList.drop pl') : Nat) : Int) - (pl' : Int)) = ((dotsAt (x.cps.toList.drop pl') : Nat) : Int) := by omega
            rw [e1, slice_nat hrow.dots hqx] at N12
            have hzl : pre'.length ≤ 10000 := by
              have : pre'.length ≤ ds.length := by
                rw [← hpre, ← List.append_assoc, ← hpre']
                simp only [List.length_append]
                omega
              omega
            have N13 := cb_drop N12 (fun q hq => mem_shuffle hq)
            have lrl : l < rl := l12.2.1
            have lfr : fa2 < rl := l12.1
            have hfa7 : 77 < fa2 := by
              obtain ⟨o7, h7⟩ := tab77 hT4
              exact lt6 _ (.tail _ (List.mem_append_left _ h7))
            refine append_head F12 N13 (hap_of lne9 (Nat.ne_of_gt lrl) (Nat.ne_of_gt lfa)) ?_ (by rw [sizeLine_eq]; show vs.toArray.size ≤ _; rw [List.size_toArray, hvs]; omega)
            intro h13 F13 N14
            rw [show vs.toArray.push (Value.ref rl) = (vs ++ [Value.ref rl]).toArray by simp] at N14
            walk_at "to call"
            rename_i h15 F15 N15
            refine wnext dsr2.length (by rw [← hlen']; exact Nat.lt_succ_self _) ⟨q + 2, dsr2, pre' ++ [rowD x pl' q told], hR2, by rw [List.append_assoc]; exact hpre', rfl, ts_mk (rest := (rl, _) :: (fa2, fo2) :: rest) hT9 (T4.trans T9) F15 rfl rfl rfl rfl rfl N15 (hap_of lne9 (Nat.ne_of_gt lrl) (Nat.ne_of_gt lfa)) (h77_of h774 (Nat.ne_of_gt (Nat.lt_trans hfa7 lfr)) (Nat.ne_of_gt hfa7)) ?_ (.int _ _) B10 X10 P10 D10⟩
            refine DatAll.append (DatAll.mono (fun q hq => .tail _ (.tail _ hq)) D4) (DatAll.one (.list (.head _) (.cons (.int _ _) (.cons (.str _ _) (.cons (hve9.datIn _) .nil)))))
        · k_steps
  · k_steps
end Mine
end
section
open PySem PySem.W PyProof.Rows PySem.Builtin PySem.Builtin.Str PySem.StrLaws
namespace Mine
/-- a row as it is sent -/
def dotS (x : Str) : Str := ⟨(dotL x.cps.toList).toArray⟩
theorem dot_list : (Str.ofString ".").cps.toList = [46] := by decide +kernel
theorem str_ext {x y : Str} (h : x.cps.toList = y.cps.toList) : x = y := Str.ext' (Array.toList_inj.mp h)
theorem slice1_list (x : Str) : (Txt.slice x none (some 1)).cps.toList = x.cps.toList.take 1 := by
  have el : x.cps.toList.length = x.length := rfl
  rcases Nat.eq_zero_or_pos x.length with h | h
  · have := Txt.slice_le x none (some 1)
    have e2 : (Txt.slice x none (some 1)).cps.toList.length = (Txt.slice x none (some 1)).length := rfl
    rw [List.length_eq_zero_iff.mp (e2.trans (by omega)), List.length_eq_zero_iff.mp (el.trans h)]
    rfl
  · have hs := eq_of_beq (slice_closes_toL (x := x) (j := 1) (by omega) (by omega))
    rw [hs]
    rfl
theorem slice1_iff (x : Str) : (Txt.slice x none (some 1) == Str.ofString ".") = true ↔ x.cps.toList.head? = some 46 := by
  rw [beq_iff_eq]
  constructor
  · intro h
    have := congrArg (fun s : Str => s.cps.toList) h
    simp only [slice1_list, dot_list] at this
    cases hx : x.cps.toList with
    | nil => rw [hx] at this; cases this
    | cons c l =>
      rw [hx] at this
      simp at this
      rw [this]
      rfl
  · intro h
    refine str_ext ?_
    rw [slice1_list, dot_list]
    cases hx : x.cps.toList with
    | nil => rw [hx] at h; cases h
    | cons c l =>
      rw [hx] at h
      simp at h
      rw [h]
      rfl
theorem dotS_yes {x : Str} (h : (Txt.slice x none (some 1) == Str.ofString ".") = true) : Str.ofString "." ++ x = dotS x := by
  have h' := (slice1_iff x).mp h
  refine str_ext ?_
  rw [Str.cps_append, Array.toList_append, dot_list]
  unfold dotS dotL
  rw [if_pos h']
  rfl
theorem dotS_no {x : Str} (h : (Txt.slice x none (some 1) == Str.ofString ".") = false) : x = dotS x := by
  have h' : ¬ x.cps.toList.head? = some 46 := fun q => by rw [(slice1_iff x).mpr q] at h; cases h
  refine str_ext ?_
  unfold dotS dotL
  rw [if_neg h']
theorem dotS_list (x : Str) : (dotS x).cps.toList = dotL x.cps.toList := rfl
theorem dotL_len (l : List Nat) : (dotL l).length ≤ l.length + 1 := by
  unfold dotL
  split
  · simp
  · omega
theorem dotS_len (x : Str) : (dotS x).length ≤ x.length + 1 := dotL_len x.cps.toList
theorem takeWhile_drop (p : Nat → Bool) : ∀ l : List Nat, l.drop (l.takeWhile p).length = l.dropWhile p
  | [] => rfl
  | c :: l => by
    by_cases h : p c = true
    · rw [List.takeWhile_cons_of_pos h, List.dropWhile_cons_of_pos h, List.length_cons, List.drop_succ_cons]
      exact takeWhile_drop p l
    · rw [List.takeWhile_cons_of_neg h, List.dropWhile_cons_of_neg h]
      rfl
theorem lstrip_list (x : Str) : (Txt.lstripChars x (Str.ofString ".")).cps.toList = x.cps.toList.drop (dotsAt x.cps.toList) := by
  have e : (fun c => (Str.ofString ".").cps.contains c) = (fun c : Nat => c == 46) := by
    have e0 : (Str.ofString ".").cps = #[46] := by decide +kernel
    rw [e0]
    funext c
    simp [Array.contains]
  unfold Txt.lstripChars
  rw [PyProof.Rows.stripBy_eq]
  show ((strSub x (stripLo (fun c => (Str.ofString ".").cps.contains c) true x) _).cps.toList) = _
  rw [e]
  simp only [stripLo, stripHi, if_true, Bool.false_eq_true, if_false]
  unfold strSub
  simp [dotsAt, Str.length]
  exact List.take_of_length_le (by simp)
theorem dots_dotL (r : List Nat) : (dotL r).drop (dotsAt (dotL r)) = r.drop (dotsAt r) := by
  unfold dotL
  split
  · have : dotsAt (46 :: r) = dotsAt r + 1 := by simp [dotsAt]
    rw [this, List.drop_succ_cons]
  · rfl
theorem dots_le (r : List Nat) : dotsAt r ≤ r.length := by
  unfold dotsAt
  exact (List.takeWhile_sublist _).length_le
/-- how many dots were drawn -/
theorem dots_count (x : Str) : ((dotS x).length : Int) - ((Txt.lstripChars x (Str.ofString ".")).length : Int) = ((dotsAt (dotL x.cps.toList) : Nat) : Int) := by
  have h1 : (Txt.lstripChars x (Str.ofString ".")).length = ((dotL x.cps.toList).drop (dotsAt (dotL x.cps.toList))).length := by
    rw [dots_dotL, ← lstrip_list]
    rfl
  have h2 : (dotS x).length = (dotL x.cps.toList).length := rfl
  have h3 := dots_le (dotL x.cps.toList)
  rw [List.length_drop] at h1
  omega
theorem lstrip_eq (x : Str) : Txt.lstripChars x (Str.ofString ".") = ⟨((dotL x.cps.toList).drop (dotsAt (dotL x.cps.toList))).toArray⟩ := by
  refine str_ext ?_
  rw [lstrip_list, dots_dotL]
theorem strsAre_at {vs : List Value} {xs : List Str} {i : Nat} {v : Value} (h : StrsAre vs xs) (hv : vs[i]? = some v) : ∃ t, v = .str (xs.getD i Str.empty) t := by
  have hl := strsAre_len h
  have hi : i < xs.length := by
    have := (List.getElem?_eq_some_iff.mp hv).1
    omega
  obtain ⟨t, ht⟩ := strsAre_get h i hi
  rw [hv] at ht
  refine ⟨t, ?_⟩
  rw [Option.some.inj ht, List.getD_eq_getElem?_getD, List.getElem?_eq_getElem hi]
  rfl
theorem getD_mem {xs : List Str} {i : Nat} (hi : i < xs.length) : xs.getD i Str.empty ∈ xs := by
  rw [List.getD_eq_getElem?_getD, List.getElem?_eq_getElem hi]
  exact List.getElem_mem hi
theorem intsAre_of {n : Nat} {g : Nat → Int} : ∀ {ys : List Value}, ys.length = n → (∀ (i : Nat) (y : Value), ys[i]? = some y → ∃ t, y = .int (g i) t) → IntsAre ys ((List.range n).map g) := by
  intro ys
  induction ys generalizing n g with
  | nil => intro h _; simp at h; subst h; exact .nil
  | cons y ys ih =>
    intro h hy
    cases n with
    | zero => simp at h
    | succ n =>
      obtain ⟨t, e⟩ := hy 0 y (by simp)
      rw [List.range_succ_eq_map, List.map_cons, List.map_map, e]
      exact .cons _ t (ih (by simpa using h) fun i z hz => hy (i + 1) z (by simpa using hz))
theorem range_getD {β : Type} (f : Str → β) (R : List Str) : (List.range R.length).map (fun i => f (R.getD i Str.empty)) = R.map f := by
  apply List.ext_getElem
  · simp
  · intro i h1 h2
    simp at h1 h2
    simp [h2]
theorem sum_int (f : Str → Nat) : ∀ R : List Str, (R.map fun r => ((f r : Nat) : Int)).sum = (((R.map f).sum : Nat) : Int)
  | [] => rfl
  | r :: R => by rw [List.map_cons, List.map_cons, List.sum_cons, List.sum_cons, sum_int f R]; omega
theorem brk_row_len : ∀ (m : Nat) (l : List Nat), l.length ≤ m → ∀ r ∈ brk l, r.length ≤ l.length := by
  intro m
  induction m with
  | zero =>
    intro l h r hr
    have : l = [] := List.length_eq_zero_iff.mp (by omega)
    subst this
    simp [brk] at hr
    subst hr
    simp
  | succ m ih =>
    intro l h r hr
    match l, h with
    | [], _ => simp [brk] at hr; subst hr; simp
    | [c], _ =>
      unfold brk at hr
      split at hr
      · simp at hr; subst hr; simp
      · simp at hr; subst hr; simp
    | c :: d :: l, h =>
      unfold brk at hr
      split at hr
      · rcases List.mem_cons.mp hr with rfl | hr
        · simp
        · have := ih l (by simp at h; omega) r hr
          simp; omega
      · split at hr
        · rcases List.mem_cons.mp hr with rfl | hr
          · simp
          · have := ih (d :: l) (by simpa using h) r hr
            simp at this ⊢; omega
        · have key : ∀ ps : List (List Nat), (∀ q ∈ ps, q.length ≤ (d :: l).length) → ∀ q ∈ pushH c ps, q.length ≤ (c :: d :: l).length := by
            intro ps hps q hq
            cases ps with
            | nil => simp [pushH] at hq; subst hq; simp
            | cons a ps =>
              simp only [pushH] at hq
              rcases List.mem_cons.mp hq with rfl | hq
              · have := hps a (.head _)
                simp at this ⊢; omega
              · have := hps q (.tail _ hq)
                simp at this ⊢; omega
          exact key _ (ih (d :: l) (by simpa using h)) r hr
theorem rows_len (x : Str) : (rowsS x).length ≤ x.length + 1 := by
  have := len_rowsRaw' x
  unfold rowsS
  split
  · rw [List.length_dropLast]; omega
  · exact this
theorem row_len {x r : Str} (h : r ∈ rowsS x) : r.length ≤ x.length := by
  have hm : r.cps.toList ∈ brk x.cps.toList := by
    rw [← rowsRaw_list]
    refine List.mem_map.mpr ⟨r, ?_, rfl⟩
    unfold rowsS at h
    split at h
    · exact List.dropLast_subset _ h
    · exact h
  exact brk_row_len _ _ (Nat.le_refl _) _ hm
/-- the length of a body -/
theorem body_len : ∀ rows : List (List Nat), (bodyL rows).length = rows.length * 2 + (rows.map fun r => (dotL r).length).sum
  | [] => rfl
  | r :: rs => by
    rw [bodyL_cons, List.length_append, List.length_cons, List.length_cons, body_len rs, List.length_cons, List.map_cons, List.sum_cons]
    omega
end Mine
end
section
open PySem PySem.W PyProof.Rows PySem.Builtin PySem.Builtin.Str PySem.StrLaws
namespace Mine
theorem first_some {l y : List Nat} {c : Nat} (h : l.findIdx? (fun c => y.contains c) = some c) : ∃ ch, l[c]? = some ch ∧ ch ∈ y ∧ c < l.length ∧ l.getD c 0 = ch := by
  obtain ⟨hlt, hc, _⟩ := List.findIdx?_eq_some_iff_getElem.mp h
  exact ⟨l[c], List.getElem?_eq_getElem hlt, by simpa using hc, hlt, by simp [List.getD_eq_getElem?_getD, hlt]⟩
theorem told_some {sg r : List Nat} {k line c : Nat} {rs : List (List Nat)} (h : (dotL r).findIdx? (fun c => sg.contains c) = some c) : toldD sg k line (r :: rs) = .str (msgD ((dotL r).getD c 0) line (c + 1)) := by
  unfold toldD
  rw [h]
theorem told_none {sg r : List Nat} {k line : Nat} {rs : List (List Nat)} (h : (dotL r).findIdx? (fun c => sg.contains c) = none) : toldD sg k line (r :: rs) = toldD sg k (line + 1) rs := by
  conv => lhs; unfold toldD
  rw [h]
theorem app_assoc (x y z : Str) : x ++ y ++ z = x ++ (y ++ z) := by
  refine str_ext ?_
  simp only [Str.cps_append, Array.toList_append, List.append_assoc]
theorem nil_app (x : Str) : Str.empty ++ x = x := by
  refine str_ext ?_
  simp only [Str.cps_append, Array.toList_append]
  rfl
theorem text_re (F r sp al lt co ct cl spat ln : Str) (e : spat ++ ln = sp ++ al) : F ++ r ++ sp ++ (al ++ lt ++ co ++ ct ++ cl) = Str.empty ++ (Str.empty ++ F ++ r) ++ spat ++ (Str.empty ++ ln ++ lt ++ co ++ ct) ++ cl := by
  simp only [nil_app, app_assoc]
  rw [← app_assoc sp al, ← app_assoc spat ln, e]
/-- the text of a barred sign, as _law_due writes it -/
theorem told_text (ch line col : Nat) : Str.ofString "Found invalid character " ++ reprText ⟨#[ch]⟩ ++ Str.ofString " " ++ (Str.ofString "(at line " ++ Str.ofString (toString ((line : Nat) : Int)) ++ Str.ofString ", column " ++ Str.ofString (toString ((col : Nat) : Int)) ++ Str.ofString ")") = msgD ch line col :=
  text_re _ _ _ _ _ _ _ _ (Str.ofString " (at ") (Str.ofString "line ") (by decide +kernel)
theorem part_rows {sg : List Nat} {K line : Nat} {rj : Str} {rs : List (List Nat)} {tod : Dat} {tds : List Dat} (h1 : tds = rowsD sg K (line + 1) rs) (h2 : tod = toldD sg K line (rj.cps.toList :: rs)) :
    Dat.list [.int (((dotS rj).length : Int) - ((Txt.lstripChars rj (Str.ofString ".")).length : Int)), .str (Txt.lstripChars rj (Str.ofString ".")), tod] :: tds = rowsD sg K line (rj.cps.toList :: rs) := by
  rw [dots_count, lstrip_eq, h1, h2]
  rfl
theorem six_repr {c : Nat} (h : c ∈ [0, 32, 97, 8232, 98, 133]) : (reprText ⟨#[c]⟩).length ≤ 8 := by
  simp only [List.mem_cons, List.not_mem_nil, or_false] at h
  rcases h with rfl | rfl | rfl | rfl | rfl | rfl
  all_goals decide +kernel
end Mine
end
section
open PySem PySem.W PyProof.Rows PySem.Calls PySem.Builtin PySem.Builtin.Str
namespace Mine
theorem top_off_Cdue : True := by
  w_top off
  trivial
set_option maxRecDepth 100000
local macro_rules | `(tactic| k_all) => `(tactic| assumption)
local macro_rules | `(tactic| walk_at "to call") => `(tactic| repeat' (first | (k_unfold; (try dsimp only)) | ((fail_if_success (with_reducible show wpAny _ _ (call (Value.ref _) _ _) _ _ _)); (fail_if_success (with_reducible show wpAny _ _ (call (Value.builtin "sum") _ _) _ _ _)); (fail_if_success (with_reducible show wpAny _ _ (call (Value.type "str") _ _) _ _ _)); (fail_if_success (with_reducible show wpAny _ _ (subscriptTail (Expr.Subscript _ _ _) _ _ _) _ _ _)); (fail_if_success (with_reducible show wpAny _ _ (subscriptTail (Expr.Name _ _) (Expr.Subscript _ _ _) _ _) _ _ _)); (fail_if_success (with_reducible show wpAny _ _ (pyIter _) _ _ _)); (fail_if_success (with_reducible show wpAny _ _ (subscriptTail (Expr.Name _ _) (Expr.Name _ _) _ _) _ _ _)); (fail_if_success (with_reducible show wpAny _ _ (eval (Expr.ListComp _ _ _ _) _) _ _ _)); (fail_if_success (with_reducible show wpAny _ _ (exec (Stmt.For _ _ _ _ _) _) _ _ _)); (fail_if_success (with_reducible show wpAny _ _ (exec (Stmt.Assign _ (Expr.ListComp _ _ _ _) _) _) _ _ _)); (fail_if_success (with_reducible show LCg.CompSrc _ _ _ _ _ _ _ _ _ _ _ _ _ _)); (fail_if_success (with_reducible show InvPostG _ _ _ _ _ _ _ _)); (fail_if_success (with_reducible show wpAny _ _ (binaryOp _ (Value.ref _) _) _ _ _)); first | walk1 | (dsimp only; walk1))))
theorem news_lt {h₀ h : Heap} {L : Addr} {led : Led} (N : News h₀ L h led) : ∀ q ∈ led, q.1 < h.objs.size := fun q hq => Heap.lt_size (N q hq).1
theorem led_list' {h₀ h : Heap} {L l : Addr} {led : Led} {vs : List Value} {n : Nat} (N : News h₀ L h led) (hm : (l, W.listOf vs.toArray n) ∈ led) : h.IsList l vs.toArray := ⟨_, (N _ hm).1, rfl, n, rfl⟩
theorem rowsD_len (sg : List Nat) (k : Nat) : ∀ (rs : List (List Nat)) (line : Nat), (rowsD sg k line rs).length = rs.length
  | [], _ => rfl
  | r :: rs, line => by rw [rowsD, List.length_cons, List.length_cons, rowsD_len sg k rs]
def SIX : List Nat := [0, 32, 97, 8232, 98, 133]
/-- the table of shown signs -/
def ShownAt (w : World) (o : Obj) : Prop := ∃ kvs : List (Str × Value), o.IsDictOf (PySem.strKind PG w) kvs ∧ ∀ c ∈ SIX, ∃ t, valueAt kvs ⟨#[c]⟩ = some (.str (reprText ⟨#[c]⟩) t)
theorem shown_mk {w : World} {o : Obj} {t0 t1 t2 t3 t4 t5 u0 u1 u2 u3 u4 u5 : Tok}
    (h : o.IsDictOf (PySem.strKind PG w) (strPairs [(.str (Str.ofString "\x00") t0, .str (Str.ofString "'\\x00'") u0), (.str (Str.ofString " ") t1, .str (Str.ofString "' '") u1), (.str (Str.ofString "a") t2, .str (Str.ofString "'a'") u2), (.str (Str.ofString "\u2028") t3, .str (Str.ofString "'\\u2028'") u3), (.str (Str.ofString "b") t4, .str (Str.ofString "'b'") u4), (.str (Str.ofString "\u0085") t5, .str (Str.ofString "'\\x85'") u5)])) : ShownAt w o := by
  refine ⟨_, h, ?_⟩
  have k0 : Str.ofString "\x00" = ⟨#[0]⟩ := by decide +kernel
  have k1 : Str.ofString " " = ⟨#[32]⟩ := by decide +kernel
  have k2 : Str.ofString "a" = ⟨#[97]⟩ := by decide +kernel
  have k3 : Str.ofString "\u2028" = ⟨#[8232]⟩ := by decide +kernel
  have k4 : Str.ofString "b" = ⟨#[98]⟩ := by decide +kernel
  have k5 : Str.ofString "\u0085" = ⟨#[133]⟩ := by decide +kernel
  have r0 : reprText ⟨#[0]⟩ = Str.ofString "'\\x00'" := by decide +kernel
  have r1 : reprText ⟨#[32]⟩ = Str.ofString "' '" := by decide +kernel
  have r2 : reprText ⟨#[97]⟩ = Str.ofString "'a'" := by decide +kernel
  have r3 : reprText ⟨#[8232]⟩ = Str.ofString "'\\u2028'" := by decide +kernel
  have r4 : reprText ⟨#[98]⟩ = Str.ofString "'b'" := by decide +kernel
  have r5 : reprText ⟨#[133]⟩ = Str.ofString "'\\x85'" := by decide +kernel
  rw [k0, k1, k2, k3, k4, k5, ← r0, ← r1, ← r2, ← r3, ← r4, ← r5]
  intro c hc
  simp only [SIX, List.mem_cons, List.not_mem_nil, or_false] at hc
  rcases hc with rfl | rfl | rfl | rfl | rfl | rfl
  · exact ⟨u0, rfl⟩
  · exact ⟨u1, rfl⟩
  · exact ⟨u2, rfl⟩
  · exact ⟨u3, rfl⟩
  · exact ⟨u4, rfl⟩
  · exact ⟨u5, rfl⟩
abbrev dueB (ml : Addr) (sg : Str) (t : Tok) (sh ld : Addr) (pl ln : Int) (tp tn : Tok) : List (Str × Value) :=
  [(Str.ofString "mails", .ref ml), (Str.ofString "signs", .str sg t), (Str.ofString "shown", .ref sh), (Str.ofString "due", .ref ld), (Str.ofString "place", .int pl tp), (Str.ofString "line", .int ln tn)]
/-- the state of _law_due between two mails -/
def DueJ (ml : Addr) (sg : Str) (t : Tok) (sh : Addr) (osh : Obj) (news : Led) (D : Nat → Nat → Nat → List Dat → Prop) (i : Nat) (m : Str → Option Value) (nx : Led) : Prop :=
  ∃ (u : Str → Option Value) (ld : Addr) (vs : List Value) (n : Nat) (rest : Led) (pl ln : Nat) (tp tn : Tok) (ds : List Dat), m = kstB u (dueB ml sg t sh ld (pl : Int) (ln : Int) tp tn) ∧ nx = (ld, W.listOf vs.toArray n) :: (rest ++ ((sh, osh) :: news)) ∧ DatAll rest vs ds ∧ D i pl ln ds
abbrev partB (ml : Addr) (sg : Str) (t : Tok) (sh ld : Addr) (pl ln : Int) (tp tn : Tok) (lr ld2 : Addr) (K : Int) (te : Tok) (vt : Value) (lp : Addr) : List (Str × Value) :=
  [(Str.ofString "mails", .ref ml), (Str.ofString "signs", .str sg t), (Str.ofString "shown", .ref sh), (Str.ofString "due", .ref ld), (Str.ofString "place", .int pl tp), (Str.ofString "line", .int ln tn), (Str.ofString "rows", .ref lr), (Str.ofString "dotted", .ref ld2), (Str.ofString "end", .int K te), (Str.ofString "told", vt), (Str.ofString "part", .ref lp)]
/-- the state of _law_due within a mail -/
def PartJ (B : Tok → Value → Addr → List (Str × Value)) (nw : Led) (D : Nat → List Dat → Dat → Prop) (i : Nat) (m : Str → Option Value) (nx : Led) : Prop :=
  ∃ (u : Str → Option Value) (lp : Addr) (vs : List Value) (n : Nat) (rest : Led) (te : Tok) (vt : Value) (tds : List Dat) (tod : Dat), m = kstB u (B te vt lp) ∧ nx = (lp, W.listOf vs.toArray n) :: (rest ++ nw) ∧ (∀ q ∈ (lp, W.listOf vs.toArray n) :: rest, ∀ p ∈ nw, p.1 < q.1) ∧ DatAll rest vs tds ∧ Flat vt tod ∧ D i tds tod
theorem allLt_mem {d : Nat} : ∀ {l : Led}, AllLt d l → ∀ p ∈ l, p.1 < d
  | [], _, p, hp => (nomatch hp)
  | q :: l, h, p, hp => by
    rcases List.mem_cons.mp hp with rfl | hp
    · exact h.1
    · exact allLt_mem h.2 p hp
theorem kstB_self' {m : Str → Option Value} {ps : List (Str × Value)} (h : ∀ p ∈ ps, m p.1 = some p.2) : m = kstB m ps := (kstB_self h).symm
theorem part_mk {ml : Addr} {sg : Str} {t : Tok} {sh ld : Addr} {pl ln : Int} {tp tn : Tok} {lr ld2 : Addr} {K : Int} {nw : Led} {D : Nat → List Dat → Dat → Prop} {i : Nat} {m : Str → Option Value} {te : Tok} {vt : Value} {lp : Addr} {vs : List Value} {n : Nat} {rest : Led} {tds : List Dat} {tod : Dat}
    (h1 : m (Str.ofString "mails") = some (.ref ml)) (h2 : m (Str.ofString "signs") = some (.str sg t)) (h3 : m (Str.ofString "shown") = some (.ref sh)) (h4 : m (Str.ofString "due") = some (.ref ld)) (h5 : m (Str.ofString "place") = some (.int pl tp)) (h6 : m (Str.ofString "line") = some (.int ln tn))
    (h7 : m (Str.ofString "rows") = some (.ref lr)) (h8 : m (Str.ofString "dotted") = some (.ref ld2)) (h9 : m (Str.ofString "end") = some (.int K te)) (h10 : m (Str.ofString "told") = some vt) (h11 : m (Str.ofString "part") = some (.ref lp))
    (hfr : ∀ q ∈ (lp, W.listOf vs.toArray n) :: rest, ∀ p ∈ nw, p.1 < q.1) (hDa : DatAll rest vs tds) (hFt : Flat vt tod) (hD : D i tds tod) : PartJ (partB ml sg t sh ld pl ln tp tn lr ld2 K) nw D i m ((lp, W.listOf vs.toArray n) :: (rest ++ nw)) := by
  refine ⟨m, lp, vs, n, rest, te, vt, tds, tod, kstB_self' ?_, rfl, hfr, hDa, hFt, hD⟩
  intro q hq
  simp only [List.mem_cons, List.not_mem_nil, or_false] at hq
  rcases hq with rfl | rfl | rfl | rfl | rfl | rfl | rfl | rfl | rfl | rfl | rfl
  all_goals assumption
theorem due_mk {ml : Addr} {sg : Str} {t : Tok} {sh : Addr} {osh : Obj} {news : Led} {D : Nat → Nat → Nat → List Dat → Prop} {i : Nat} {m : Str → Option Value} {ld : Addr} {vs : List Value} {n : Nat} {rest : Led} {pl ln : Nat} {tp tn : Tok} {ds : List Dat}
    (h1 : m (Str.ofString "mails") = some (.ref ml)) (h2 : m (Str.ofString "signs") = some (.str sg t)) (h3 : m (Str.ofString "shown") = some (.ref sh)) (h4 : m (Str.ofString "due") = some (.ref ld)) (h5 : m (Str.ofString "place") = some (.int (pl : Int) tp)) (h6 : m (Str.ofString "line") = some (.int (ln : Int) tn))
    (hDa : DatAll rest vs ds) (hD : D i pl ln ds) : DueJ ml sg t sh osh news D i m ((ld, W.listOf vs.toArray n) :: (rest ++ ((sh, osh) :: news))) := by
  refine ⟨m, ld, vs, n, rest, pl, ln, tp, tn, ds, kstB_self' ?_, rfl, hDa, hD⟩
  intro q hq
  simp only [List.mem_cons, List.not_mem_nil, or_false] at hq
  rcases hq with rfl | rfl | rfl | rfl | rfl | rfl
  all_goals assumption
theorem part_end {ml : Addr} {sg : Str} {t : Tok} {sh ld : Addr} {pl ln : Int} {tp tn : Tok} {lr ld2 : Addr} {K : Int} {nw : Led} {D : Nat → List Dat → Dat → Prop} {i : Nat} {m : Str → Option Value} {te : Tok} {vt : Value} {lp l1 l2 lA : Addr} {vs row : List Value} {n k1 k2 : Nat} {rest own G : Led} {tds dr' : List Dat} {dr tod : Dat} {g : Heap} {L : Addr} {hB : Heap} {s₁ : Shared} {tk : Nat}
    (hG : G = ((lp, W.listOf vs.toArray n) :: (rest ++ nw)) ++ own)
    (hfr : ∀ q ∈ (lp, W.listOf vs.toArray n) :: rest, ∀ p ∈ nw, p.1 < q.1) (hoff : OwnOff own (((lp, W.listOf vs.toArray n) :: (rest ++ nw)).map (·.1))) (hDa : DatAll rest vs tds)
    (hl1 : ∀ p ∈ G, p.1 < l1) (hlA : ∀ p ∈ (l2, W.listOf #[.ref l1] k2) :: (l1, W.listOf row.toArray k1) :: G, p.1 < lA)
    (F : Fr g L hB m) (N : News g L hB ((lA, W.listOf ([Value.ref l1] ++ vs).toArray 0) :: (l2, W.listOf #[.ref l1] k2) :: (l1, W.listOf row.toArray k1) :: G))
    (h1 : m (Str.ofString "mails") = some (.ref ml)) (h2 : m (Str.ofString "signs") = some (.str sg t)) (h3 : m (Str.ofString "shown") = some (.ref sh)) (h4 : m (Str.ofString "due") = some (.ref ld)) (h5 : m (Str.ofString "place") = some (.int pl tp)) (h6 : m (Str.ofString "line") = some (.int ln tn))
    (h7 : m (Str.ofString "rows") = some (.ref lr)) (h8 : m (Str.ofString "dotted") = some (.ref ld2)) (h9 : m (Str.ofString "end") = some (.int K te)) (h10 : m (Str.ofString "told") = some vt) (h11 : m (Str.ofString "part") = some (.ref lA))
    (hrow : DatAll [] row dr') (edr : dr = .list dr') (hFt : Flat vt tod) (hD : D (i + 1) (dr :: tds) tod) : InvEndG g L (PartJ (partB ml sg t sh ld pl ln tp tn lr ld2 K) nw D (i + 1)) own s₁ { s₁ with heap := hB, toks := tk } := by
  subst edr
  have hsub : ∀ p ∈ (rest ++ nw : Led), p ∈ G := fun p hp => by rw [hG]; exact List.mem_append_left _ (.tail _ hp)
  have hown : ∀ p ∈ own, p ∈ G := fun p hp => by rw [hG]; exact List.mem_append_right _ hp
  refine InvEndG.intro (nx := (lA, W.listOf ([Value.ref l1] ++ vs).toArray 0) :: (((l1, W.listOf row.toArray k1) :: rest) ++ nw)) F N (part_mk h1 h2 h3 h4 h5 h6 h7 h8 h9 h10 h11 ?_ ?_ hFt hD) ?_ ?_ ?_
  · intro q hq p hp
    have hpG := hsub p (List.mem_append_right _ hp)
    rcases List.mem_cons.mp hq with rfl | hq
    · exact hlA p (.tail _ (.tail _ hpG))
    · rcases List.mem_cons.mp hq with rfl | hq
      · exact hl1 p hpG
      · exact hfr q (.tail _ hq) p hp
  · exact .cons (.list (.head _) (DatAll.mono (fun _ h => absurd h List.not_mem_nil) hrow)) (DatAll.mono (fun _ h => .tail _ h) hDa)
  · intro p hp b hb
    obtain ⟨q, hq, rfl⟩ := List.mem_map.mp hb
    have hpG := hown p hp
    rcases List.mem_cons.mp hq with rfl | hq
    · exact Nat.ne_of_lt (hlA p (.tail _ (.tail _ hpG)))
    · rcases List.mem_cons.mp hq with rfl | hq
      · exact Nat.ne_of_lt (hl1 p hpG)
      · exact hoff p hp _ (List.mem_map.mpr ⟨q, .tail _ hq, rfl⟩)
  · intro q hq
    rcases List.mem_cons.mp hq with rfl | hq
    · exact .head _
    · rcases List.mem_cons.mp hq with rfl | hq
      · exact .tail _ (.tail _ (.head _))
      · exact .tail _ (.tail _ (.tail _ (hsub q hq)))
  · intro q hq
    exact .tail _ (.tail _ (.tail _ (hown q hq)))
theorem due_end {ml : Addr} {ws : List Value} {n0 : Nat} {sg : Str} {t : Tok} {sh : Addr} {osh : Obj} {news : Led} {D : Nat → Nat → Nat → List Dat → Prop} {i : Nat} {m : Str → Option Value} {lN : Addr} {vs' : List Value} {rest rest2 nw own led nx0 : Led} {pl ln : Nat} {tp tn : Tok} {ds : List Dat} {g : Heap} {L : Addr} {hB : Heap} {s₁ : Shared} {tk : Nat}
    (hml : (ml, W.listOf ws.toArray n0) ∈ news)
    (hfr : ∀ q ∈ rest2, ∀ p ∈ nw, p.1 < q.1) (hsub : ∀ q ∈ rest ++ ((sh, osh) :: news), q ∈ nw) (hown : ∀ q ∈ own, q ∈ nw) (hoff : OwnOff own (nx0.map (·.1))) (hn0 : ∀ q ∈ rest ++ ((sh, osh) :: news), q ∈ nx0)
    (hlN : ∀ p ∈ nw, p.1 < lN) (F : Fr g L hB m) (N : News g L hB led) (hled : ∀ q ∈ (lN, W.listOf vs'.toArray 0) :: (rest2 ++ nw), q ∈ led)
    (h1 : m (Str.ofString "mails") = some (.ref ml)) (h2 : m (Str.ofString "signs") = some (.str sg t)) (h3 : m (Str.ofString "shown") = some (.ref sh)) (h4 : m (Str.ofString "due") = some (.ref lN)) (h5 : m (Str.ofString "place") = some (.int (pl : Int) tp)) (h6 : m (Str.ofString "line") = some (.int (ln : Int) tn))
    (hDa : DatAll (rest2 ++ rest) vs' ds) (hD : D (i + 1) pl ln ds) :
    InvEndG g L (fun m' nx => (ml, W.listOf ws.toArray n0) ∈ nx ∧ DueJ ml sg t sh osh news D (i + 1) m' nx) own s₁ { s₁ with heap := hB, toks := tk } := by
  refine InvEndG.intro (nx := (lN, W.listOf vs'.toArray 0) :: ((rest2 ++ rest) ++ ((sh, osh) :: news))) F N ⟨.tail _ (List.mem_append_right _ (.tail _ hml)), due_mk h1 h2 h3 h4 h5 h6 hDa hD⟩ ?_ ?_ ?_
  · intro p hp b hb
    obtain ⟨q, hq, rfl⟩ := List.mem_map.mp hb
    have hpn := hown p hp
    rcases List.mem_cons.mp hq with rfl | hq
    · exact Nat.ne_of_lt (hlN p hpn)
    · rw [List.append_assoc] at hq
      rcases List.mem_append.mp hq with hq | hq
      · exact Nat.ne_of_lt (hfr q hq p hpn)
      · exact hoff p hp _ (List.mem_map.mpr ⟨q, hn0 q hq, rfl⟩)
  · intro q hq
    refine hled q ?_
    rcases List.mem_cons.mp hq with rfl | hq
    · exact .head _
    · rw [List.append_assoc] at hq
      rcases List.mem_append.mp hq with hq | hq
      · exact .tail _ (List.mem_append_left _ hq)
      · exact .tail _ (List.mem_append_right _ (hsub q hq))
  · intro q hq
    exact hled q (.tail _ (List.mem_append_right _ (hown q hq)))
abbrev rowsL (x : Str) : List (List Nat) := (rowsS x).map (·.cps.toList)
/-- what holds of _law_due's names between two mails -/
def DueD (sg : List Nat) (ms : List Str) (i pl ln : Nat) (ds : List Dat) : Prop :=
  ds ++ mailsD sg pl ln ((ms.drop i).map rowsL) = mailsD sg 0 1 (ms.map rowsL) ∧ ln ≤ 1 + 110 * i ∧ ds.length ≤ 110 * i
theorem due_step {sg : List Nat} {ms : List Str} {i pl ln K : Nat} {ds tds : List Dat} {ml1 : Str} {R : List Str} (hI : DueD sg ms i pl ln ds) (him : i < ms.length) (hml1 : ms.getD i Str.empty = ml1) (hR : rowsS ml1 = R)
    (hge : 2 ≤ (bodyL (R.map (·.cps.toList))).length) (hK : pl + (bodyL (R.map (·.cps.toList))).length - 2 = K) (htds : tds = rowsD sg K (ln + 0) (R.map (·.cps.toList))) (hrl : R.length ≤ 101) : DueD sg ms (i + 1) (K + 5) (ln + (R.length + 1)) (ds ++ tds ++ [.int (K : Int)]) := by
  obtain ⟨h1, h2, h3⟩ := hI
  have e1 : ms.drop i = ml1 :: ms.drop (i + 1) := by
    rw [List.drop_eq_getElem_cons him, ← hml1, List.getD_eq_getElem?_getD, List.getElem?_eq_getElem him]
    rfl
  have htl : tds.length = R.length := by rw [htds, rowsD_len, List.length_map]
  refine ⟨?_, by omega, by simp only [List.length_append, List.length_cons, List.length_nil]; omega⟩
  rw [← h1, e1, List.map_cons, mailsD]
  unfold rowsL
  rw [hR, hK, htds, List.length_map]
  have e2 : pl + (bodyL (R.map (·.cps.toList))).length + 3 = K + 5 := by omega
  rw [e2]
  simp [Nat.add_assoc]
theorem due_ret {h₀ h : Heap} {L lN : Addr} {vs : List Value} {v : Value} {a b c : Addr × Obj} {rest news : Led} (N : News h₀ L h ((lN, { cls := .type "list", data := .seq (vs ++ [v]).toArray }) :: a :: b :: (rest ++ (c :: news)))) :
    News h₀ L h (((lN, W.listOf (vs ++ [v]).toArray 0) :: rest) ++ news) := by
  refine cb_drop N ?_
  intro q hq
  rcases List.mem_cons.mp hq with rfl | hq
  · exact .head _
  · refine .tail _ (.tail _ (.tail _ ?_))
    rcases List.mem_append.mp hq with hq | hq
    · exact List.mem_append_left _ hq
    · exact List.mem_append_right _ (.tail _ hq)
theorem due_eof : Str.ofString "Expected '\\r\\n.\\r\\n' (at end of document)" = eofS := by decide +kernel
set_option maxHeartbeats 1000000 in
theorem due_does {w : World} (news : Led) (ml : Addr) (ws : List Value) (n0 : Nat) (ms : List Str) (hml : (ml, W.listOf ws.toArray n0) ∈ news) (hms : StrsAre ws ms) (hmL : ∀ x ∈ ms, x.length < 100) (hmN : ms.length ≤ 20) (sg : Str) (t : Tok) (hsg : ∀ c ∈ sg.cps.toList, c ∈ SIX) :
    Does 4 w 134 [.ref ml, .str sg t] [] news (fun v news' => ∃ l vs n add, v = .ref l ∧ news' = add ++ news ∧ (l, W.listOf vs.toArray n) ∈ add ∧ DatAll add vs (mailsD sg.cps.toList 0 1 (ms.map rowsL))) := by
  intro p loose mean mg mb dp un gd cn cs a ccd cl outer A₀ base h₀ L m s Q E B F X N T hk hdp hun hret
  refine wpAny_call ?_
  k_dflt cell_enter
  walk_at "to call"
  rename_i g1 L1 hp0 FG1 BB1 XX1 TT1 tkx hpA osh l1 lo hd0 hf0 ap hpB lD hpC l2 hpD hpE hpF FF NN
  have hsh := shown_mk hd0
  clear hf0 hd0
  k_dflt (refine' For_invVF FF ?k1 ?k2 ?_; (case k1 => exact rfl); (case k2 => exact rfl))
  walk_at "to call"
  rename Fr _ _ _ _ => FF
  rename News _ _ _ _ => NN
  refine kdl_iter (N := NN) (DueJ ml sg t hp0.objs.size osh news (DueD sg.cps.toList ms)) rfl (l := ml) (vs := ws) (nn := n0) (.tail _ (.tail _ hml)) FF ?_ ?_ ?_
  · refine due_mk (rest := []) (vs := []) (ds := []) (pl := 0) (ln := 1) rfl rfl rfl rfl rfl rfl .nil ⟨?_, by omega, by simp⟩
    rfl
  · intro i v m1 nx h tk own hv hoff hmn hJ F1 N1
    obtain ⟨u, ld, vs, n, rest, pl, ln, tp, tn, ds, rfl, rfl, hD, hI⟩ := hJ
    obtain ⟨tm, hvm⟩ := strsAre_at hms hv
    subst hvm
    have him : i < ms.length := by
      have h9 := (List.getElem?_eq_some_iff.mp hv).1
      have h10 := strsAre_len hms
      omega
    have hx1 := hmL _ (getD_mem him)
    generalize hml1 : ms.getD i Str.empty = ml1 at *
    clear FF NN
    generalize hp0.objs.size = sh at *
    walk_at "to call"
    refine rows_does _ _ _ (by omega) p loose mean mg mb _ _ _ _ _ _ _ _ _ _ _ _ _ _ _ _ _ (by k_asm) (by k_asm) (by k_asm) (by k_asm) (by k_asm) rfl (by ktr_room) (by ktr_units) ?_
    rintro v1 news1 h1 tk1 ⟨lr, wr, nr, rfl, rfl, hsr, hlr⟩ F2 N2
    clear F1 N1
    have hrl : (rowsS ml1).length ≤ 101 := by have := rows_len ml1; omega
    have hrr : ∀ r ∈ rowsS ml1, r.length ≤ 100 := fun r hr => by have := row_len hr; omega
    generalize hR : rowsS ml1 = R at *
    have hsrH := PySem.Flt.Hid.mk hsr
    have hwl := strsAre_len hsr
    walk_at "to call"
    k_dflt (refine LCg.Assign_ListComp_U (F₀ := by k_asm) (by rfl) (by with_unfolding_all rfl) (by with_unfolding_all rfl) (by decide) (by rfl) (by decide) (by rfl) (by rfl) (by rfl) ?_)
    walk_at "to call"
    refine LCg.CompSrc.ledger (ax := lr) (its := wr.toArray) (k := nr) rfl (by k_asm) (by k_asm) (.head _) (by rw [sizeLine_eq]; simp; omega) ?_
    intro gh
    refine comp_rest (fun i y => ∃ t, y = .str (dotS (R.getD i Str.empty)) t) ?_ ?_
    · intro j v I oI C oC D m₂ ys h tk E' hi hP hC hxx F1 N1 off ne
      obtain ⟨tv, hvv⟩ := strsAre_at hsr (by simpa using hP)
      subst hvv
      have hri := hrr _ (getD_mem (xs := R) (i := j) (by simp at hi; omega))
      generalize R.getD j Str.empty = ri at *
      k_steps
      · rename (_ == _) = true => hb
        rw [dotS_yes hb]
        exact comp_one (by assumption) (by assumption) (by assumption) (Or.inr ⟨_, .head _, rfl, _, rfl⟩) ⟨_, rfl⟩
      · rename (_ == _) = false => hb
        have hb' := dotS_no hb
        exact comp_one (by assumption) (by assumption) (by assumption) (Or.inr ⟨_, .head _, rfl, _, rfl⟩) ⟨_, congrArg (fun z => Value.str z _) hb'⟩
    · intro ys hyl hy
      rw [show wr.toArray.size = R.length by simp; exact hwl] at hyl
      have hsa := strsAre_of (g := fun i => dotS (R.getD i Str.empty)) hyl hy
      rw [range_getD dotS R] at hsa
      have hsaH := PySem.Flt.Hid.mk hsa
      have hyd : ys.length = R.length := hyl
      clear hy hyl
      intro ld2 h2 tk2 F3 N3 off3
      (try clear F2)
      (try clear N2)
      (try clear F1)
      (try clear N1)
      walk_at "to call"
      have eys : ys.toArray.size = R.length := by simp; exact hyd
      refine PyProof.Rows.len_list (News.isList N3 (.head _)) (by rw [eys]; omega) ?_
      rw [eys]
      walk_at "to call"
      k_dflt (refine LCg.ListComp_U (F₀ := by k_asm) (by with_unfolding_all rfl) (by decide) (by rfl) (by decide) (by rfl) ?_)
      walk_at "to call"
      refine LCg.CompSrc.ledger (ax := ld2) (its := ys.toArray) (k := ys.length) rfl (by k_asm) (by k_asm) (.head _) (by rw [sizeLine_eq]; simp; omega) ?_
      intro gh2
      refine comp_rest (fun i y => ∃ t, y = .int ((dotS (R.getD i Str.empty)).length : Nat) t) ?_ ?_
      · intro j v I oI C oC D m₂ ys2 h tk E' hi hP hC hxx F1 N1 off ne
        obtain ⟨tv, hvv⟩ := strsAre_at hsa (by simpa using hP)
        have hj : j < R.length := by simp at hi; omega
        have ej : (R.map dotS).getD j Str.empty = dotS (R.getD j Str.empty) := by simp [List.getD_eq_getElem?_getD, hj]
        rw [ej] at hvv
        subst hvv
        have hri := hrr _ (getD_mem (xs := R) (i := j) hj)
        have hri2 := dotS_len (R.getD j Str.empty)
        generalize dotS (R.getD j Str.empty) = ri at *
        k_steps
        exact comp_one (by assumption) (by assumption) (by assumption) (Or.inr ⟨_, .head _, rfl, _, rfl⟩) ⟨_, rfl⟩
      · intro ys2 hyl2 hy2
        rw [show ys.toArray.size = R.length by simp; exact hyd] at hyl2
        have hia := intsAre_of (g := fun i => ((dotS (R.getD i Str.empty)).length : Nat)) hyl2 hy2
        rw [range_getD (fun r => (((dotS r).length : Nat) : Int)) R] at hia
        clear hy2 hyl2
        intro ls h3 tk3 F4 N4 off4
        (try clear F3)
        (try clear N3)
        walk_at "to call"
        refine sumK rfl F4 N4 (News.isList N4 (.head _)) hia ?_
        intro h4 tk4 ts F5 N5
        clear F4 N4
        rw [sum_int (fun r => (dotS r).length) R]
        walk_at "to call"
        rename_i lp0 hq1 lq1 hq2 FQ NQ
        have hRne : (R.map (·.cps.toList)) ≠ [] := by rw [← hR, rowsS_list]; exact rowsB_ne _
        have hbge := body_ge hRne
        have eE : (pl : Int) + (R.length : Int) * 2 - 2 + (((R.map fun r => (dotS r).length).sum : Nat) : Int) = ((pl + (bodyL (R.map (·.cps.toList))).length - 2 : Nat) : Int) := by
          have e1 := body_len (R.map (·.cps.toList))
          rw [List.length_map, List.map_map] at e1
          have e2 : R.map ((fun r => (dotL r).length) ∘ fun x : Str => x.cps.toList) = R.map fun r => (dotS r).length := rfl
          rw [e2] at e1
          omega
        rw [eE] at FQ
        generalize hK : pl + (bodyL (R.map (·.cps.toList))).length - 2 = K at *
        k_dflt (refine' For_invVF FQ ?k1 ?k2 ?_; (case k1 => exact rfl); (case k2 => exact rfl))
        walk_at "to call"
        rename_i hr1 tkr t1r t2r t3r IR FR NR keepR
        clear keepR
        refine range_down (n := R.length) (N := NR) (PartJ (partB ml sg t sh ld (pl : Int) (ln : Int) tp tn lr ld2 (K : Int)) ((ls, LCg.lst ys2) :: (ld2, { cls := .type "list", data := .seq ys.toArray ys.length }) :: (lr, { cls := .type "list", data := .seq wr.toArray nr }) :: ((ld, W.listOf vs.toArray n) :: (rest ++ (sh, osh) :: news) ++ own)) (fun i tds tod => ∃ j, j + i = R.length ∧ tds = rowsD sg.cps.toList K (ln + j) ((R.map (·.cps.toList)).drop j) ∧ tod = toldD sg.cps.toList K (ln + j) ((R.map (·.cps.toList)).drop j))) rfl IR (small_down (by omega) (by omega) (by omega) (by omega)) (by rw [rangeSize_downNat]; omega) FR ?_ ?_ ?_
        · refine part_mk (vs := []) (rest := []) (tds := []) (tod := .int (K : Int)) rfl rfl rfl rfl rfl rfl rfl rfl rfl rfl rfl ?_ .nil (.int _ _) ⟨R.length, rfl, ?_, ?_⟩
          · intro q hq p hp
            rw [List.mem_singleton.mp hq]
            rcases List.mem_cons.mp hp with rfl | hp
            · exact lq1.1
            · rcases List.mem_cons.mp hp with rfl | hp
              · exact lq1.2.1
              · rcases List.mem_cons.mp hp with rfl | hp
                · exact lq1.2.2.1
                · exact allLt_mem lq1.2.2.2 p hp
          · rw [List.drop_of_length_le (by simp)]
            rfl
          · rw [List.drop_of_length_le (by simp)]
            rfl
        · intro i2 tk2 m2 nx2 h2 tkq own2 hi2 hoff2 hJ2 F6 N6
          obtain ⟨u2, lp, vs2, n2, rest2, te, vt, tds, tod, rfl, rfl, hfr, hDa, hFt, j1, hj1, htds, htod⟩ := hJ2
          clear FR NR IR
          obtain ⟨j, rfl⟩ : ∃ j, j1 = j + 1 := ⟨j1 - 1, by omega⟩
          have ek : (R.length : Int) - 1 - (i2 : Int) = (j : Int) := by omega
          rw [ek] at F6
          have hjR : j < R.length := by omega
          have hGE : ∃ G, G = ((lp, W.listOf vs2.toArray n2) :: (rest2 ++ ((ls, LCg.lst ys2) :: (ld2, { cls := .type "list", data := .seq ys.toArray ys.length }) :: (lr, { cls := .type "list", data := .seq wr.toArray nr }) :: ((ld, W.listOf vs.toArray n) :: (rest ++ (sh, osh) :: news) ++ own)))) ++ own2 := ⟨_, rfl⟩
          obtain ⟨G, hG⟩ := hGE
          rw [← hG] at N6
          have mlp : (lp, W.listOf vs2.toArray n2) ∈ G := by rw [hG]; exact .head _
          have mld2 : (ld2, W.listOf ys.toArray ys.length) ∈ G := by rw [hG]; simp
          have mlr : (lr, W.listOf wr.toArray nr) ∈ G := by rw [hG]; simp
          have msh : (sh, osh) ∈ G := by rw [hG]; simp
          obtain ⟨tdj, hdj⟩ := strsAre_get hsaH.out j (by simpa using hjR)
          obtain ⟨trj, hrj⟩ := strsAre_get hsrH.out j hjR
          rw [List.getElem_map] at hdj
          have hvs2 : vs2.length ≤ 101 := by
            rw [hDa.length, htds, rowsD_len, List.length_drop, List.length_map]
            omega
          have hrjl := hrr _ (List.getElem_mem hjR)
          have hdjl := dotS_len R[j]
          have hstep : (R.map (·.cps.toList)).drop j = R[j].cps.toList :: (R.map (·.cps.toList)).drop (j + 1) := by
            rw [List.drop_eq_getElem_cons (by simpa using hjR)]
            simp
          generalize hrj0 : R[j] = rj at *
          have e0 : ((j : Int)).toNat = j := rfl
          walk_at "to call"
          refine kim_list N6 mld2 rfl rfl (by omega) (by omega) (by rw [e0]; exact hdj) ?_
          walk_at "to call"
          refine first_does _ _ _ _ _ (by omega) p loose mean mg mb _ _ _ _ _ _ _ _ _ _ _ _ _ _ _ _ _ (by k_asm) (by k_asm) (by k_asm) (by k_asm) (by k_asm) rfl (by ktr_room) (by ktr_units) ?_
          rintro v7 news7 h7 tk7 ⟨t7, rfl, rfl⟩ F7 N7
          clear F6 N6
          have hfi : firstI (dotS rj).cps.toList sg.cps.toList = match (dotL rj.cps.toList).findIdx? (fun c => sg.cps.toList.contains c) with | some i => (i : Int) | none => -1 := rfl
          cases hff : (dotL rj.cps.toList).findIdx? (fun c => sg.cps.toList.contains c) with
          | none =>
            rw [hff] at hfi
            dsimp only at hfi
            rw [hfi]
            walk_at "to call"
            refine kim_list (by k_asm) mlr rfl rfl (by omega) (by omega) (by rw [e0]; exact hrj) ?_
            walk_at "to call"
            refine kim_list (by k_asm) mld2 rfl rfl (by omega) (by omega) (by rw [e0]; exact hdj) ?_
            walk_at "to call"
            rename_i la hxa lxa lb hxb FA NA lxb
            have hlA := news_lt NA
            refine add_lists FA NA (vs := [Value.ref la]) (ws := vs2) (led_list' NA (.head _)) (led_list' NA (.tail _ (.tail _ mlp))) (fun h9 F9 N9 => ?_) (by rw [sizeLine_eq]; simp; omega)
            clear FA NA
            walk_at "to call"
            rename_i hz FZ NZ
            refine part_end hG hfr hoff2 hDa lxa hlA FZ NZ rfl rfl rfl rfl rfl rfl rfl rfl rfl rfl rfl (.cons (.int _ _) (.cons (.str _ _) (.cons (hFt.datIn _) .nil))) rfl hFt ⟨j, by omega, ?_, ?_⟩
            · rw [hstep]
              exact part_rows htds (by rw [told_none hff]; exact htod)
            · rw [hstep, told_none hff]
              exact htod
          | some c =>
            rw [hff] at hfi
            dsimp only at hfi
            rw [hfi]
            have hc0 : (0 : Int) ≤ (c : Int) := Int.natCast_nonneg c
            obtain ⟨ch, hch1, hch2, hclt, hch3⟩ := first_some hff
            have hcl : c < (dotS rj).length := hclt
            have hc6 := hsg _ hch2
            have hc8 := six_repr hc6
            obtain ⟨ch', hch4, hitem⟩ := item_eq (x := dotS rj) (k := (c : Int)) rfl hcl
            have ech : ch' = ch := by
              have := hch4.symm.trans hch1
              exact Option.some.inj this
            subst ech
            have hln : ln ≤ 5000 := by have := hI.2.1; omega
            walk_at "to call"
            refine P.str_of_int (shown (N := 2 ^ 1920) (by omega) (by omega) (Int.le_refl _)) ?_
            have hl1 := len_str_of_int ((ln : Int) + (j : Int))
            walk_at "to call"
            refine P.str_of_int (shown (N := 2 ^ 1920) (by omega) (by omega) (Int.le_refl _)) ?_
            have hl2 := len_str_of_int ((c : Int) + 1)
            walk_at "to call"
            refine kim_list (by k_asm) mld2 rfl rfl (by omega) (by omega) (by rw [e0]; exact hdj) ?_
            walk_at "to call"
            (iterate 2 walk1)
            rw [hitem]
            obtain ⟨kvs, hkv1, hkv2⟩ := hsh
            obtain ⟨tsh, hkv3⟩ := hkv2 _ hc6
            walk_at "to call"
            refine kdt_tail (knd := PySem.strKind _ _) (by k_asm) msh hkv1 ?_
            refine kdt_getItem (knd := PySem.strKind _ _) (by k_asm) msh hkv1 (strKind_is _ _ _ _) hkv3 ?_
            walk_at "to call"
            refine kim_list (by k_asm) mlr rfl rfl (by omega) (by omega) (by rw [e0]; exact hrj) ?_
            walk_at "to call"
            refine kim_list (by k_asm) mld2 rfl rfl (by omega) (by omega) (by rw [e0]; exact hdj) ?_
            walk_at "to call"
            rename_i la hxa lxa lb hxb FA NA lxb
            have hlA := news_lt NA
            refine add_lists FA NA (vs := [Value.ref la]) (ws := vs2) (led_list' NA (.head _)) (led_list' NA (.tail _ (.tail _ mlp))) (fun h9 F9 N9 => ?_) (by rw [sizeLine_eq]; simp; omega)
            clear FA NA
            walk_at "to call"
            rename_i hz FZ NZ
            have htx := told_text ch' (ln + j) (c + 1)
            rw [show ((ln + j : Nat) : Int) = (ln : Int) + (j : Int) by omega, show ((c + 1 : Nat) : Int) = (c : Int) + 1 by omega] at htx
            have htd : Dat.str (msgD ch' (ln + j) (c + 1)) = toldD sg.cps.toList K (ln + j) (rj.cps.toList :: (R.map (·.cps.toList)).drop (j + 1)) := by rw [told_some hff, hch3]
            rw [← htx] at htd
            refine part_end hG hfr hoff2 hDa lxa hlA FZ NZ rfl rfl rfl rfl rfl rfl rfl rfl rfl rfl rfl (.cons (.int _ _) (.cons (.str _ _) (.cons (.str _ _) .nil))) rfl (.str _ _) ⟨j, by omega, ?_, ?_⟩
            · rw [hstep]
              exact part_rows htds htd
            · rw [hstep]
              exact htd
        · intro m3 nx3 h3z tk3z hJ3 F3z N3z
          obtain ⟨u3, lp, vs2, n2, rest2, te, vt, tds, tod, rfl, rfl, hfr, hDa, hFt, j0, hj0, htds, htod⟩ := hJ3
          have ej0 : j0 = 0 := by omega
          subst ej0
          rw [List.drop_zero] at htds
          have htl : tds.length = R.length := by rw [htds, rowsD_len, List.length_map]
          have hv1 := hD.length
          have hv2 := hDa.length
          have hds := hI.2.2
          have hGE : ∃ G, G = ((lp, W.listOf vs2.toArray n2) :: (rest2 ++ ((ls, LCg.lst ys2) :: (ld2, { cls := .type "list", data := .seq ys.toArray ys.length }) :: (lr, { cls := .type "list", data := .seq wr.toArray nr }) :: ((ld, W.listOf vs.toArray n) :: (rest ++ (sh, osh) :: news) ++ own)))) := ⟨_, rfl⟩
          obtain ⟨G, hG⟩ := hGE
          rw [← hG] at N3z
          have mlp : (lp, W.listOf vs2.toArray n2) ∈ G := by rw [hG]; exact .head _
          have mlr : (lr, W.listOf wr.toArray nr) ∈ G := by rw [hG]; simp
          have mld : (ld, W.listOf vs.toArray n) ∈ G := by rw [hG]; simp
          dsimp only
          (try clear FR)
          (try clear NR)
          walk_at "to call"
          refine add_lists (by k_asm) (by k_asm) (vs := vs) (ws := vs2) (led_list' (by k_asm) mld) (led_list' (by k_asm) mlp) (fun h9 F9 N9 => ?_) (by rw [sizeLine_eq]; omega)
          walk_at "to call"
          rename_i le hxe FE NE lxe
          have hlN := news_lt NE
          refine add_lists FE NE (vs := vs ++ vs2) (ws := [Value.int (K : Int) te]) (led_list' NE (.tail _ (.head _))) (led_list' NE (.head _)) (fun h10 F10 N10 => ?_) (by rw [sizeLine_eq, List.length_append]; simp; omega)
          clear FE NE
          walk_at "to call"
          refine PyProof.Rows.len_list (News.isList (by k_asm) (.tail _ (.tail _ (.tail _ mlr)))) (by simp; omega) ?_
          rw [show wr.toArray.size = R.length by simp; exact hwl]
          walk_at "to call"
          rename_i hz FZ NZ
          refine due_end (rest := rest) (rest2 := rest2) (vs' := vs ++ vs2 ++ [Value.int (K : Int) te]) (nw := (ls, LCg.lst ys2) :: (ld2, { cls := .type "list", data := .seq ys.toArray ys.length }) :: (lr, { cls := .type "list", data := .seq wr.toArray nr }) :: ((ld, W.listOf vs.toArray n) :: (rest ++ (sh, osh) :: news) ++ own)) (pl := K + 5) (ln := ln + (R.length + 1)) hml (fun q hq => hfr q (.tail _ hq)) ?_ ?_ hoff (fun q hq => .tail _ hq) ?_ FZ NZ ?_ rfl rfl rfl rfl rfl rfl ?_ (due_step hI him hml1 hR hbge hK htds hrl)
          · intro q hq
            exact .tail _ (.tail _ (.tail _ (List.mem_append_left _ (.tail _ hq))))
          · intro q hq
            exact .tail _ (.tail _ (.tail _ (List.mem_append_right _ hq)))
          · intro q hq
            refine hlN q (.tail _ (.tail _ ?_))
            rw [hG]
            exact .tail _ (List.mem_append_right _ hq)
          · intro q hq
            rcases List.mem_cons.mp hq with rfl | hq
            · exact .head _
            · refine .tail _ (.tail _ (.tail _ ?_))
              rw [hG]
              exact .tail _ hq
          · exact DatAll.append (DatAll.append (DatAll.mono (fun q hq => List.mem_append_right _ hq) hD) (DatAll.mono (fun q hq => List.mem_append_left _ hq) hDa)) (DatAll.one (.int _ _))
  · intro m4 nx4 h4z tk4z hJ4 F4z N4z
    obtain ⟨u, ld, vs, n, rest, pl, ln, tp, tn, ds, rfl, rfl, hD, hI⟩ := hJ4
    have hwm := strsAre_len hms
    rw [hwm] at hI
    obtain ⟨hI1, -, hI3⟩ := hI
    rw [List.drop_of_length_le (Nat.le_refl _)] at hI1
    have hv1 := hD.length
    (try clear FF)
    (try clear NN)
    dsimp only
    walk_at "to call"
    rename_i le hxe FE NE lxe
    refine add_lists FE NE (vs := vs) (ws := [_]) (led_list' NE (.tail _ (.head _))) (led_list' NE (.head _)) (fun h10 F10 N10 => ?_) (by rw [sizeLine_eq]; simp; omega)
    clear FE NE
    k_steps
    rename News h₀ L _ _ => kN
    rename Fr h₀ L _ _ => kF
    have kN2 := due_ret kN
    refine hret _ _ _ _ ?_ kF kN2
    refine ⟨_, _, _, _, rfl, rfl, .head _, ?_⟩
    rw [← hI1]
    exact DatAll.append (DatAll.mono (fun q hq => .tail _ hq) hD) (DatAll.one (by rw [due_eof]; exact .str _ _))
end Mine
end
section
open PySem PySem.W PyProof.Rows PySem.Calls PySem.Builtin PySem.Builtin.Str
namespace Mine
set_option maxRecDepth 100000
def oddC (t : Int) : Int := if 55296 ≤ (t + 39).fmod 1112064 then (t + 39).fmod 1112064 + 2048 else (t + 39).fmod 1112064
theorem oddC_lo (t : Int) : 0 ≤ oddC t := by
  have h0 := fmod_lo (t + 39) (n := 1112064) (by decide)
  unfold oddC
  split <;> omega
theorem oddC_hi (t : Int) : oddC t < 1114112 := by
  have h1 := fmod_hi (t + 39) (n := 1112064) (by decide)
  unfold oddC
  split <;> omega
def oddS (t : Int) : Str := ⟨#[(oddC t).toNat]⟩
set_option maxHeartbeats 1000000 in
theorem odd_does {w : World} (news : Led) (x : Int) (t : Tok) :
    Does 2 w 89 [.int x t] [] news (fun v news' => ∃ t, v = .str (oddS x) t ∧ news' = news) := by
  intro p loose mean mg mb dp un gd cn cs a ccd cl outer A₀ base h₀ L m s Q E B F X N T hk hdp hun hret
  refine wpAny_call ?_
  k_dflt cell_enter
  have h0 := fmod_lo (x + 39) (n := 1112064) (by decide)
  have h1 := fmod_hi (x + 39) (n := 1112064) (by decide)
  k_steps
  · rename News h₀ L _ _ => kN
    rename Fr h₀ L _ _ => kF
    rename 55296 ≤ _ => hb
    exact hret _ _ _ _ ⟨_, by unfold oddS oddC; rw [if_pos hb], rfl⟩ kF kN
  · rename News h₀ L _ _ => kN
    rename Fr h₀ L _ _ => kF
    rename ¬ 55296 ≤ _ => hb
    exact hret _ _ _ _ ⟨_, by unfold oddS oddC; rw [if_neg hb], rfl⟩ kF kN
end Mine
end
section
open PySem PySem.W PyProof.Rows PySem.Builtin PySem.Builtin.Str PySem.StrLaws
namespace Mine
theorem inter_nil : ∀ ps : List (List Nat), inter [] ps = ps.flatten
  | [] => rfl
  | [p] => by simp [inter]
  | p :: q :: r => by
    show p ++ [] ++ inter [] (q :: r) = _
    rw [inter_nil (q :: r), List.append_nil]
    rfl
theorem join_nil (l : List Str) : (Txt.join (Str.ofString "") l).cps.toList = (l.map (·.cps.toList)).flatten := by
  unfold Txt.join
  rw [glued_eq_join, join_listL]
  have e : (Str.ofString "").cps.toList = [] := by decide +kernel
  rw [e, inter_nil]
theorem flat_len {B : Nat} : ∀ l : List (List Nat), (∀ x ∈ l, x.length ≤ B) → l.flatten.length ≤ B * l.length
  | [], _ => Nat.zero_le _
  | x :: l, h => by
    have h1 := h x (.head _)
    have h2 := flat_len l (fun y hy => h y (.tail _ hy))
    rw [List.flatten_cons, List.length_append, List.length_cons, Nat.mul_add]
    omega
theorem mail_len (x : Int) {o : Str} (ho : o.length ≤ 2) : (mailS x o).length ≤ 12 := by
  show (mailS x o).cps.toList.length ≤ 12
  unfold mailS
  rw [join_nil]
  have h1 : (x.fmod 20901888).fmod 7 < 7 := fmod_hi _ (by decide)
  have h2 := flat_len (B := 2) (((List.range ((x.fmod 20901888).fmod 7).toNat).map (strandAt (x.fmod 20901888) o)).map (·.cps.toList)) (by
    intro y hy
    obtain ⟨z, hz, rfl⟩ := List.mem_map.mp hy
    obtain ⟨k, hk, rfl⟩ := List.mem_map.mp hz
    exact strand_len ho _ k)
  simp only [List.length_map, List.length_range] at h2
  omega
theorem strand_ok {o : Str} (ho : ∀ c ∈ o.cps.toList, c < 1114112) (v : Int) (k : Nat) : ∀ c ∈ (strandAt v o k).cps.toList, c < 1114112 := by
  unfold strandAt
  have h : ∀ y ∈ strandsS o, ∀ c ∈ y.cps.toList, c < 1114112 := by
    intro y hy
    simp only [strandsS, List.mem_cons, List.not_mem_nil, or_false] at hy
    rcases hy with rfl | rfl | rfl | rfl | rfl | rfl | rfl | rfl | rfl | rfl | rfl | rfl
    all_goals first | exact ho | decide +kernel
  rw [List.getD_eq_getElem?_getD]
  cases e : (strandsS o)[((v.fdiv (7 * 12 ^ k)).fmod 12).toNat]? with
  | none => intro c hc; exact absurd hc (by simp [Str.empty])
  | some y => exact h y (List.mem_of_getElem? e)
theorem mail_ok (x : Int) {o : Str} (ho : ∀ c ∈ o.cps.toList, c < 1114112) : ∀ c ∈ (mailS x o).cps.toList, c < 1114112 := by
  unfold mailS
  rw [join_nil]
  intro c hc
  obtain ⟨l, hl, hc⟩ := List.mem_flatten.mp hc
  obtain ⟨z, hz, rfl⟩ := List.mem_map.mp hl
  obtain ⟨k, hk, rfl⟩ := List.mem_map.mp hz
  exact strand_ok ho _ k c hc
/-- the stream, row by row -/
theorem stream_list : ∀ ms : List Str, (Txt.join (Str.ofString "") (ms.map sentS)).cps.toList = streamL (ms.map rowsL) := by
  intro ms
  rw [join_nil]
  induction ms with
  | nil => rfl
  | cons x ms ih =>
    rw [List.map_cons, List.map_cons, List.flatten_cons, ih, sent_list, List.map_cons, streamL]
    unfold rowsL
    rw [rowsS_list]
    simp
theorem sent_len (x : Str) (hx : x.length ≤ 12) : (sentS x).length ≤ 53 := by
  have h1 := len_sub2' x
  have h2 := len_sub1' (sub2S x)
  have e1 : (Str.ofString "\r\n").length = 2 := by decide +kernel
  have e2 : (Str.ofString ".\r\n").length = 3 := by decide +kernel
  have ha : ∀ a b : Str, (a ++ b).length = a.length + b.length := fun a b => by
    show (a ++ b).cps.toList.length = a.cps.toList.length + b.cps.toList.length
    simp [Str.cps_append]
  have hq : (quoteS x).length ≤ 48 := by unfold quoteS; omega
  unfold sentS
  rw [ha, e2]
  split
  · rw [ha, e1]; omega
  · omega
theorem stream_len (ms : List Str) (h : ∀ x ∈ ms, x.length ≤ 12) (hn : ms.length ≤ 9) : (Txt.join (Str.ofString "") (ms.map sentS)).length ≤ 10000 := by
  show (Txt.join (Str.ofString "") (ms.map sentS)).cps.toList.length ≤ 10000
  rw [join_nil]
  have h2 := flat_len (B := 53) ((ms.map sentS).map (·.cps.toList)) (by
    intro y hy
    obtain ⟨z, hz, rfl⟩ := List.mem_map.mp hy
    obtain ⟨k, hk, rfl⟩ := List.mem_map.mp hz
    exact sent_len k (h k hk))
  simp only [List.length_map] at h2
  omega
theorem sent_sum (ms : List Str) (h : ∀ x ∈ ms, x.length ≤ 12) (hn : ms.length ≤ 9) : ((ms.map sentS).map (·.length)).sum + (ms.map sentS).length * (Str.ofString "").length ≤ 16777216 := by
  have e0 : (Str.ofString "").length = 0 := by decide +kernel
  have h2 := StrLaws.sumLen_le (B := 53) (ms.map sentS) (by
    intro y hy
    obtain ⟨k, hk, rfl⟩ := List.mem_map.mp hy
    exact sent_len k (h k hk))
  simp only [List.length_map] at h2 ⊢
  rw [e0]
  omega
theorem mailsD_len (sg : List Nat) {B : Nat} : ∀ (ms : List (List (List Nat))) (pl ln : Nat), (∀ r ∈ ms, r.length ≤ B) → (mailsD sg pl ln ms).length ≤ (B + 1) * ms.length + 1
  | [], _, _, _ => Nat.le_refl _
  | rows :: ms, pl, ln, h => by
    have ih := mailsD_len sg ms (pl + (bodyL rows).length + 3) (ln + rows.length + 1) (fun r hr => h r (.tail _ hr))
    have h0 := h rows (.head _)
    rw [mailsD, List.length_append, List.length_cons, rowsD_len, List.length_cons, Nat.mul_add]
    omega
theorem ofString_ok (s : String) : ∀ c ∈ (Str.ofString s).cps.toList, c < 1114112 := by
  intro c hc
  rw [Str.ofString_eq_toList] at hc
  simp only [List.mem_map] at hc
  obtain ⟨d, _, rfl⟩ := hc
  have := d.valid
  rcases this with h | ⟨_, h⟩
  · exact Nat.lt_trans h (by decide)
  · exact h
theorem strOk_of {x : Str} (h : ∀ c ∈ x.cps.toList, c < 1114112) : PyData.strOk x = true := by
  unfold PyData.strOk
  rw [Array.all_eq_true']
  intro c hc
  have := h c (by simpa using hc)
  simpa using this
theorem app_ok {x y : Str} (hx : ∀ c ∈ x.cps.toList, c < 1114112) (hy : ∀ c ∈ y.cps.toList, c < 1114112) : ∀ c ∈ (x ++ y).cps.toList, c < 1114112 := by
  intro c hc
  rw [Str.cps_append, Array.toList_append] at hc
  rcases List.mem_append.mp hc with hc | hc
  · exact hx c hc
  · exact hy c hc
theorem nil_ok : ∀ c ∈ Str.empty.cps.toList, c < 1114112 := by
  intro c hc
  exact absurd hc (by simp [Str.empty])
theorem six_ok {c : Nat} (h : c ∈ SIX) : ∀ d ∈ (reprText ⟨#[c]⟩).cps.toList, d < 1114112 := by
  simp only [SIX, List.mem_cons, List.not_mem_nil, or_false] at h
  rcases h with rfl | rfl | rfl | rfl | rfl | rfl
  all_goals decide +kernel
theorem msg_ok {ch line col : Nat} (h : ch ∈ SIX) : ∀ c ∈ (msgD ch line col).cps.toList, c < 1114112 := by
  unfold msgD errS
  refine app_ok (app_ok (app_ok (app_ok nil_ok (app_ok (app_ok nil_ok (ofString_ok _)) (six_ok h))) (ofString_ok _)) (app_ok (app_ok (app_ok (app_ok nil_ok (ofString_ok _)) (ofString_ok _)) (ofString_ok _)) (ofString_ok _))) (ofString_ok _)
theorem eof_ok : ∀ c ∈ eofS.cps.toList, c < 1114112 := by
  unfold eofS errS
  exact app_ok (app_ok (app_ok (app_ok nil_ok (app_ok (app_ok nil_ok (ofString_ok _)) (ofString_ok _))) (ofString_ok _)) (ofString_ok _)) (ofString_ok _)
theorem told_ok {sg : List Nat} (hsg : ∀ c ∈ sg, c ∈ SIX) (k n : Nat) : ∀ (rs : List (List Nat)) (line : Nat), kqdOk n (toldD sg k line rs) = true
  | [], line => by cases n <;> rfl
  | r :: rs, line => by
    cases hf : (dotL r).findIdx? (fun c => sg.contains c) with
    | none => rw [told_none hf]; exact told_ok hsg k n rs (line + 1)
    | some c =>
      obtain ⟨ch, _, h2, _, h3⟩ := first_some hf
      rw [told_some hf, h3]
      have := strOk_of (msg_ok (line := line) (col := c + 1) (hsg ch h2))
      cases n <;> exact this
theorem rowsD_ok {sg : List Nat} (hsg : ∀ c ∈ sg, c ∈ SIX) (k : Nat) : ∀ (rs : List (List Nat)) (line : Nat), (∀ r ∈ rs, ∀ c ∈ r, c < 1114112) → ∀ d ∈ rowsD sg k line rs, kqdOk 8 d = true
  | [], _, _, d, hd => absurd hd List.not_mem_nil
  | r :: rs, line, h, d, hd => by
    rw [rowsD] at hd
    rcases List.mem_cons.mp hd with rfl | hd
    · have h1 : PyData.strOk ⟨((dotL r).drop (dotsAt (dotL r))).toArray⟩ = true := by
        refine strOk_of ?_
        intro c hc
        have hc2 : c ∈ dotL r := List.mem_of_mem_drop hc
        unfold dotL at hc2
        split at hc2
        · rcases List.mem_cons.mp hc2 with rfl | hc2
          · decide
          · exact h r (.head _) c hc2
        · exact h r (.head _) c hc2
      have h2 := told_ok hsg k 7 (r :: rs) line
      simp only [kqdOk, List.all_cons, List.all_nil, Bool.and_true, Bool.true_and, h2, h1]
    · exact rowsD_ok hsg k rs (line + 1) (fun r' hr => h r' (.tail _ hr)) d hd
theorem mailsD_ok {sg : List Nat} (hsg : ∀ c ∈ sg, c ∈ SIX) : ∀ (ms : List (List (List Nat))) (pl ln : Nat), (∀ rows ∈ ms, ∀ r ∈ rows, ∀ c ∈ r, c < 1114112) → ∀ d ∈ mailsD sg pl ln ms, kqdOk 8 d = true
  | [], _, _, _, d, hd => by
    rw [mailsD] at hd
    rw [List.mem_singleton.mp hd]
    exact strOk_of eof_ok
  | rows :: ms, pl, ln, h, d, hd => by
    rw [mailsD] at hd
    rcases List.mem_append.mp hd with hd | hd
    · exact rowsD_ok hsg _ rows ln (h rows (.head _)) d hd
    · rcases List.mem_cons.mp hd with rfl | hd
      · rfl
      · exact mailsD_ok hsg ms _ _ (fun r hr => h r (.tail _ hr)) d hd
theorem brk_mem : ∀ (m : Nat) (l : List Nat), l.length ≤ m → ∀ r ∈ brk l, ∀ c ∈ r, c ∈ l := by
  intro m
  induction m with
  | zero =>
    intro l h r hr c hc
    have : l = [] := List.length_eq_zero_iff.mp (by omega)
    subst this
    simp [brk] at hr
    subst hr
    exact hc
  | succ m ih =>
    intro l h r hr x hx
    match l, h with
    | [], _ => simp [brk] at hr; subst hr; exact hx
    | [c], _ =>
      unfold brk at hr
      split at hr
      · simp at hr; subst hr; exact absurd hx List.not_mem_nil
      · simp at hr; subst hr; exact hx
    | c :: d :: l, h =>
      unfold brk at hr
      split at hr
      · rcases List.mem_cons.mp hr with rfl | hr
        · exact absurd hx List.not_mem_nil
        · exact .tail _ (.tail _ (ih l (by simp at h; omega) r hr x hx))
      · split at hr
        · rcases List.mem_cons.mp hr with rfl | hr
          · exact absurd hx List.not_mem_nil
          · exact .tail _ (ih (d :: l) (by simpa using h) r hr x hx)
        · have key : ∀ ps : List (List Nat), (∀ q ∈ ps, ∀ x ∈ q, x ∈ d :: l) → ∀ q ∈ pushH c ps, ∀ x ∈ q, x ∈ c :: d :: l := by
            intro ps hps q hq x hx
            cases ps with
            | nil =>
              simp [pushH] at hq
              subst hq
              rw [List.mem_singleton.mp hx]
              exact .head _
            | cons a ps =>
              simp only [pushH] at hq
              rcases List.mem_cons.mp hq with rfl | hq
              · rcases List.mem_cons.mp hx with rfl | hx
                · exact .head _
                · exact .tail _ (hps a (.head _) x hx)
              · exact .tail _ (hps q (.tail _ hq) x hx)
          exact key _ (ih (d :: l) (by simpa using h)) r hr x hx
theorem rowsL_ok {x : Str} (h : ∀ c ∈ x.cps.toList, c < 1114112) : ∀ r ∈ rowsL x, ∀ c ∈ r, c < 1114112 := by
  intro r hr c hc
  unfold rowsL at hr
  rw [rowsS_list] at hr
  refine h c (brk_mem _ _ (Nat.le_refl _) r ?_ c hc)
  unfold rowsB at hr
  split at hr
  · exact List.dropLast_subset _ hr
  · exact hr
theorem rowsL_len (x : Str) : (rowsL x).length ≤ x.length + 1 := by
  unfold rowsL
  rw [List.length_map]
  exact rows_len x
/-- the whole plain law -/
theorem law_plain (ms : List Str) (sg : Str) (hsg : ∀ c ∈ sg.cps.toList, c ∈ SIX) :
    EndAt (Txt.join (Str.ofString "") (ms.map sentS)) noS 0 (endD 0 (ms.map rowsL)) ∧ MailsAt (Txt.join (Str.ofString "") (ms.map sentS)) (signIn sg.cps.toList) 0 (endD 0 (ms.map rowsL)) (mailsD sg.cps.toList 0 1 (ms.map rowsL)) := by
  refine mails_at (x := Txt.join (Str.ofString "") (ms.map sentS)) (sg := sg.cps.toList) ?_ (ms.map rowsL) [] (by rw [stream_list]; rfl) ?_ rfl
  · intro c hc
    have h6 := hsg c hc
    have h8 := six_repr h6
    refine ⟨?_, ?_, by omega⟩
    · rintro rfl; exact absurd h6 (by decide)
    · rintro rfl; exact absurd h6 (by decide)
  · intro rows hr
    obtain ⟨x, hx, rfl⟩ := List.mem_map.mp hr
    unfold rowsL
    rw [rowsS_list]
    exact ⟨rowsB_ne _, rowsB_clean _⟩
end Mine
end
section
open PySem PySem.W PyProof.Rows PySem.Calls PySem.Builtin PySem.Builtin.Str
namespace Mine
set_option maxRecDepth 100000
local macro_rules | `(tactic| k_all) => `(tactic| assumption)
local macro_rules | `(tactic| walk_at "to call") => `(tactic| repeat' (first | (k_unfold; (try dsimp only)) | ((fail_if_success (with_reducible show wpAny _ _ (call (Value.ref _) _ _) _ _ _)); (fail_if_success (with_reducible show wpAny _ _ (exec (Stmt.Assign _ (Expr.ListComp _ _ _ _) _) _) _ _ _)); (fail_if_success (with_reducible show wpAny _ _ (eval (Expr.ListComp _ _ _ _) _) _ _ _)); (fail_if_success (with_reducible show LCg.CompSrc _ _ _ _ _ _ _ _ _ _ _ _ _ _)); (fail_if_success (with_reducible show wpAny _ _ (binaryOp _ (Value.ref _) _) _ _ _)); (fail_if_success (with_reducible show wpAny _ _ (call (Value.type "frozenset") _ _) _ _ _)); (fail_if_success (with_reducible show wpAny _ _ (compareOp _ _ _) _ _ _)); (fail_if_success (with_reducible show wpAny _ _ (subscriptTail _ (Expr.BinOp _ _ _ _) _ _) _ _ _)); first | walk1 | (dsimp only; walk1))))
def signsL : List Str := [⟨#[0, 32]⟩, ⟨#[97]⟩, ⟨#[8232]⟩, ⟨#[98, 133]⟩]
def signsS (j : Nat) : Str := signsL.getD j Str.empty
theorem signs_get {j : Nat} {t0 t1 t2 t3 : Tok} (h : j < 4) : ∃ t, ([.str (Str.ofString "\x00 ") t0, .str (Str.ofString "a") t1, .str (Str.ofString "\u2028") t2, .str (Str.ofString "b\u0085") t3] : List Value)[j]? = some (.str (signsS j) t) := by
  have e0 : Str.ofString "\x00 " = ⟨#[0, 32]⟩ := by decide +kernel
  have e1 : Str.ofString "a" = ⟨#[97]⟩ := by decide +kernel
  have e2 : Str.ofString "\u2028" = ⟨#[8232]⟩ := by decide +kernel
  have e3 : Str.ofString "b\u0085" = ⟨#[98, 133]⟩ := by decide +kernel
  rw [e0, e1, e2, e3]
  rcases j with _ | _ | _ | _ | j
  all_goals first | exact ⟨_, rfl⟩ | omega
theorem signs_six (j : Nat) : ∀ c ∈ (signsS j).cps.toList, c ∈ SIX := by
  rcases j with _ | _ | _ | _ | j
  · decide
  · decide
  · decide
  · decide
  · intro c hc
    exact absurd hc (by simp [signsS, signsL, Str.empty])
theorem signs_len (j : Nat) : (signsS j).cps.size < 1000 := by
  rcases j with _ | _ | _ | _ | j
  · decide
  · decide
  · decide
  · decide
  · show (Str.empty).cps.size < 1000
    decide
theorem intsAre_at {vs : List Value} {xs : List Int} (h : IntsAre vs xs) : ∀ {i : Nat} {v : Value}, vs[i]? = some v → ∃ t, v = .int (xs.getD i 0) t := by
  induction h with
  | nil => intro i v hv; simp at hv
  | cons n t _ ih =>
    intro i v hv
    cases i with
    | zero => exact ⟨t, by simpa using hv.symm⟩
    | succ i =>
      obtain ⟨t', e⟩ := ih (i := i) (v := v) (by simpa using hv)
      exact ⟨t', by simpa using e⟩
theorem range_getI {β : Type} (f : Int → β) (R : List Int) : (List.range R.length).map (fun i => f (R.getD i 0)) = R.map f := by
  apply List.ext_getElem
  · simp
  · intro i h1 h2
    simp at h1 h2
    simp [h2]
theorem odd_ok (t : Int) : ∀ c ∈ (oddS t).cps.toList, c < 1114112 := by
  intro c hc
  have h1 := oddC_hi t
  have h0 := oddC_lo t
  have : c = (oddC t).toNat := by simpa [oddS] using hc
  omega
theorem toTaken {h₀ h : Heap} {L : Addr} {a b c d : Addr × Obj} (N : News h₀ L h [a, b, c, d]) : News h₀ L h ([d] ++ [a, c]) := by
  refine cb_drop N ?_
  intro q hq
  simp only [List.mem_append, List.mem_cons, List.not_mem_nil, or_false] at hq ⊢
  rcases hq with rfl | rfl | rfl
  · exact .inr (.inr (.inr rfl))
  · exact .inl rfl
  · exact .inr (.inr (.inl rfl))
theorem same_eq {prog : Program} {w : World} {A : Around} {E : Value → Shared → Prop} {s : Shared} {h₀ : Heap} {L a b : Addr} {news n₁ n₂ : Led} {xs ys : List Value} {ka kb : Nat} {ds : List Dat} {Q : Value → Shared → Prop} (N : News h₀ L s.heap news) (ma : (a, W.listOf xs.toArray ka) ∈ news) (Da : DatAll n₁ xs ds) (sa : ∀ p ∈ n₁, p ∈ news)
    (mb : (b, W.listOf ys.toArray kb) ∈ news) (Db : DatAll n₂ ys ds) (sb : ∀ p ∈ n₂, p ∈ news) (hk : ∀ d ∈ ds, kqdOk 8 d = true) (hu : A.units + 64 < cLine) (h : Q (.bool true) s) : wpAny (model prog w) A (compareOp .Eq (.ref a) (.ref b)) Q E s := by
  refine kqd_eq N ma rfl rfl Da sa mb rfl rfl Db sb hk hk hu ?_
  simpa using h
theorem tab_obj {tl : Led} (h : TabLed tl) : ∃ ps, (77, tabObj ps) ∈ tl := by
  cases h with
  | none => exact ⟨_, .head _⟩
  | some _ _ => exact ⟨_, .tail _ (.head _)⟩
theorem keep2 {h₀ h : Heap} {L : Addr} {a b c : Addr × Obj} {l : Led} (N : News h₀ L h (a :: b :: c :: l)) : News h₀ L h (a :: l) := by
  refine cb_drop N ?_
  intro q hq
  rcases List.mem_cons.mp hq with rfl | hq
  · exact .head _
  · exact .tail _ (.tail _ (.tail _ hq))
theorem drop5 {h₀ h : Heap} {L : Addr} {a b c d e f : Addr × Obj} {l : Led} (N : News h₀ L h (a :: b :: c :: d :: e :: f :: l)) : News h₀ L h (a :: l) := by
  refine cb_drop N ?_
  intro q hq
  rcases List.mem_cons.mp hq with rfl | hq
  · exact .head _
  · exact .tail _ (.tail _ (.tail _ (.tail _ (.tail _ (.tail _ hq)))))
set_option maxHeartbeats 8000000 in
theorem law_holds : PySem.Challenge.rw_nb0063_01.Holds := Mine.hd (by
  k_go0
  (all_goals try k_fold)
  walk_at "to call"
  refine odd_does _ _ _ _ _ _ _ _ _ _ _ _ _ _ _ _ _ _ _ _ _ _ _ _ _ (by k_asm) (by k_asm) (by k_asm) (by k_asm) (by k_asm) rfl (by decide +kernel) (by decide +kernel) ?_
  rintro v1 news1 h1 tk1 ⟨t1, rfl, rfl⟩ F1 N1
  walk_at "to call"
  rename_i lsg hsg0 Fsg Nsg ltsg
  rename IntsAre _ _ => hI
  rename List Int => ns
  have hm0 : 0 ≤ ns.sum.fmod 4 := fmod_lo _ (by decide)
  have hm1 : ns.sum.fmod 4 < 4 := fmod_hi _ (by decide)
  obtain ⟨tsg, hgsg⟩ := signs_get (j := (ns.sum.fmod 4).toNat) (by omega)
  refine kba_turn (value' := PySem.Expr.Name (PySem.Str.ofString "_") ⟨0, 0, 0, 0⟩) (fun _ => rfl) ?_
  refine kim_list Nsg (.head _) rfl rfl hm0 (by omega) hgsg ?_
  have hsix := signs_six (ns.sum.fmod 4).toNat
  have hsgl := signs_len (ns.sum.fmod 4).toNat
  generalize signsS (ns.sum.fmod 4).toNat = sg at *
  walk_at "to call"
  k_dflt (refine LCg.Assign_ListComp_U (F₀ := by k_asm) (by rfl) (by with_unfolding_all rfl) (by with_unfolding_all rfl) (by decide) (by rfl) (by decide) (by rfl) (by rfl) (by rfl) ?_)
  walk_at "to call"
  rename_i l5 hh5 lt5 D6 ws6 hh6 F6 N6 hI6 hC6 hL6 lt6
  refine add_lists_ints F6 N6 (led_list' N6 (.tail _ (.head _))) (led_list' N6 (.head _)) (.cons 5373234 _ (.cons 0 _ .nil)) hI6 (fun h7 F7 N7 hI7 => ?_) (by rw [sizeLine_eq, hC6]; simp; omega)
  clear F6 N6
  walk_at "to call"
  rename_i l8 hh8 F8 N8 lt8
  refine add_lists_ints F8 N8 (led_list' N8 (.tail _ (.head _))) (led_list' N8 (.head _)) hI7 (.cons 14920366 _ .nil) (fun h9 F9 N9 hI9 => ?_) (by rw [sizeLine_eq, List.length_append, hC6]; simp; omega)
  clear F8 N8
  walk_at "to call"
  have N10 := drop5 N9
  clear N9
  have hxl : ([5373234, 0] ++ List.take 6 ns ++ [14920366]).length ≤ 9 := by simp; omega
  generalize ([5373234, 0] ++ List.take 6 ns ++ [14920366]) = xs at hI9 hxl
  generalize [Value.int 5373234 tk, Value.int 0 (tk + 1)] ++ ws6 ++ [Value.int 14920366 (tk + 1 + 1 + 1)] = wx at *
  have hwx := IntsAre.length hI9
  have hol : (oddS ns.sum).length ≤ 2 := by show 1 ≤ 2; decide
  have hoS := odd_ok ns.sum
  generalize oddS ns.sum = o at *
  refine LCg.CompSrc.ledger (its := wx.toArray) (k := 0) rfl (by k_asm) N10 (.head _) (by rw [sizeLine_eq]; simp; omega) ?_
  intro gh
  refine comp_rest (fun i y => ∃ t, y = .str (mailS (xs.getD i 0) o) t) ?_ ?_
  · intro j v I oI C oC D m₂ ys h tk E' hi hP hC hxx F1 N1 off ne
    obtain ⟨tv, hvv⟩ := intsAre_at hI9 (by simpa using hP)
    subst hvv
    generalize xs.getD j 0 = xj at *
    walk_at "to call"
    refine mail_does _ _ _ _ _ hol _ _ _ _ _ _ _ _ _ _ _ _ _ _ _ _ _ _ _ _ _ _ (by k_asm) (by k_asm) (by k_asm) (by k_asm) (by k_asm) rfl (by decide +kernel) (by decide +kernel) ?_
    rintro v2 news2 h2 tk2 ⟨t2, rfl, rfl⟩ F2 N2
    exact comp_one F2 N2 off (Or.inr ⟨_, .head _, rfl, _, rfl⟩) ⟨_, rfl⟩
  · intro ys hyl hy
    rw [show wx.toArray.size = xs.length by simp; exact hwx] at hyl
    have hsa := strsAre_of (g := fun i => mailS (xs.getD i 0) o) hyl hy
    rw [range_getI (fun x => mailS x o) xs] at hsa
    have hyd : ys.length ≤ 9 := by omega
    clear hy hyl
    intro lm h3 tk3 F3 N3 off3
    have hmL : ∀ x ∈ xs.map (fun x => mailS x o), x.length ≤ 12 := by
      intro x hx
      obtain ⟨y, hy, rfl⟩ := List.mem_map.mp hx
      exact mail_len y hol
    have hmO : ∀ x ∈ xs.map (fun x => mailS x o), ∀ c ∈ x.cps.toList, c < 1114112 := by
      intro x hx
      obtain ⟨y, hy, rfl⟩ := List.mem_map.mp hx
      exact mail_ok y hoS
    have hmN : (xs.map (fun x => mailS x o)).length ≤ 9 := by rw [List.length_map]; exact hxl
    generalize xs.map (fun x => mailS x o) = ms at *
    have hsaH := PySem.Flt.Hid.mk hsa
    walk_at "to call"
    have N4 := keep2 N3
    have hl77 : lm ≠ 77 := Ne.symm (off3.2.2.1)
    clear N3 N10
    k_dflt (refine LCg.ListComp_U (F₀ := by k_asm) (by with_unfolding_all rfl) (by decide) (by rfl) (by decide) (by rfl) ?_)
    walk_at "to call"
    refine LCg.CompSrc.ledger (its := ys.toArray) (k := ys.length) rfl (by k_asm) N4 (.head _) (by rw [sizeLine_eq]; simp; omega) ?_
    intro gh2
    refine comp_rest (fun i y => ∃ t, y = .str (sentS (ms.getD i Str.empty)) t) ?_ ?_
    · intro j v I oI C oC D m₂ ys2 h tk E' hi hP hC hxx F1 N1 off ne
      obtain ⟨tv, hvv⟩ := strsAre_at hsaH.out (by simpa using hP)
      have hj : j < ms.length := by have := strsAre_len hsaH.out; simp at hi; omega
      subst hvv
      have hri := hmL _ (getD_mem (xs := ms) (i := j) hj)
      generalize ms.getD j Str.empty = mj at *
      walk_at "to call"
      refine sent_does _ _ _ (by omega) _ _ _ _ _ _ _ _ _ _ _ _ _ _ _ _ _ _ _ _ _ _ (by k_asm) (by k_asm) (by k_asm) (by k_asm) (by k_asm) rfl (by decide +kernel) (by decide +kernel) ?_
      rintro v2 news2 h2 tk2 ⟨t2, rfl, rfl⟩ F2 N2
      exact comp_one F2 N2 off (Or.inr ⟨_, .head _, rfl, _, rfl⟩) ⟨_, rfl⟩
    · intro ys2 hyl2 hy2
      have hyl3 : ys2.length = ms.length := by rw [hyl2]; simp; exact strsAre_len hsaH.out
      have hsb := strsAre_of (g := fun i => sentS (ms.getD i Str.empty)) hyl3 hy2
      rw [range_getD sentS ms] at hsb
      clear hy2 hyl2
      intro ls h5 tk5 F5 N5 off5
      clear F3
      walk_at "to call"
      refine join_list (News.isList N5 (.head _)) (by exact hsb) (sent_sum ms hmL hmN) ?_
      intro tst kst
      have hpl := law_plain ms sg hsix
      have hstl := stream_len ms hmL hmN
      generalize Txt.join (Str.ofString "") (ms.map sentS) = st at *
      walk_at "to call"
      refine fz_call1 (by rfl) hsgl (by k_asm) (by k_asm) ?_
      intro fa fo h6 tk6 F6 N6 lt6 Z6
      walk_at "to call"
      have N7 := toTaken N6
      have h77 : ∀ q ∈ [(fa, fo), (lm, LCg.lst ys)], q.1 ≠ 77 := by
        intro q hq
        simp only [List.mem_cons, List.not_mem_nil, or_false] at hq
        rcases hq with rfl | rfl
        · exact Nat.ne_of_gt (lt6 (77, tabObj #[]) (by simp))
        · exact hl77
      have hdl : (mailsD sg.cps.toList 0 1 (ms.map rowsL)).length ≤ 10000 := by
        have := mailsD_len sg.cps.toList (B := 13) (ms.map rowsL) 0 1 (by
          intro r hr
          obtain ⟨x, hx, rfl⟩ := List.mem_map.mp hr
          have h1 := rowsL_len x
          have h2 := hmL x hx
          omega)
        rw [List.length_map] at this
        omega
      refine taken_does [(fa, fo), (lm, LCg.lst ys)] [(77, tabObj #[])] .none h77 fa fo _ (.head _) Z6 st _ hstl _ _ hpl.1 hpl.2 hdl _ _ _ _ _ _ _ _ _ _ _ _ _ _ _ _ _ _ _ _ _ _ (by k_asm) F6 (by k_asm) N7 (by k_asm) (by k_asm) (by k_asm) ktsDicts_nil rfl (by decide +kernel) (by decide +kernel) ?_
      rintro v8 tl8 add8 g8 h8 tk8 ⟨l8, vs8, n8, rfl, hl8, hD8⟩ hT8 T8 F8 N8 B8 X8 P8 D8
      (try clear F6)
      (try clear N6)
      (try clear N7)
      walk_at "to call"
      refine due_does _ lm ys ys.length ms (List.mem_append_right _ (List.mem_append_right _ (.tail _ (.head _)))) hsaH.out (fun x hx => by have := hmL x hx; omega) (by omega) sg _ hsix _ _ _ _ _ _ _ _ _ _ _ _ _ _ _ _ _ _ _ _ _ _ B8 F8 X8 N8 P8 rfl (by decide +kernel) (by decide +kernel) ?_
      rintro v9 news9 h9' tk9 ⟨l9, vs9, n9, add9, rfl, rfl, hl9, hD9⟩ F9' N9'
      clear F8 N8
      walk_at "to call"
      have hok := mailsD_ok hsix (ms.map rowsL) 0 1 (by
        intro rows hr
        obtain ⟨x, hx, rfl⟩ := List.mem_map.mp hr
        exact rowsL_ok (hmO x hx))
      refine same_eq N9' (List.mem_append_right _ (List.mem_append_right _ (List.mem_append_left _ hl8))) hD8 (fun q hq => List.mem_append_right _ (List.mem_append_right _ (List.mem_append_left _ hq))) (List.mem_append_left _ hl9) hD9 (fun q hq => List.mem_append_left _ hq) hok (by rw [units_deeper, units_caller, cLine_is]; decide) ?_
      obtain ⟨ps, hps⟩ := tab_obj hT8
      refine ⟨⟨.inl ⟨_, .bool true, [], rfl, raisesW_false ?_, .bool true, ?_, unshared_nil⟩, fun b o e => F9'.keep b o (T8.other b o e (fun h => nomatch h)), rfl, ?_⟩, GrownAt.of N9' (List.mem_append_right _ (List.mem_append_left _ hps)), True.intro⟩
      · wrow_none_raised
      · wrow_post
      · assumption)
end Mine
end
theorem PySem.Challenge.cw_nb0063_01_holds : PySem.Challenge.rw_nb0063_01.Holds := by
  exact Mine.law_holds
