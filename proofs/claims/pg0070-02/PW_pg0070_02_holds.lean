import PyProof.Rows.All
import Wide.All
import OpenK.AllK
import Wide.FinOn
import PySem.Challenge.RW_pg0070_02

open PySem PySem.W PyProof.Rows
set_option Elab.async false
namespace Mine
set_option maxRecDepth 100000
set_option maxHeartbeats 8000000
open_top hd for PySem.Challenge.rw_pg0070_02
end Mine
open PySem PySem.W PyProof.Rows
set_option Elab.async false
namespace Mine
/-- a text of these signs -/
abbrev S (l : List Nat) : Str := ⟨l.toArray⟩
theorem S_eta (x : Str) : x = S x.cps.toList := by cases x; simp [S]
theorem S_len (l : List Nat) : (S l).length = l.length := by simp [Str.length]
theorem S_inj {a b : List Nat} (h : S a = S b) : a = b := by
  have := congrArg (fun x : Str => x.cps.toList) h; simpa using this
theorem S_app (a b : List Nat) : S a ++ S b = S (a ++ b) := Str.ext' (by simp [Str.cps_append])
theorem S_beq (a b : List Nat) : (S a == S b) = (a == b) := by
  by_cases h : a = b
  · subst h; simp
  · rw [beq_eq_false_iff_ne.mpr h, beq_eq_false_iff_ne]; exact fun e => h (S_inj e)
theorem S_bne (a b : List Nat) : (S a != S b) = (a != b) := by unfold bne; rw [S_beq]
theorem S_lit (s : String) : Str.ofString s = S (s.toList.map Char.toNat) := by rw [Str.ofString_eq_toList]
theorem filterMap_range (l : List Nat) (a n : Nat) : ((List.range n).map (fun k => a + k)).filterMap (l[·]?) = (l.drop a).take n := by
  induction n generalizing a with
  | zero => simp
  | succ n ih =>
    rw [List.range_succ_eq_map, List.map_cons, List.filterMap_cons, Nat.add_zero]
    have e : List.map (fun k => a + k) (List.map Nat.succ (List.range n)) = List.map (fun k => (a + 1) + k) (List.range n) := by
      rw [List.map_map]; apply List.map_congr_left; intro k _; simp; omega
    rw [e, ih]
    rcases Nat.lt_or_ge a l.length with h1 | h1
    · rw [List.getElem?_eq_getElem h1, List.drop_eq_getElem_cons h1, List.take_succ_cons]
    · rw [List.getElem?_eq_none h1]; simp [List.drop_eq_nil_of_le h1, List.drop_eq_nil_of_le (Nat.le_succ_of_le h1)]
theorem sliceRange_nat (a b : Nat) : sliceRange (a : Int) (b : Int) 1 = (List.range (b - a)).map (fun k => a + k) := by
  unfold sliceRange
  simp only [show ((1 : Int) > 0) = True from by simp, if_true]
  by_cases h : (a : Int) < b
  · rw [if_pos h]
    have e3 : (((b : Int) - a + 1 - 1) / 1).toNat = b - a := by rw [Int.ediv_one]; omega
    rw [e3]
    refine List.map_congr_left fun k _ => ?_
    omega
  · have : b - a = 0 := by omega
    simp [h, this]
/-- a bound of a cut as it is clipped -/
def clipN (v : Option Int) (d len : Nat) : Nat := match v with
  | none => d
  | some i => (max 0 (min (if i < 0 then i + len else i) (len : Int))).toNat
theorem slice_idx (lo hi : Option Int) (len : Nat) : Builtin.Str.strSliceIndices lo hi 1 len = (List.range (clipN hi len len - clipN lo 0 len)).map (fun k => clipN lo 0 len + k) := by
  unfold Builtin.Str.strSliceIndices
  simp only [show ((1 : Int) > 0) = True from by simp, if_true]
  rw [← sliceRange_nat]
  congr 1
  · cases lo with
    | none => rfl
    | some i => simp only [clipN]; omega
  · cases hi with
    | none => rfl
    | some i => simp only [clipN]; omega
theorem S_slice (l : List Nat) (lo hi : Option Int) : Txt.slice (S l) lo hi = S ((l.drop (clipN lo 0 l.length)).take (clipN hi l.length l.length - clipN lo 0 l.length)) := by
  unfold Txt.slice
  rw [S_len, slice_idx]
  have e : (fun x : Nat => (S l).cps[x]?) = (fun x : Nat => l[x]?) := by funext x; simp
  rw [e, filterMap_range]
  split
  · rename_i h
    rw [List.length_map, List.length_range] at h
    have h2 : clipN hi l.length l.length - clipN lo 0 l.length = l.length := by simpa using h
    have hle : clipN hi l.length l.length ≤ l.length := by
      cases hi with
      | none => exact Nat.le_refl _
      | some i => simp only [clipN]; omega
    rw [h2]
    rcases Nat.eq_zero_or_pos (clipN lo 0 l.length) with h0 | h0
    · rw [h0]; simp
    · have : l.length = 0 := by omega
      have : l = [] := List.eq_nil_of_length_eq_zero this
      subst this; simp
  · rfl
theorem clip_nat (b d len : Nat) : clipN (some (b : Int)) d len = min b len := by simp only [clipN]; omega
theorem S_slice_nat (l : List Nat) (a b : Nat) : Txt.slice (S l) (some (a : Int)) (some (b : Int)) = S ((l.drop a).take (b - a)) := by
  rw [S_slice, clip_nat, clip_nat]
  refine congrArg S ?_
  rcases Nat.lt_or_ge a l.length with h | h
  · rw [Nat.min_eq_left (Nat.le_of_lt h)]
    rcases Nat.le_total b l.length with h2 | h2
    · rw [Nat.min_eq_left h2]
    · rw [Nat.min_eq_right h2, List.take_of_length_le (i := l.length - a) (by simp), List.take_of_length_le (i := b - a) (by simp; omega)]
  · rw [Nat.min_eq_right h]; simp [List.drop_eq_nil_of_le h]
theorem S_slice_to (l : List Nat) (b : Nat) : Txt.slice (S l) none (some (b : Int)) = S (l.take b) := by
  rw [S_slice, clip_nat]
  refine congrArg S ?_
  simp only [clipN, List.drop_zero, Nat.sub_zero]
  rcases Nat.le_total b l.length with h2 | h2
  · rw [Nat.min_eq_left h2]
  · rw [Nat.min_eq_right h2, List.take_of_length_le (Nat.le_refl _), List.take_of_length_le h2]
theorem S_slice_from (l : List Nat) (a : Nat) : Txt.slice (S l) (some (a : Int)) none = S (l.drop a) := by
  rw [S_slice, clip_nat]
  refine congrArg S ?_
  simp only [clipN]
  rcases Nat.le_total a l.length with h2 | h2
  · rw [Nat.min_eq_left h2, List.take_of_length_le (by simp)]
  · rw [Nat.min_eq_right h2]; simp [List.drop_eq_nil_of_le h2]
theorem S_item (l : List Nat) (i : Nat) (h : i < l.length) : Txt.item (S l) (i : Int) = S [l[i]] := by
  unfold Txt.item Txt.charAt
  rw [S_len, StrLaws.seqIndex_nonneg (by omega) (by omega)]
  simp [h]
end Mine
open PySem PySem.W PyProof.Rows
set_option Elab.async false
namespace Mine
section
variable {prog : Program} {w : World} {A : Around} {E : Value → Shared → Prop} {s : Shared} {value slice : PySem.Expr} {l l' : List Nat} {t u : Tok} {i : Int} {Q : Value → Shared → Prop}
theorem item_S (h0 : 0 ≤ i) (h1 : i < (l.length : Int)) (hn : l.length ≤ 16777216) (h : ∀ c tk tk', l[i.toNat]? = some c → Q (.str (S [c]) tk) { s with toks := tk' })
    (hs : subscripted slice false (.str (S l) t) (.int i u) = operate [.str (S l) t, .int i u] (getItem (.str (S l) t) (.int i u)) := by with_unfolding_all rfl)
    (ht : ∀ r, letTemporaryGo value (.str (S l) t) r = pure () := by intro _; with_unfolding_all rfl) :
    wpAny (model prog w) A (subscriptTail value slice (.str (S l) t) (.int i u)) Q E s := by
  refine KXi.item (n := l.length) (S_len l) (by omega) h1 hn (fun _ => ?_) hs ht
  have hi : i.toNat < l.length := by omega
  have e : Txt.item (S l) i = S [l[i.toNat]] := by rw [← S_item l i.toNat hi]; congr 1; omega
  rw [e]
  exact h _ _ _ (List.getElem?_eq_getElem hi)
theorem add_S (hsz : l.length + l'.length ≤ 16777216) (h : ∀ t' tk, Q (.str (S (l ++ l')) t') { s with toks := tk }) : wpAny (model prog w) A (binaryOp .Add (.str (S l) t) (.str (S l') u)) Q E s :=
  add_str (fun t' tk => by rw [S_app]; exact h t' tk) (by rw [S_len, S_len]; exact hsz)
theorem truthy_S {Q : Bool → Shared → Prop} (hl : l.length ≤ 16777216) (h : ∀ k, Q (!l.isEmpty) { s with toks := k }) : wpAny (model prog w) A (PySem.truthy (.str (S l) t)) Q E s :=
  KXt.truthy (b := !l.isEmpty) (by rw [S_len]; cases l <;> simp; omega) (by rw [S_len]; exact hl) h
end
end Mine
open PySem PySem.W PyProof.Rows
set_option Elab.async false
namespace Mine
section
variable {prog : Program} {w : World} {A : Around} {E : Value → Shared → Prop} {Q : Flow → Shared → Prop} {s : Shared} {env : Env} {h₀ : Heap} {L : Addr} {σ : Type} {x : Str} {body : List Stmt}
theorem bnd_fr {h : Heap} {ps : List (Str × Value)} {m : Str → Option Value} (h1 : ∀ p ∈ ps, m p.1 = some p.2) (F : Fr h₀ L h m) : Fr h₀ L h (kstB m ps) := by
  have em : kstB m ps = m := by
    funext y; exact kstB_eq h1 fun _ => rfl
  rw [em]; exact F
theorem bnd_fr1 {h : Heap} {ps : List (Str × Value)} {m : Str → Option Value} {v : Value} (h1 : ∀ p ∈ ps, m p.1 = some p.2) (F : Fr h₀ L h (fun y => if y = x then some v else m y)) :
    Fr h₀ L h (fun y => if y = x then some v else kstB m ps y) := by
  have em : kstB m ps = m := by
    funext y; exact kstB_eq h1 fun _ => rfl
  rw [em]; exact F
/-- a turn of a while has come to its end -/
def WEnd (h₀ : Heap) (L : Addr) (s : Shared) (Led : σ → List (Addr × Obj)) (ps : σ → List (Str × Value)) (P : σ → Prop) (μ : σ → Nat) (c : σ) (s₂ : Shared) : Prop :=
  ∃ (c' : σ) (h' : Heap) (tk : Nat) (m' : Str → Option Value), s₂ = { s with heap := h', toks := tk } ∧ Fr h₀ L h' m' ∧ News h₀ L h' (Led c') ∧ (∀ p ∈ ps c', m' p.1 = some p.2) ∧ P c' ∧ μ c' < μ c
def WPost (h₀ : Heap) (L : Addr) (s : Shared) (Led : σ → List (Addr × Obj)) (ps : σ → List (Str × Value)) (P : σ → Prop) (μ : σ → Nat) (Q : Flow → Shared → Prop) (c : σ) (f : Flow) (s₂ : Shared) : Prop :=
  match f with
  | .ret v => Q (.ret v) s₂
  | .brk => Q .next s₂
  | _ => WEnd h₀ L s Led ps P μ c s₂
theorem w_while {test : Expr} {pos : Pos} {m₀ : Str → Option Value} (Led : σ → List (Addr × Obj)) (ps : σ → List (Str × Value)) (P : σ → Prop) (μ : σ → Nat) (c₀ : σ)
    (F : Fr h₀ L s.heap m₀) (N : News h₀ L s.heap (Led c₀)) (hk : ∀ p ∈ ps c₀, m₀ p.1 = some p.2) (hp : P c₀)
    (turn : ∀ (c : σ) (u : Str → Option Value) h tk, P c → Fr h₀ L h (kstB u (ps c)) → News h₀ L h (Led c) →
      wpAny (model prog w) A (isTrue test env (eval test env)) (fun b s₂ =>
        if b = true then wpAny (model prog w) A (execs body env) (WPost h₀ L s Led ps P μ Q c) E s₂ else Q .next s₂) E { s with heap := h, toks := tk })
    (hE : PassesOwn (model prog w) A env E := by passes_own) :
    wpAny (model prog w) A (exec (.While test body [] pos) env) Q E s := by
  refine While_inv2 (fun n m nx => ∃ c : σ, nx = Led c ∧ μ c = n ∧ (∀ p ∈ ps c, m p.1 = some p.2) ∧ P c) F N ⟨c₀, rfl, rfl, hk, hp⟩ ?_ hE
  rintro n m₁ nx h tk F₁ N₁ ⟨c, hnx, hsz, h1, hp'⟩
  rw [hnx] at N₁
  rw [← hsz]
  refine wpAny_mono (turn c m₁ h tk hp' (bnd_fr h1 F₁) N₁) (fun b s₂ p => ?_) fun _ _ x => x
  cases b with
  | false => simpa using p
  | true =>
    simp only [if_true] at p ⊢
    refine wpAny_mono p (fun f s₃ q => ?_) fun _ _ x => x
    cases f with
    | ret v => exact q
    | brk => exact q
    | next =>
      obtain ⟨c', h', tk', m', rfl, F', N', hk9, hp9, hm9⟩ := q
      exact ⟨h', tk', m', Led c', μ c', rfl, F', N', hm9, c', rfl, rfl, hk9, hp9⟩
    | cont =>
      obtain ⟨c', h', tk', m', rfl, F', N', hk9, hp9, hm9⟩ := q
      exact ⟨h', tk', m', Led c', μ c', rfl, F', N', hm9, c', rfl, rfl, hk9, hp9⟩
/-- a turn of a for has come to its end -/
def FEnd (h₀ : Heap) (L : Addr) (s : Shared) (Led : σ → List (Addr × Obj)) (ps : σ → List (Str × Value)) (P : σ → Prop) (I : Addr) (oI : Obj) (s₂ : Shared) : Prop :=
  ∃ (c' : σ) (h' : Heap) (tk : Nat) (m' : Str → Option Value), s₂ = { s with heap := h', toks := tk } ∧ Fr h₀ L h' m' ∧ News h₀ L h' ((I, oI) :: Led c') ∧ (∀ p ∈ Led c', p.1 ≠ I) ∧ (∀ p ∈ ps c', m' p.1 = some p.2) ∧ P c'
def FPost (h₀ : Heap) (L : Addr) (s : Shared) (Led : σ → List (Addr × Obj)) (ps : σ → List (Str × Value)) (P : σ → Prop) (Q : Flow → Shared → Prop) (I : Addr) (oI : Obj) (f : Flow) (s₂ : Shared) : Prop :=
  match f with
  | .ret v => Q (.ret v) s₂
  | .brk => Q .next s₂
  | _ => FEnd h₀ L s Led ps P I oI s₂
theorem f_gen {m₀ : Str → Option Value} {I : Addr} {n : Nat} {Pv : Nat → Value → Prop} {St : Nat → Heap → Prop} {ax : List Addr} {fp : List Addr} (hfp : fp = I :: ax) (Led : σ → List (Addr × Obj)) (ps : σ → List (Str × Value)) (P : Nat → σ → Prop) (c₀ : σ)
    (W : Walks prog w A I fp [I] n Pv St) (hlive : ∀ i h, St i h → ∃ o, h.get? I = some o)
    (hax : ∀ b ∈ ax, ∀ c, (∃ o, h₀.get? b = some o) ∨ ∃ o, (b, o) ∈ Led c)
    (hLf : env.locals ∉ fp) (hI : h₀.get? I = none) (hst : St 0 s.heap) (F : Fr h₀ env.locals s.heap m₀) (N : News h₀ env.locals s.heap (Led c₀)) (hN : ∀ p ∈ Led c₀, p.1 ≠ I) (hk : ∀ p ∈ ps c₀, m₀ p.1 = some p.2) (hp : P 0 c₀)
    (hsame : ∀ b ∈ ax, ∀ c c' o o', (b, o) ∈ Led c → (b, o') ∈ Led c' → o = o')
    (turn : ∀ i v (c : σ) (u : Str → Option Value) h tk oI, i < n → Pv i v → P i c → (∀ p ∈ Led c, p.1 ≠ I) →
      Fr h₀ env.locals h (fun y => if y = x then some v else kstB u (ps c) y) → News h₀ env.locals h ((I, oI) :: Led c) →
      wpAny (model prog w) A (execs body env) (FPost h₀ env.locals s Led ps (P (i + 1)) Q I oI) E { s with heap := h, toks := tk })
    (done : ∀ (c : σ) (u : Str → Option Value) h tk, P n c → Fr h₀ env.locals h (kstB u (ps c)) → News h₀ env.locals h (Led c) → Q .next { s with heap := h, toks := tk }) :
    LoopAtV prog w A h₀ env x body Q E (.ref I) s := by
  subst hfp
  refine ⟨I, I :: ax, [I], n, Pv, St, m₀, Led c₀, fun i m nx => ∃ c, nx = Led c ∧ (∀ p ∈ ps c, m p.1 = some p.2) ∧ P i c, rfl, W, hLf, ?_, ?_, hst, F, N, ⟨c₀, rfl, hk, hp⟩, ?_, ?_⟩
  · intro b hb; rw [List.mem_singleton.mp hb]; exact hI
  · intro p hp hm; exact hN p hp (List.mem_singleton.mp hm)
  · rintro i v m₁ news₁ s₁ own ⟨h, tk, rfl⟩ hin hP ⟨c, rfl, hkc, hpc⟩ hoff hof hog hall hst₁ F₁ N₁
    obtain ⟨oI, hoI⟩ := hlive _ _ hst₁
    have hmem : (I, oI) ∈ own := hall I (List.mem_cons_self ..) hI oI hoI
    have hne : ∀ p ∈ Led c, p.1 ≠ I := fun p hp e => hoff p hp (List.mem_singleton.mpr e)
    have N₂ : News h₀ env.locals h ((I, oI) :: Led c) := fun p hp => by
      rcases List.mem_cons.mp hp with rfl | hp
      · exact N₁ _ (List.mem_append_left _ hmem)
      · exact N₁ _ (List.mem_append_right _ hp)
    refine wpAny_mono (turn i v c m₁ h tk oI hin hP hpc hne (bnd_fr1 hkc F₁) N₂) (fun f s₂ q => ?_) fun _ _ e => e
    have fin : FEnd h₀ env.locals s Led ps (P (i + 1)) I oI s₂ → LoopStepU h₀ env.locals [I] own (fun m nx => ∃ c, nx = Led c ∧ (∀ p ∈ ps c, m p.1 = some p.2) ∧ P (i + 1) c) { s with heap := h, toks := tk } .next s₂ := by
      rintro ⟨c', h', tk', m', rfl, F', N', hN', hk', hp'⟩
      refine ⟨rfl, h', tk', m', Led c', rfl, F', ?_, fun p hp hm => hN' p hp (List.mem_singleton.mp hm), c', rfl, hk', hp'⟩
      intro p hp
      rcases List.mem_append.mp hp with ho | ho
      · have h1 := hof p ho
        have h2 := hog p ho
        rcases List.mem_cons.mp h1 with e | e
        · have : p = (I, oI) := by
            obtain ⟨pa, po⟩ := p
            dsimp only at e h2; subst e
            dsimp only at hoI
            rw [hoI] at h2; cases h2; rfl
          rw [this]; exact N' _ (List.mem_cons_self ..)
        · have h0 := (N₁ p (List.mem_append_left _ ho)).2.2
          rcases hax p.1 e c with ⟨o, hh⟩ | ⟨o, hh⟩
          · rw [hh] at h0; cases h0
          · rcases hax p.1 e c' with ⟨o', hh'⟩ | ⟨o', hh'⟩
            · rw [hh'] at h0; cases h0
            · have eo := hsame p.1 e c c' o o' hh hh'
              subst eo
              have h3 := (N₁ _ (List.mem_append_right _ hh)).1
              have h4 : p.2 = o := by
                dsimp only at h2 h3
                rw [h2] at h3; cases h3; rfl
              have : p = (p.1, o) := by rw [← h4]
              rw [this]; exact N' _ (List.mem_cons_of_mem _ hh')
      · exact N' _ (List.mem_cons_of_mem _ ho)
    cases f with
    | ret v => exact .ret q
    | brk => exact .brk q
    | next => exact .next (fin q)
    | cont => exact .cont (fin q)
  · rintro h' tk m' news' F' N' _ ⟨c, rfl, hkc, hpc⟩
    exact done c m' h' tk hpc (bnd_fr hkc F') N'
theorem f_range {r : Addr} {a₀ b₀ st₀ : Int} {t₀ u₀ v₀ : Tok} {n : Nat} {m₀ : Str → Option Value} (Led : σ → List (Addr × Obj)) (ps : σ → List (Str × Value)) (P : Nat → σ → Prop) (c₀ : σ)
    (hh : A.handled = none) (hr : IsRange s.heap r a₀ b₀ st₀ t₀ u₀ v₀) (hsmall : Builtin.Range.small a₀ b₀ st₀ = true) (hn : Builtin.Range.rangeSize a₀ b₀ st₀ = (n : Int))
    (F : Fr h₀ env.locals s.heap m₀) (N : News h₀ env.locals s.heap (Led c₀)) (hk : ∀ p ∈ ps c₀, m₀ p.1 = some p.2) (hp : P 0 c₀)
    (turn : ∀ i t (c : σ) (u : Str → Option Value) h tk I oI, i < n → P i c → (∀ p ∈ Led c, p.1 ≠ I) →
      Fr h₀ env.locals h (fun y => if y = x then some (.int (a₀ + i * st₀) t) else kstB u (ps c) y) → News h₀ env.locals h ((I, oI) :: Led c) →
      wpAny (model prog w) A (execs body env) (FPost h₀ env.locals s Led ps (P (i + 1)) Q I oI) E { s with heap := h, toks := tk })
    (done : ∀ (c : σ) (u : Str → Option Value) h tk, P n c → Fr h₀ env.locals h (kstB u (ps c)) → News h₀ env.locals h (Led c) → Q .next { s with heap := h, toks := tk }) :
    wpAny (model prog w) A (pyIter (.ref r)) (fun it s₂ => LoopAtV prog w A h₀ env x body Q E it s₂) E s := by
  refine wpAny_pyIter_range hr hsmall ?_
  refine f_gen (ax := []) rfl Led ps P c₀ (Walks.range hh _ a₀ st₀ n) (fun i h st => ⟨_, st⟩) (fun b hb => nomatch hb) ?_ (next_is_new F) (by show IsRangeIter _ _ _ _ _; rw [hn]; simpa using Heap.get?_push_size _ rfl) (F.push _) (fun p hp => ⟨Heap.get?_push_of_some _ (N p hp).1, (N p hp).2⟩) ?_ hk hp (fun b hb => nomatch hb) ?_ ?_
  · intro hm; exact absurd F.ns.lt ((List.mem_singleton.mp hm) ▸ Nat.lt_irrefl _)
  · intro p hp e; exact absurd (Heap.lt_size (N p hp).1) (e ▸ Nat.lt_irrefl _)
  · rintro i v c u h tk oI hi ⟨t, rfl⟩ hpc hne F₁ N₁
    exact turn i t c u h tk _ oI hi hpc hne F₁ N₁
  · intro c u h tk hpc F₁ N₁
    exact done c u h tk hpc F₁ N₁
theorem f_list {l : Addr} {vs : List Value} {ol : Obj} {m₀ : Str → Option Value} (Led : σ → List (Addr × Obj)) (ps : σ → List (Str × Value)) (P : Nat → σ → Prop) (c₀ : σ)
    (hh : A.handled = none) (hcl : ol.cls = .type "list") (hda : ∃ k, ol.data = .seq vs.toArray k) (hl : ∀ c, (l, ol) ∈ Led c) (hu : ∀ c o, (l, o) ∈ Led c → o = ol)
    (F : Fr h₀ env.locals s.heap m₀) (N : News h₀ env.locals s.heap (Led c₀)) (hk : ∀ p ∈ ps c₀, m₀ p.1 = some p.2) (hp : P 0 c₀)
    (turn : ∀ i v (c : σ) (u : Str → Option Value) h tk I oI, vs[i]? = some v → P i c → (∀ p ∈ Led c, p.1 ≠ I) →
      Fr h₀ env.locals h (fun y => if y = x then some v else kstB u (ps c) y) → News h₀ env.locals h ((I, oI) :: Led c) →
      wpAny (model prog w) A (execs body env) (FPost h₀ env.locals s Led ps (P (i + 1)) Q I oI) E { s with heap := h, toks := tk })
    (done : ∀ (c : σ) (u : Str → Option Value) h tk, P vs.length c → Fr h₀ env.locals h (kstB u (ps c)) → News h₀ env.locals h (Led c) → Q .next { s with heap := h, toks := tk }) :
    wpAny (model prog w) A (pyIter (.ref l)) (fun it s₂ => LoopAtV prog w A h₀ env x body Q E it s₂) E s := by
  have hls : s.heap.IsList l vs.toArray := ⟨ol, (N _ (hl c₀)).1, hcl, hda⟩
  have hlt : l < s.heap.objs.size := Heap.lt_size (N _ (hl c₀)).1
  refine wpAny_pyIter_list hls ?_
  have W := Walks.list (prog := prog) (w := w) hh s.heap.objs.size l (Nat.ne_of_lt hlt) vs.toArray
  rw [List.size_toArray] at W
  refine f_gen (ax := [l]) rfl Led ps P c₀ W (fun i h st => let ⟨o, ho, _⟩ := st.1; ⟨o, ho⟩) (fun b hb c => by rw [List.mem_singleton.mp hb]; exact .inr ⟨_, hl c⟩) ?_ (next_is_new F) ⟨⟨_, Heap.get?_push_size _ rfl, rfl, rfl⟩, hls.push _⟩ (F.push _) (fun p hp => ⟨Heap.get?_push_of_some _ (N p hp).1, (N p hp).2⟩) ?_ hk hp ?_ ?_ ?_
  · intro hm
    rcases List.mem_cons.mp hm with e | hm
    · exact absurd F.ns.lt (e ▸ Nat.lt_irrefl _)
    · exact (N _ (hl c₀)).2.1 (List.mem_singleton.mp hm).symm
  · intro p hp e; exact absurd (Heap.lt_size (N p hp).1) (e ▸ Nat.lt_irrefl _)
  · intro b hb c c' o o' h1 h2
    rw [List.mem_singleton.mp hb] at h1 h2
    rw [hu c o h1, hu c' o' h2]
  · rintro i v c u h tk oI hi hv hpc hne F₁ N₁
    exact turn i v c u h tk _ oI (by simpa using hv) hpc hne F₁ N₁
  · intro c u h tk hpc F₁ N₁
    exact done c u h tk hpc F₁ N₁
end
end Mine
open PySem PySem.W PyProof.Rows
set_option Elab.async false
namespace Mine
/-- texts as values -/
def sv (q : List (List Nat × Tok)) : List Value := q.map fun p => Value.str (S p.1) p.2
theorem sv_len (q : List (List Nat × Tok)) : (sv q).length = q.length := by simp [sv]
theorem sv_cons (p : List Nat × Tok) (q : List (List Nat × Tok)) : sv (p :: q) = Value.str (S p.1) p.2 :: sv q := rfl
theorem sv_app (p q : List (List Nat × Tok)) : sv (p ++ q) = sv p ++ sv q := by simp [sv]
section
variable {prog : Program} {w : World} {A : Around} {E : Value → Shared → Prop} {s : Shared} {value slice : PySem.Expr} {h₀ : Heap} {L D : Addr} {m : Str → Option Value} {rest : List (Addr × Obj)} {vs : List Value} {v : Value} {n : Nat} {t u : Tok}
theorem led_isList {news : List (Addr × Obj)} {hh : Heap} (N : News h₀ L hh news) (hm : (D, listOf vs.toArray n) ∈ news) : hh.IsList D vs.toArray := ⟨_, (N _ hm).1, rfl, n, rfl⟩
theorem item_at {k : Int} {Q : Value → Shared → Prop} (hl : s.heap.IsList D vs.toArray) (h0 : 0 ≤ k) (hhi : k < 2 ^ 63) (hx : vs[k.toNat]? = some v) (h : Q v s)
    (hs : subscripted slice false (.ref D) (.int k u) = operate [.ref D, .int k u] (getItem (.ref D) (.int k u)) := by with_unfolding_all rfl) :
    wpAny (model prog w) A (subscriptTail value slice (.ref D) (.int k u)) Q E s :=
  tail_any hl.typeIs slot_list_getitem.lookup (wpAny_getItem_list hl h0 hhi (by simpa using hx) h) hs
theorem item_last {Q : Value → Shared → Prop} (hl : s.heap.IsList D (vs ++ [v]).toArray) (h : Q v s)
    (hs : subscripted slice false (.ref D) (.int (-1) u) = operate [.ref D, .int (-1) u] (getItem (.ref D) (.int (-1) u)) := by with_unfolding_all rfl) :
    wpAny (model prog w) A (subscriptTail value slice (.ref D) (.int (-1) u)) Q E s :=
  tail_any hl.typeIs slot_list_getitem.lookup (wpAny_getItem_list_neg hl (by decide) (by simp; omega) (by decide)
    (by have e : (-1 + (((vs ++ [v]).toArray.size : Nat) : Int)).toNat = vs.length := by simp; omega
        rw [e]; simp) h) hs
theorem del_first {Q : Unit → Shared → Prop} (F : Fr h₀ L s.heap m) (N : News h₀ L s.heap ((D, listOf (v :: vs).toArray n) :: rest)) (hap : ∀ p ∈ rest, p.1 ≠ D) (hsz : vs.length ≤ 16000000)
    (h : ∀ h', Fr h₀ L h' m → News h₀ L h' ((D, listOf vs.toArray (n + 1)) :: rest) → Q () { s with heap := h' }) :
    wpAny (model prog w) A (delItem (.ref D) (.int 0 u)) Q E s :=
  delItem_head F N hap (by decide) (k := 0) (by simp [seqIndex?]) (fun h' F' N' => h h' F' (by simpa using N')) (by simp [sizeLine]; omega)
theorem del_last {Q : Unit → Shared → Prop} (F : Fr h₀ L s.heap m) (N : News h₀ L s.heap ((D, listOf (vs ++ [v]).toArray n) :: rest)) (hap : ∀ p ∈ rest, p.1 ≠ D) (hsz : vs.length ≤ 16000000)
    (h : ∀ h', Fr h₀ L h' m → News h₀ L h' ((D, listOf vs.toArray (n + 1)) :: rest) → Q () { s with heap := h' }) :
    wpAny (model prog w) A (delItem (.ref D) (.int (-1) u)) Q E s :=
  delItem_head F N hap (by decide) (k := vs.length)
    (by rw [PySem.seqIndex_neg (by decide) (by simp; omega)]
        have e : (-1 + (((vs ++ [v]).toArray.size : Nat) : Int)).toNat = vs.length := by simp; omega
        rw [e])
    (fun h' F' N' => h h' F' (by
      have e : (vs ++ [v]).toArray.toList.eraseIdx vs.length = vs := by
        show (vs ++ [v]).eraseIdx vs.length = vs
        rw [List.eraseIdx_append_of_length_le (Nat.le_refl _)]; simp
      rw [e] at N'; exact N')) (by simp [sizeLine]; omega)
end
section
open Builtin Builtin.Str
theorem gives_find4 (x y : Str) (i j : Int) (t u v z : Tok) : Gives (Builtin.«str.find» ⟨[.str x t, .str y u, .int i v, .int j z], []⟩) (.int (match occurrences x y (fromIndex x.length i) (min (fromIndex x.length j) x.length) 1 with | k :: _ => (k : Int) | [] => -1)) := by
  show Gives (match occurrences x y (fromIndex x.length i) (min (fromIndex x.length j) x.length) 1 with | k :: _ => retInt k | [] => (do rule "str.find.not-found"; retInt (-1))) _
  cases occurrences x y (fromIndex x.length i) (min (fromIndex x.length j) x.length) 1 with
  | nil => exact .rule (.of_eq rfl)
  | cons k _ => exact .of_eq rfl
/-- the first place of w in g, wholly between lo and hi -/
def findAt (g w : List Nat) (lo hi : Nat) : Option Nat := (List.range' lo (hi + 1 - lo)).find? fun i => decide (i + w.length ≤ hi) && decide ((g.drop i).take w.length = w)
theorem occ_findAt (g w : List Nat) (lo hi : Nat) : (match occurrences (S g) (S w) lo hi 1 with | k :: _ => (k : Int) | [] => -1) = (match findAt g w lo hi with | some k => (k : Int) | none => -1) := by
  have hat : ∀ i, StrLaws.At (S g) (S w) hi i ↔ (decide (i + w.length ≤ hi) && decide ((g.drop i).take w.length = w)) = true := by
    intro i
    unfold StrLaws.At
    rw [StrLaws.subAt_eq, S_len]
    simp
  rw [StrLaws.occ_eq]
  unfold findAt
  rcases StrLaws.occ_first (S g) (S w) hi 1 (Nat.le_refl _) (List.range' lo (hi + 1 - lo)) lo (fun i hi => by rw [List.mem_range'_1] at hi; omega) with ⟨h1, h2⟩ | ⟨pre, a, post, h1, h2, h3, h4⟩
  · rw [h1]
    have : (List.range' lo (hi + 1 - lo)).find? (fun i => decide (i + w.length ≤ hi) && decide ((g.drop i).take w.length = w)) = none := by
      rw [List.find?_eq_none]
      intro i hi' hc
      exact h2 i hi' ((hat i).mpr hc)
    rw [this]
  · have hf : (List.range' lo (hi + 1 - lo)).find? (fun i => decide (i + w.length ≤ hi) && decide ((g.drop i).take w.length = w)) = some a := by
      rw [h1, List.find?_append]
      have : pre.find? (fun i => decide (i + w.length ≤ hi) && decide ((g.drop i).take w.length = w)) = none := by
        rw [List.find?_eq_none]
        intro i hi' hc
        exact h4 i hi' ((hat i).mpr hc)
      rw [this, Option.none_or, List.find?_cons, (hat a).mp h3]
    rw [hf]
    have h5 : ((forIn (List.range' lo (hi + 1 - lo)) (#[], lo) (StrLaws.occBody (S g) (S w) hi 1)).run.fst.toList)[0]? = some a := by simpa using h2
    cases hc : (forIn (List.range' lo (hi + 1 - lo)) (#[], lo) (StrLaws.occBody (S g) (S w) hi 1)).run.fst.toList with
    | nil => rw [hc] at h5; cases h5
    | cons b r => rw [hc] at h5; simp at h5; simp [h5]
theorem find4 {prog : Program} {w : World} {A : Around} {E : Value → Shared → Prop} {s : Shared} {g p : List Nat} {t u v z : Tok} {i j : Int} {Q : Value → Shared → Prop} (h0 : 0 ≤ i) (h1 : 0 ≤ j) (h2 : j ≤ (g.length : Int))
    (hq : ∀ tk tk', Q (.int (match findAt g p i.toNat j.toNat with | some k => (k : Int) | none => -1) tk) { s with toks := tk' }) : wpAny (model prog w) A (call (.builtin "str.find") [.str (S g) t, .str (S p) u, .int i v, .int j z]) Q E s := by
  refine call_gives F.slot_str_find (typeIs_str _ _ _) F.entry_str_find (F.args_str_find_4 _ _ _ _) (gives_find4 _ _ i j t u v z) ?_
  have e1 : fromIndex (S g).length i = i.toNat := by unfold fromIndex; rw [if_neg (by omega)]; omega
  have e2 : min (fromIndex (S g).length j) (S g).length = j.toNat := by unfold fromIndex; rw [if_neg (by omega), S_len]; omega
  rw [e1, e2, occ_findAt]
  exact hq _ _
/-- the pieces between the dots -/
def splitD : List Nat → List (List Nat)
  | 46 :: 46 :: 46 :: r => [] :: splitD r
  | c :: r => match splitD r with
    | p :: ps => (c :: p) :: ps
    | [] => [[c]]
  | [] => [[]]
def dots : List Nat := [46, 46, 46]
theorem splitD_ne (l : List Nat) : ∃ p ps, splitD l = p :: ps := by
  unfold splitD
  split
  · exact ⟨_, _, rfl⟩
  · split <;> exact ⟨_, _, rfl⟩
  · exact ⟨_, _, rfl⟩
theorem splitD_dots (r : List Nat) : splitD (46 :: 46 :: 46 :: r) = [] :: splitD r := by rw [splitD]
theorem splitD_step {c : Nat} {r p : List Nat} {ps : List (List Nat)} (h : ¬ (c :: r).take 3 = dots) (e : splitD r = p :: ps) : splitD (c :: r) = (c :: p) :: ps := by
  rw [splitD]
  · rw [e]
  · intro r' hc hr; subst hc; subst hr; exact h rfl
/-- the places found, from i on -/
def greedy (x y : Str) (hi : Nat) : Nat → Nat → Nat → List Nat
  | 0, _, _ => []
  | k + 1, i, free => if free ≤ i ∧ i + y.length ≤ hi ∧ subAt x y i = true then i :: greedy x y hi k (i + 1) (i + y.length) else greedy x y hi k (i + 1) free
theorem occ_greedy (x y : Str) (hi limit : Nat) : ∀ (k i free : Nat) (acc : Array Nat), acc.size + k ≤ limit → (forIn (List.range' i k) (acc, free) (StrLaws.occBody x y hi limit)).run.fst.toList = acc.toList ++ greedy x y hi k i free
  | 0, i, free, acc, _ => by simp [greedy]
  | k + 1, i, free, acc, h => by
    rw [List.range'_succ, List.forIn_cons, greedy]
    by_cases hc : free ≤ i ∧ i + y.length ≤ hi ∧ subAt x y i = true
    · rw [if_pos hc]
      have e : StrLaws.occBody x y hi limit i (acc, free) = pure (ForInStep.yield (acc.push i, i + y.length)) := by
        unfold StrLaws.occBody
        rw [if_pos ⟨⟨⟨by show acc.size < limit; omega, hc.1⟩, hc.2.1⟩, hc.2.2⟩]
      rw [e]
      have := occ_greedy x y hi limit k (i + 1) (i + y.length) (acc.push i) (by rw [Array.size_push]; omega)
      simp only [pure_bind]
      rw [this]; simp
    · rw [if_neg hc]
      have e : StrLaws.occBody x y hi limit i (acc, free) = pure (ForInStep.yield (acc, free)) := by
        unfold StrLaws.occBody
        rw [if_neg (fun q => hc ⟨q.1.1.2, q.1.2, q.2⟩)]
      rw [e]
      simp only [pure_bind]
      exact occ_greedy x y hi limit k (i + 1) free acc (by omega)
theorem occ_all (x y : Str) : occurrences x y 0 x.length (x.length + 1) = greedy x y x.length (x.length + 1) 0 0 := by
  rw [StrLaws.occ_eq]
  have := occ_greedy x y x.length (x.length + 1) (x.length + 1) 0 0 #[] (by simp)
  simpa using this
theorem greedy_free (x y : Str) (hi : Nat) : ∀ k i free free', free ≤ i → free' ≤ i → greedy x y hi k i free = greedy x y hi k i free'
  | 0, _, _, _, _, _ => rfl
  | k + 1, i, free, free', h, h' => by
    rw [greedy, greedy, greedy_free x y hi k (i + 1) free free' (by omega) (by omega)]
    simp [h, h']
theorem greedy_skip (x y : Str) (hi k i d : Nat) : greedy x y hi (k + d) i (i + d) = greedy x y hi k (i + d) (i + d) := by
  induction d generalizing i with
  | zero => rfl
  | succ d ih =>
    rw [show k + (d + 1) = (k + d) + 1 by omega, greedy, if_neg (by omega)]
    have := ih (i + 1)
    rw [show i + 1 + d = i + (d + 1) by omega] at this
    exact this
theorem greedy_over (x y : Str) (hi : Nat) : ∀ k i free, hi < i + y.length → greedy x y hi k i free = []
  | 0, _, _, _ => rfl
  | k + 1, i, free, h => by rw [greedy, if_neg (by omega)]; exact greedy_over x y hi k (i + 1) free (by omega)
theorem strSub_S (a : List Nat) (i j : Nat) : strSub (S a) i j = S ((a.drop i).take (j - i)) := by
  have h := StrLaws.strSub_toList (S a) i j
  rw [S_eta (strSub (S a) i j), h]
theorem parts_split (a : List Nat) : ∀ k i st, k + i = a.length + 1 → st ≤ i → ∃ p ps, splitD (a.drop i) = p :: ps ∧
    StrLaws.partsFrom (S a) 3 st (greedy (S a) (S dots) a.length k i i) = (((a.drop st).take (i - st) ++ p) :: ps).map S := by
  intro k
  induction k using Nat.strongRecOn with
  | ind k ih =>
    intro i st hk hst
    rcases Nat.lt_or_ge i a.length with hlt | hge
    · obtain ⟨k', rfl⟩ : ∃ k', k = k' + 1 := ⟨k - 1, by omega⟩
      by_cases hd : (a.drop i).take 3 = dots
      · have hle : i + 3 ≤ a.length := by
          have := congrArg List.length hd
          simp [dots] at this; omega
        obtain ⟨k'', rfl⟩ : ∃ k'', k' = k'' + 2 := ⟨k' - 2, by omega⟩
        have h1 : greedy (S a) (S dots) a.length (k'' + 2 + 1) i i = i :: greedy (S a) (S dots) a.length k'' (i + 3) (i + 3) := by
          rw [greedy, if_pos ⟨Nat.le_refl _, hle, by rw [StrLaws.subAt_eq]; simpa [dots, Str.length] using hd⟩]
          have := greedy_skip (S a) (S dots) a.length k'' (i + 1) 2
          rw [show i + 1 + 2 = i + 3 by omega] at this
          rw [show i + (S dots).length = i + 3 from rfl, this]
        have h2 : a.drop i = 46 :: 46 :: 46 :: a.drop (i + 3) := by
          have := List.take_append_drop 3 (a.drop i)
          rw [hd, List.drop_drop] at this
          exact this.symm
        obtain ⟨p, ps, e1, e2⟩ := ih k'' (by omega) (i + 3) (i + 3) (by omega) (Nat.le_refl _)
        refine ⟨[], splitD (a.drop (i + 3)), by rw [h2, splitD_dots], ?_⟩
        rw [h1, StrLaws.partsFrom, e2, strSub_S, e1]
        simp
      · have h1 : greedy (S a) (S dots) a.length (k' + 1) i i = greedy (S a) (S dots) a.length k' (i + 1) (i + 1) := by
          rw [greedy, if_neg (fun q => hd (by have := q.2.2; rw [StrLaws.subAt_eq] at this; simpa [dots, Str.length] using this))]
          exact greedy_free _ _ _ _ _ _ _ (by omega) (by omega)
        obtain ⟨p, ps, e1, e2⟩ := ih k' (by omega) (i + 1) st (by omega) (by omega)
        have h2 : a.drop i = a[i] :: a.drop (i + 1) := List.drop_eq_getElem_cons hlt
        refine ⟨a[i] :: p, ps, ?_, ?_⟩
        · rw [h2]; exact splitD_step (by rw [← h2]; exact hd) e1
        · rw [h1, e2]
          have : (a.drop st).take (i + 1 - st) = (a.drop st).take (i - st) ++ [a[i]] := by
            rw [show i + 1 - st = (i - st) + 1 by omega, List.take_add_one, List.getElem?_drop, show st + (i - st) = i by omega, List.getElem?_eq_getElem hlt]; rfl
          rw [this]; simp
    · refine ⟨[], [], by rw [List.drop_eq_nil_of_le hge, splitD], ?_⟩
      rw [greedy_over _ _ _ _ _ _ (by simp [dots, Str.length]; omega), StrLaws.partsFrom, strSub_S, S_len]
      have e : (a.drop st).take (a.length - st) = (a.drop st).take (i - st) := by
        rw [List.take_of_length_le (by simp), List.take_of_length_le (by simp; omega)]
      rw [e]; simp
theorem kind_dots (x : Str) : ¬ strKind x < strKind (S dots) := by
  have : strKind (S dots) = 1 := by decide +kernel
  rw [this]
  unfold Builtin.Str.strKind
  repeat' split
  all_goals omega
theorem S_split (a : List Nat) : Txt.split (S a) (S dots) = (splitD a).map S := by
  obtain ⟨p, ps, e1, e2⟩ := parts_split a (a.length + 1) 0 0 (by omega) (Nat.le_refl _)
  have e3 : (splitD a).map S = StrLaws.partsFrom (S a) 3 0 (greedy (S a) (S dots) a.length (a.length + 1) 0 0) := by
    rw [e2, ← List.drop_zero (l := a), e1]; simp
  rw [e3]
  unfold Txt.split
  have e4 : occurrences (S a) (S dots) 0 (S a).length ((S a).length + 1) = greedy (S a) (S dots) a.length (a.length + 1) 0 0 := by
    rw [occ_all, S_len]
  have hnil : greedy (S a) (S dots) a.length (a.length + 1) 0 0 = [] → [S a] = StrLaws.partsFrom (S a) 3 0 (greedy (S a) (S dots) a.length (a.length + 1) 0 0) := by
    intro h; rw [h, StrLaws.partsFrom, strSub_S, S_len]; simp
  split
  · rename_i h
    refine hnil (greedy_over _ _ _ _ _ _ ?_)
    rcases Bool.or_eq_true_iff.mp h with h | h
    · have := of_decide_eq_true h; rw [S_len, S_len] at this; rw [S_len]; omega
    · exact absurd (of_decide_eq_true h) (kind_dots _)
  · rw [e4]
    split
    · rename_i h; exact hnil (by simpa using h)
    · rw [StrLaws.partsBetween_eq]; rfl
theorem S_starts (g p : List Nat) : Txt.startswith (S g) (S p) = decide (g.take p.length = p) := by
  unfold Txt.startswith
  rw [StrLaws.subAt_eq, S_len, S_len]
  by_cases h : g.take p.length = p
  · have : p.length ≤ g.length := by have := congrArg List.length h; simp at this; omega
    simp [h, this]
  · simp [h]
theorem S_ends (g p : List Nat) : Txt.endswith (S g) (S p) = (decide (p.length ≤ g.length) && decide (g.drop (g.length - p.length) = p)) := by
  unfold Txt.endswith
  rw [StrLaws.subAt_eq, S_len, S_len]
  by_cases h : p.length ≤ g.length
  · simp only [Nat.zero_add, h, decide_true, Bool.true_and]
    rw [List.take_of_length_le (by simp; omega)]
    exact Bool.eq_iff_iff.mpr (by simp)
  · simp [h]
theorem S_has (a : List Nat) : (occurrences (S a) (S dots) 0 (S a).length 1).isEmpty = decide ((splitD a).length = 1) := by
  have hs := congrArg List.length (S_split a)
  rw [List.length_map] at hs
  rcases StrLaws.occ_head (S a) (S dots) 1 (Nat.le_refl _) with ⟨h1, h2⟩ | ⟨i, r, h1, h2, h3⟩
  · rw [h1]
    rcases StrLaws.occ_head (S a) (S dots) ((S a).length + 1) (by omega) with ⟨h4, _⟩ | ⟨j, _, _, h5, _⟩
    · have : (Txt.split (S a) (S dots)).length = 1 := by
        unfold Txt.split
        split
        · rfl
        · rw [h4]; rfl
      rw [this] at hs
      simp [← hs]
    · exact absurd h5 (h2 j)
  · rw [h1]
    rcases StrLaws.occ_head (S a) (S dots) ((S a).length + 1) (by omega) with ⟨h4, h6⟩ | ⟨j, r', h5, _, _⟩
    · exact absurd h2 (h6 i)
    · have : 2 ≤ (Txt.split (S a) (S dots)).length := by
        unfold Txt.split
        split
        · rename_i h
          rcases Bool.or_eq_true_iff.mp h with h | h
          · have h7 := of_decide_eq_true h
            have h8 := h2.1
            omega
          · exact absurd (of_decide_eq_true h) (kind_dots _)
        · rw [h5]
          simp only [List.isEmpty_cons, Bool.false_eq_true, if_false]
          unfold partsBetween; simp
      rw [hs] at this
      simp; omega
end
end Mine
open PySem PySem.W PyProof.Rows
set_option Elab.async false
namespace Mine
set_option maxRecDepth 100000
set_option maxHeartbeats 8000000
/-- what parse257 reads behind the opening mark -/
def unq : List Nat → List Nat
  | [] => []
  | c :: r => if c = 34 then (match r with | [] => [] | d :: r' => if d = 34 then 34 :: unq r' else []) else c :: unq r
def head5 : List Nat := [50, 53, 55, 32, 34]
theorem drop_at {l : List Nat} {i c : Nat} (h : l[i]? = some c) : l.drop i = c :: l.drop (i + 1) := by
  have hi : i < l.length := by
    rcases Nat.lt_or_ge i l.length with h1 | h1
    · exact h1
    · rw [List.getElem?_eq_none h1] at h; cases h
  rw [List.drop_eq_getElem_cons hi]
  rw [List.getElem?_eq_getElem hi] at h; cases h; rfl
theorem unq_end {l : List Nat} {i : Nat} (h : l.length ≤ i) : unq (l.drop i) = [] := by rw [List.drop_eq_nil_of_le h, unq]
theorem unq_brk1 {l : List Nat} {i : Nat} (h : l[i]? = some 34) (h2 : l.length ≤ i + 1) : unq (l.drop i) = [] := by
  rw [drop_at h, List.drop_eq_nil_of_le h2, unq]; simp
theorem unq_brk2 {l : List Nat} {i c : Nat} (h : l[i]? = some 34) (h2 : l[i + 1]? = some c) (hc : c ≠ 34) : unq (l.drop i) = [] := by
  rw [drop_at h, drop_at h2, unq]; simp [hc]
theorem unq_two {l : List Nat} {i : Nat} (h : l[i]? = some 34) (h2 : l[i + 1]? = some 34) : unq (l.drop i) = 34 :: unq (l.drop (i + 2)) := by
  rw [drop_at h, drop_at h2, unq]; simp
theorem unq_one {l : List Nat} {i c : Nat} (h : l[i]? = some c) (hc : c ≠ 34) : unq (l.drop i) = c :: unq (l.drop (i + 1)) := by
  rw [drop_at h, unq.eq_def]; simp [hc]
theorem mark_eq (c : Nat) : (S [c] == Str.ofString "\"") = true ↔ c = 34 := by
  rw [show Str.ofString "\"" = S [34] from by decide, S_beq]; simp
theorem mark_ne (c : Nat) : (S [c] != Str.ofString "\"") = true ↔ c ≠ 34 := by
  rw [show Str.ofString "\"" = S [34] from by decide, S_bne]; simp
section
variable {l d r : List Nat} {i : Int} {c c' : Nat}
theorem pw_end (hd : d ++ unq (l.drop i.toNat) = unq r) (h : ¬ i < (l.length : Int)) : S d = S (unq r) := by
  rw [unq_end (by omega), List.append_nil] at hd; rw [hd]
theorem pw_brk1 (hd : d ++ unq (l.drop i.toNat) = unq r) (hc : l[i.toNat]? = some c) (hm : (S [c] == Str.ofString "\"") = true) (hb : (l.length : Int) ≤ i + 1) (h0 : 5 ≤ i) : S d = S (unq r) := by
  rw [(mark_eq c).mp hm] at hc
  rw [unq_brk1 hc (by omega), List.append_nil] at hd; rw [hd]
theorem pw_brk2 (hd : d ++ unq (l.drop i.toNat) = unq r) (hc : l[i.toNat]? = some c) (hm : (S [c] == Str.ofString "\"") = true) (hc' : l[(i + 1).toNat]? = some c') (hm' : (S [c'] != Str.ofString "\"") = true) (h0 : 5 ≤ i) : S d = S (unq r) := by
  rw [(mark_eq c).mp hm] at hc
  rw [show (i + 1).toNat = i.toNat + 1 by omega] at hc'
  rw [unq_brk2 hc hc' ((mark_ne c').mp hm'), List.append_nil] at hd; rw [hd]
theorem pw_two (hd : d ++ unq (l.drop i.toNat) = unq r) (hc : l[i.toNat]? = some c) (hm : (S [c] == Str.ofString "\"") = true) (hc' : l[(i + 1).toNat]? = some c') (hm' : (S [c'] != Str.ofString "\"") = false) (h0 : 5 ≤ i) : (d ++ [c]) ++ unq (l.drop (i + 1 + 1).toNat) = unq r := by
  have e := (mark_eq c).mp hm
  have e' : c' = 34 := by
    rcases Nat.decEq c' 34 with h | h
    · rw [(mark_ne c').mpr h] at hm'; cases hm'
    · exact h
  subst e; subst e'
  rw [show (i + 1).toNat = i.toNat + 1 by omega] at hc'
  rw [unq_two hc hc'] at hd
  rw [show (i + 1 + 1).toNat = i.toNat + 2 by omega, ← hd]; simp
theorem pw_one (hd : d ++ unq (l.drop i.toNat) = unq r) (hc : l[i.toNat]? = some c) (hm : (S [c] == Str.ofString "\"") = false) (h0 : 5 ≤ i) : (d ++ [c]) ++ unq (l.drop (i + 1).toNat) = unq r := by
  have e : c ≠ 34 := fun h => by rw [(mark_eq c).mpr h] at hm; cases hm
  rw [unq_one hc e] at hd
  rw [show (i + 1).toNat = i.toNat + 1 by omega, ← hd]; simp
end
local macro_rules | `(tactic| walk_at "subscriptTail Name Name str int") => `(tactic| (k_here; (with_reducible show wpAny _ _ (subscriptTail _ _ (Value.str (S _) _) (Value.int _ _)) _ _ _); (refine item_S (by omega) (by omega) (by omega) ?_); intro c9 _ _ hc9))
local macro_rules | `(tactic| walk_at "binaryOp Add str str") => `(tactic| (k_here; (with_reducible show wpAny _ _ (binaryOp _ (Value.str (S _) _) (Value.str (S _) _)) _ _ _); (refine add_S (by simp only [List.length_cons, List.length_nil]; omega) ?_); intro _ _))
local macro_rules | `(tactic| walk_at "WPost") => `(tactic| (dsimp only [WPost]))
theorem parse_c (w : World) (mean : ExcName → Option Value) (mg mb : Str → Option Value) (news : List (Addr × Obj)) (r : List Nat) (t : Tok) :
    CbClaim PySem.Challenge.rw_pg0070_02.row.prog w (hd.heap_39 w.params) hd.view_39 (looseW hd.view_39 []) mean mg mb 46 news [] (r.length ≤ 1000) [Value.str (S (head5 ++ r)) t] (fun t => Value.str (S (unq r)) t) := by
  k_fill
  w_top off
  dsimp only [CbClaim, CbLists, CbRet]; intros; rename_i hp _ _ hret
  have h3 : (Txt.slice (S (head5 ++ r)) none (some 3) != Str.ofString "257") = false := by
    rw [show (3 : Int) = ((3 : Nat) : Int) from rfl, S_slice_to, S_lit, S_bne]; simp [head5]
  have h5 : (Txt.slice (S (head5 ++ r)) (some 3) (some 5) != Str.ofString " \"") = false := by
    rw [show (3 : Int) = ((3 : Nat) : Int) from rfl, show (5 : Int) = ((5 : Nat) : Int) from rfl, S_slice_nat, S_lit, S_bne]; simp [head5]
  have hr : (head5 ++ r).drop 5 = r := by simp [head5]
  have hl : (head5 ++ r).length = r.length + 5 := by simp [head5]
  generalize head5 ++ r = l at *
  have hl2 : (S l).length = l.length := S_len l
  have hl3 : (S l).length ≤ 1005 := by omega
  refine wpAny_call ?_
  k_dflt cell_enter
  repeat' ((fail_if_success (with_reducible show wpAny _ _ (exec (Stmt.While _ _ _ _) _) _ _ _));  first | (k_unfold; (try dsimp only)) | walk1 | (dsimp only; walk1) | (leave1; try dsimp only))
  rw [hl2] at *
  (rename Fr _ _ _ _ => lF'); (rename News _ _ _ _ => lN')
  refine w_while (σ := Int × List Nat × Tok × Tok) (fun _ => news) (fun c => [(Str.ofString "i", Value.int c.1 c.2.2.1), (Str.ofString "dirname", Value.str (S c.2.1) c.2.2.2), (Str.ofString "resp", Value.str (S l) t), (Str.ofString "n", Value.int l.length _)])
    (fun c => 5 ≤ c.1 ∧ c.1 ≤ l.length ∧ c.2.1 ++ unq (l.drop c.1.toNat) = unq r ∧ c.2.1.length ≤ c.1) (fun c => (l.length - c.1).toNat) (5, [], _, _) lF' lN' (List.forall_mem_cons.mpr ⟨rfl, List.forall_mem_cons.mpr ⟨rfl, List.forall_mem_cons.mpr ⟨rfl, List.forall_mem_cons.mpr ⟨rfl, List.forall_mem_nil _⟩⟩⟩⟩) ⟨by omega, by omega, by simp [hr], by simp⟩ ?turn
  clear lF' lN'
  rintro ⟨i, d, ti, td⟩ u h tk ⟨h1, h2, hd, hdl⟩ F9 N9
  dsimp only at h1 h2 hd hdl F9
  try k_fold
  repeat' ( first | (k_unfold; (try dsimp only)) | walk1 | (dsimp only; walk1) | (leave1; try dsimp only))
  · exact cb_retS hret (pw_brk1 hd (by assumption) (by assumption) (by assumption) h1) (by assumption) (by assumption)
  · exact cb_retS hret (pw_brk2 hd (by assumption) (by assumption) (by assumption) (by assumption) h1) (by assumption) (by assumption)
  · (rename Fr _ _ _ _ => lF'); (rename News _ _ _ _ => lN')
    exact ⟨(i + 1 + 1, d ++ [_], _, _), _, _, _, rfl, lF', lN', (List.forall_mem_cons.mpr ⟨rfl, List.forall_mem_cons.mpr ⟨rfl, List.forall_mem_cons.mpr ⟨rfl, List.forall_mem_cons.mpr ⟨rfl, List.forall_mem_nil _⟩⟩⟩⟩),
      ⟨by dsimp only; omega, by dsimp only; omega, pw_two hd (by assumption) (by assumption) (by assumption) (by assumption) h1, by simp only [List.length_append, List.length_cons, List.length_nil]; omega⟩, (by dsimp only; omega)⟩
  · (rename Fr _ _ _ _ => lF'); (rename News _ _ _ _ => lN')
    exact ⟨(i + 1, d ++ [_], _, _), _, _, _, rfl, lF', lN', (List.forall_mem_cons.mpr ⟨rfl, List.forall_mem_cons.mpr ⟨rfl, List.forall_mem_cons.mpr ⟨rfl, List.forall_mem_cons.mpr ⟨rfl, List.forall_mem_nil _⟩⟩⟩⟩),
      ⟨by dsimp only; omega, by dsimp only; omega, pw_one hd (by assumption) (by assumption) h1, by simp only [List.length_append, List.length_cons, List.length_nil]; omega⟩, (by dsimp only; omega)⟩
  · exact cb_retS hret (pw_end hd (by assumption)) (by assumption) (by assumption)
end Mine
open PySem PySem.W PyProof.Rows
set_option Elab.async false
namespace Mine
set_option maxRecDepth 100000
set_option maxHeartbeats 8000000
/-- the pieces one behind the other -/
def runW (g : List Nat) (ep : Nat) : List (List Nat) → Nat → Bool
  | [], _ => true
  | w :: ws, sp => match findAt g w sp ep with
    | none => false
    | some k => runW g ep ws (k + w.length)
def ematch (a b : List Nat) : Bool := match splitD a with
  | [] => false
  | [_] => a == b
  | p :: q :: r =>
    let l := (q :: r).getLast (by simp)
    let mid := (q :: r).dropLast
    if !p.isEmpty && !decide (b.take p.length = p) then false
    else if !l.isEmpty && !(decide (l.length ≤ b.length) && decide (b.drop (b.length - l.length) = l)) then false
    else if b.length < p.length + l.length then false
    else runW b (b.length - l.length) ((if p.isEmpty then [[]] else []) ++ mid ++ (if l.isEmpty then [[]] else [])) p.length
theorem splitD_le (a : List Nat) : ∀ x ∈ splitD a, x.length ≤ a.length := by
  induction a using splitD.induct with
  | case1 r ih =>
    intro x hx; rw [splitD_dots] at hx
    rcases List.mem_cons.mp hx with rfl | hx
    · simp
    · have := ih x hx; simp; omega
  | case2 c r hn p ps e ih =>
    intro x hx
    rw [splitD_step (fun q => by
      cases r with
      | nil => cases q
      | cons d r => cases r with
        | nil => cases q
        | cons f r => simp [dots] at q; exact hn r q.1 (by rw [q.2.1, q.2.2])) e] at hx
    rcases List.mem_cons.mp hx with rfl | hx
    · have := ih p (by rw [e]; exact List.mem_cons_self ..); simp; omega
    · have := ih x (by rw [e]; exact List.mem_cons_of_mem _ hx); simp; omega
  | case3 c r hn e ih => obtain ⟨p, ps, e'⟩ := splitD_ne r; rw [e'] at e; cases e
  | case4 => intro x hx; rw [splitD] at hx; simp at hx; simp [hx]
theorem splitD_count (a : List Nat) : (splitD a).length ≤ a.length + 1 := by
  induction a using splitD.induct with
  | case1 r ih => rw [splitD_dots]; simp; omega
  | case2 c r hn p ps e ih =>
    rw [splitD_step (fun q => by
      cases r with
      | nil => cases q
      | cons d r => cases r with
        | nil => cases q
        | cons f r => simp [dots] at q; exact hn r q.1 (by rw [q.2.1, q.2.2])) e]
    rw [e] at ih; simp at ih ⊢; omega
  | case3 c r hn e ih => obtain ⟨p, ps, e'⟩ := splitD_ne r; rw [e'] at e; cases e
  | case4 => rw [splitD]; simp
/-- what split has given, told by the pieces -/
theorem told_split {a : List Nat} {l : List (Str × Tok)} (h : l.map (fun x => x.1) = Txt.split (S a) (Str.ofString "...")) (h2 : (Builtin.Str.occurrences (S a) (Str.ofString "...") 0 (S a).length 1).isEmpty = false) :
    ∃ (p : List Nat × Tok) (ps : List (List Nat × Tok)) (pl : List Nat × Tok), strValues l = sv (p :: (ps ++ [pl])) ∧ splitD a = p.1 :: (ps.map (·.1) ++ [pl.1]) ∧ ∀ x ∈ p :: (ps ++ [pl]), x.1.length ≤ a.length := by
  have hl : l.map (fun x => x.1) = (splitD a).map S := by rw [h, show Str.ofString "..." = S dots from by decide, S_split]
  rw [show Str.ofString "..." = S dots from by decide, S_has] at h2
  have h3 : (splitD a).length ≠ 1 := by simpa using h2
  obtain ⟨p0, ps0, e0⟩ := splitD_ne a
  let q : List (List Nat × Tok) := l.map fun x => (x.1.cps.toList, x.2)
  have hq1 : strValues l = sv q := by
    simp only [strValues, sv, q, List.map_map]
    apply List.map_congr_left
    intro x _
    show Value.str x.1 x.2 = Value.str (S x.1.cps.toList) x.2
    rw [← S_eta]
  have hq2 : q.map (·.1) = splitD a := by
    have := congrArg (List.map fun x : Str => x.cps.toList) hl
    rw [List.map_map, List.map_map] at this
    have e : (splitD a).map ((fun x : Str => x.cps.toList) ∘ S) = splitD a := by
      rw [show ((fun x : Str => x.cps.toList) ∘ S) = id from by funext x; simp]; simp
    rw [e] at this
    rw [← this]; simp [q, List.map_map]
  have hqlen : q.length = (splitD a).length := by have := congrArg List.length hq2; rwa [List.length_map] at this
  rcases hqq : q with _ | ⟨p, qs⟩
  · rw [hqq] at hq2; rw [e0] at hq2; cases hq2
  · rcases List.eq_nil_or_concat qs with e | ⟨ps, pl, e⟩
    · rw [hqq, e] at hqlen; simp at hqlen; omega
    · rw [List.concat_eq_append] at e
      refine ⟨p, ps, pl, by rw [hq1, hqq, e], by rw [← hq2, hqq, e]; simp, ?_⟩
      intro x hx
      have hx' : x.1 ∈ splitD a := by rw [← hq2, hqq, e]; exact List.mem_map_of_mem hx
      exact splitD_le a x.1 hx'
/-- the first piece is behind: what is left to be asked -/
def EmAt (a b : List Nat) (qs : List (List Nat × Tok)) (pl : List Nat × Tok) (SP : Int) : Prop :=
  0 ≤ SP ∧ SP ≤ b.length ∧ ematch a b = (if !pl.1.isEmpty && !(decide (pl.1.length ≤ b.length) && decide (b.drop (b.length - pl.1.length) = pl.1)) then false
    else if b.length < SP.toNat + pl.1.length then false
    else runW b (b.length - pl.1.length) (qs.map (·.1) ++ (if pl.1.isEmpty then [[]] else [])) SP.toNat)
theorem ematch_split {a b : List Nat} {p pl : List Nat × Tok} {ps : List (List Nat × Tok)} (e : splitD a = p.1 :: (ps.map (·.1) ++ [pl.1])) : ematch a b =
    (if !p.1.isEmpty && !decide (b.take p.1.length = p.1) then false
    else if !pl.1.isEmpty && !(decide (pl.1.length ≤ b.length) && decide (b.drop (b.length - pl.1.length) = pl.1)) then false
    else if b.length < p.1.length + pl.1.length then false
    else runW b (b.length - pl.1.length) ((if p.1.isEmpty then [[]] else []) ++ ps.map (·.1) ++ (if pl.1.isEmpty then [[]] else [])) p.1.length) := by
  unfold ematch
  rw [e]
  cases ps with
  | nil => rfl
  | cons q r =>
    have h1 : (q.1 :: (List.map (·.1) r ++ [pl.1])).getLast (by simp) = pl.1 := by
      rw [List.getLast_cons (by simp)]; simp
    have h2 : (q.1 :: (List.map (·.1) r ++ [pl.1])).dropLast = q.1 :: List.map (·.1) r := by
      rw [← List.cons_append, List.dropLast_concat]
    simp only [List.map_cons, List.cons_append]
    simp only [h1, h2]
theorem em_no1 {a b : List Nat} {p pl : List Nat × Tok} {ps : List (List Nat × Tok)} (e : splitD a = p.1 :: (ps.map (·.1) ++ [pl.1])) (h1 : p.1.isEmpty = false) (h2 : Txt.startswith (S b) (S p.1) = false) : false = ematch a b := by
  rw [ematch_split e, h1]
  rw [S_starts] at h2
  rw [h2]; rfl
theorem em_at1 {a b : List Nat} {p pl : List Nat × Tok} {ps qs : List (List Nat × Tok)} {SP : Int} (e : splitD a = p.1 :: (ps.map (·.1) ++ [pl.1])) (hq : qs = ps) (hs : SP = (p.1.length : Int)) (h1 : p.1.isEmpty = false) (h2 : Txt.startswith (S b) (S p.1) = true) : EmAt a b qs pl SP := by
  subst hq; subst hs
  rw [S_starts] at h2
  have h3 : b.take p.1.length = p.1 := by simpa using h2
  have h4 : p.1.length ≤ b.length := by have := congrArg List.length h3; simp at this; omega
  refine ⟨by omega, by omega, ?_⟩
  rw [ematch_split e, h1, h2]
  simp
theorem em_at0 {a b : List Nat} {p pl : List Nat × Tok} {ps qs : List (List Nat × Tok)} {SP : Int} (e : splitD a = p.1 :: (ps.map (·.1) ++ [pl.1])) (hq : qs = p :: ps) (hs : SP = 0) (h1 : p.1.isEmpty = true) : EmAt a b qs pl SP := by
  subst hq; subst hs
  have h3 : p.1 = [] := by simpa using h1
  refine ⟨by omega, by omega, ?_⟩
  rw [ematch_split e, List.map_cons, h3]
  simp
theorem em_no2 {a b : List Nat} {qs : List (List Nat × Tok)} {pl : List Nat × Tok} {SP : Int}
    (h : ematch a b = (if !pl.1.isEmpty && !(decide (pl.1.length ≤ b.length) && decide (b.drop (b.length - pl.1.length) = pl.1)) then false
    else if b.length < SP.toNat + pl.1.length then false
    else runW b (b.length - pl.1.length) (qs.map (·.1) ++ (if pl.1.isEmpty then [[]] else [])) SP.toNat)) (h1 : pl.1.isEmpty = false) (h2 : Txt.endswith (S b) (S pl.1) = false) : false = ematch a b := by
  rw [S_ends] at h2
  rw [h, h1, h2]; rfl
theorem em_le {b l : List Nat} (h : Txt.endswith (S b) (S l) = true) : l.length ≤ b.length := by
  rw [S_ends, Bool.and_eq_true] at h
  exact of_decide_eq_true h.1
theorem em_no3 {a b : List Nat} {qs : List (List Nat × Tok)} {pl : List Nat × Tok} {SP : Int}
    (h : ematch a b = (if !pl.1.isEmpty && !(decide (pl.1.length ≤ b.length) && decide (b.drop (b.length - pl.1.length) = pl.1)) then false
    else if b.length < SP.toNat + pl.1.length then false
    else runW b (b.length - pl.1.length) (qs.map (·.1) ++ (if pl.1.isEmpty then [[]] else [])) SP.toNat)) (h0 : 0 ≤ SP) (h1 : pl.1.isEmpty = false) (h2 : Txt.endswith (S b) (S pl.1) = true) (h3 : (b.length : Int) - (pl.1.length : Int) < SP) : false = ematch a b := by
  rw [S_ends] at h2
  rw [h, h1, h2, if_neg (by simp), if_pos (by omega)]
/-- at the loop -/
structure EmFor (a b : List Nat) (ws : List (List Nat × Tok)) (SP EP : Int) : Prop where
  s0 : 0 ≤ SP
  s1 : SP ≤ EP
  s2 : EP ≤ b.length
  eq : ematch a b = runW b EP.toNat (ws.map (·.1)) SP.toNat
theorem em_for0 {a b : List Nat} {qs : List (List Nat × Tok)} {pl : List Nat × Tok} {SP : Int}
    (h : ematch a b = (if !pl.1.isEmpty && !(decide (pl.1.length ≤ b.length) && decide (b.drop (b.length - pl.1.length) = pl.1)) then false
    else if b.length < SP.toNat + pl.1.length then false
    else runW b (b.length - pl.1.length) (qs.map (·.1) ++ (if pl.1.isEmpty then [[]] else [])) SP.toNat)) (h0 : 0 ≤ SP) (h1 : pl.1.isEmpty = true) (h3 : SP ≤ b.length) : EmFor a b (qs ++ [pl]) SP b.length := by
  refine ⟨h0, h3, Int.le_refl _, ?_⟩
  have e : pl.1 = [] := by simpa using h1
  rw [h, e, if_neg (by simp), if_neg (by simp; omega)]
  simp [e]
theorem em_for1 {a b : List Nat} {qs : List (List Nat × Tok)} {pl : List Nat × Tok} {SP : Int}
    (h : ematch a b = (if !pl.1.isEmpty && !(decide (pl.1.length ≤ b.length) && decide (b.drop (b.length - pl.1.length) = pl.1)) then false
    else if b.length < SP.toNat + pl.1.length then false
    else runW b (b.length - pl.1.length) (qs.map (·.1) ++ (if pl.1.isEmpty then [[]] else [])) SP.toNat)) (h0 : 0 ≤ SP) (h1 : pl.1.isEmpty = false) (h2 : Txt.endswith (S b) (S pl.1) = true) (h3 : ¬ (b.length : Int) - (pl.1.length : Int) < SP) : EmFor a b qs SP ((b.length : Int) - (pl.1.length : Int)) := by
  have hle := em_le h2
  refine ⟨h0, by omega, by omega, ?_⟩
  rw [S_ends] at h2
  rw [h, h1, h2, if_neg (by simp), if_neg (by omega)]
  rw [show ((b.length : Int) - (pl.1.length : Int)).toNat = b.length - pl.1.length by omega]
  simp
theorem w_for {prog : Program} {w : World} {A : Around} {E : Value → Shared → Prop} {Q : Flow → Shared → Prop} {s : Shared} {env : Env} {h₀ h : Heap} {L : Addr} {m : Str → Option Value} {x : Str} {px pos : Pos} {iter : Expr} {body : List Stmt} (_F : Fr h₀ L h m)
    (hx : env.kindOf x = some .local)
    (hp : (env.scope.kind == .class || (env.scope.kind == .module && env.locals != env.globals)) = false)
    (h : wpAny (model prog w) A (eval iter env) (fun xv s₁ => wpAny (model prog w) A (pyIter xv) (fun it s₂ => LoopAtV prog w A h₀ env x body Q E it s₂) E s₁) E s)
    (hs : ∀ x, foldedSetIterable iter env x = pure x := by intro _; rfl)
    (hE : PassesOwn (model prog w) A env E := by passes_own) :
    wpAny (model prog w) A (exec (.For (.Name x px) iter body [] pos) env) Q E s := For_invV h₀ hx hp h hs hE
theorem sv_snoc (qs : List (List Nat × Tok)) (pl : List Nat × Tok) : sv (qs ++ [pl]) = sv qs ++ [Value.str (S pl.1) pl.2] := by simp [sv]
theorem sv_get {ws : List (List Nat × Tok)} {i : Nat} {v : Value} (h : (sv ws)[i]? = some v) : ∃ p, ws[i]? = some p ∧ v = Value.str (S p.1) p.2 := by
  simp only [sv, List.getElem?_map, Option.map_eq_some_iff] at h
  obtain ⟨p, h1, h2⟩ := h
  exact ⟨p, h1, h2.symm⟩
theorem findAt_some {g w : List Nat} {lo hi k : Nat} (h : findAt g w lo hi = some k) : lo ≤ k ∧ k + w.length ≤ hi := by
  unfold findAt at h
  have h1 := List.find?_some h
  have h2 := List.mem_of_find?_eq_some h
  rw [List.mem_range'_1] at h2
  rw [Bool.and_eq_true] at h1
  exact ⟨by omega, of_decide_eq_true h1.1⟩
theorem drop_map_at {ws : List (List Nat × Tok)} {i : Nat} {w : List Nat} {wt : Tok} (h : ws[i]? = some (w, wt)) : (ws.map (·.1)).drop i = w :: (ws.map (·.1)).drop (i + 1) := by
  have hi : i < ws.length := by
    rcases Nat.lt_or_ge i ws.length with h1 | h1
    · exact h1
    · rw [List.getElem?_eq_none h1] at h; cases h
  rw [List.drop_eq_getElem_cons (by simpa using hi)]
  rw [List.getElem?_eq_getElem hi] at h
  simp [Option.some.inj h]
theorem em_none {a b : List Nat} {EP z : Int} {ws : List (List Nat × Tok)} {i : Nat} {w : List Nat} {wt : Tok} (g : ematch a b = runW b EP.toNat ((ws.map (·.1)).drop i) z.toNat) (h : ws[i]? = some (w, wt)) (hf : findAt b w z.toNat EP.toNat = none) : false = ematch a b := by
  rw [g, drop_map_at h, runW, hf]
theorem em_some {a b : List Nat} {EP z : Int} {ws : List (List Nat × Tok)} {i k : Nat} {w : List Nat} {wt : Tok} (g : ematch a b = runW b EP.toNat ((ws.map (·.1)).drop i) z.toNat) (h : ws[i]? = some (w, wt)) (hf : findAt b w z.toNat EP.toNat = some k) :
    ematch a b = runW b EP.toNat ((ws.map (·.1)).drop (i + 1)) ((k : Int) + (w.length : Int)).toNat := by
  rw [g, drop_map_at h, runW, hf]
  rw [show ((k : Int) + (w.length : Int)).toNat = k + w.length by omega]
theorem em_done {a b : List Nat} {EP z : Int} {ws : List (List Nat × Tok)} (g : ematch a b = runW b EP.toNat ((ws.map (·.1)).drop (sv ws).length) z.toNat) : true = ematch a b := by
  rw [g, sv_len, List.drop_eq_nil_of_le (by simp), runW]
/-- all that the loop asks of the frame -/
def EmPack (h₀ : Heap) (L : Addr) (h : Heap) (D : Addr) (news : List (Addr × Obj)) (a b : List Nat) (u : Tok) : Prop :=
  ∃ (ws : List (List Nat × Tok)) (EP : Int) (te ts : Tok) (n : Nat) (m : Str → Option Value), Fr h₀ L h m ∧ News h₀ L h ((D, listOf (sv ws).toArray n) :: news) ∧
    (∃ SP, EmFor a b ws SP EP ∧ m (Str.ofString "startpos") = some (.int SP ts)) ∧ m (Str.ofString "endpos") = some (.int EP te) ∧ m (Str.ofString "got") = some (.str (S b) u)
theorem ell_pack {h₀ : Heap} {L : Addr} {h : Heap} {D : Addr} {news : List (Addr × Obj)} {a b : List Nat} {u te ts : Tok} {ws : List (List Nat × Tok)} {SP EP : Int} {n : Nat} {m : Str → Option Value}
    (F : Fr h₀ L h m) (N : News h₀ L h ((D, listOf (sv ws).toArray n) :: news)) (e : EmFor a b ws SP EP) (h1 : m (Str.ofString "endpos") = some (.int EP te)) (h2 : m (Str.ofString "startpos") = some (.int SP ts)) (h3 : m (Str.ofString "got") = some (.str (S b) u)) :
    EmPack h₀ L h D news a b u := ⟨ws, EP, te, ts, n, m, F, N, ⟨SP, e, h2⟩, h1, h3⟩
theorem ell_uniq {D : Addr} {news : List (Addr × Obj)} {ol : Obj} (hap : ∀ q ∈ news, q.1 ≠ D) : ∀ (_ : Int × Tok) o, (D, o) ∈ (D, ol) :: news → o = ol := by
  intro _ o h
  rcases List.mem_cons.mp h with e | e
  · cases e; rfl
  · exact absurd rfl (hap _ e)
theorem split_S {prog : Program} {w : World} {A : Around} {E : Value → Shared → Prop} {s : Shared} {h₀ : Heap} {L : Addr} {m : Str → Option Value} {news : List (Addr × Obj)} {a : List Nat} {t u : Tok} {Q : Value → Shared → Prop}
    (F : Fr h₀ L s.heap m) (N : News h₀ L s.heap news) (hc : (Builtin.Str.occurrences (S a) (Str.ofString "...") 0 (S a).length 1).isEmpty = false) (ha : a.length ≤ 1000000)
    (h : ∀ p ps pl D h' k, splitD a = p.1 :: (ps.map (·.1) ++ [pl.1]) → (∀ x ∈ p :: (ps ++ [pl]), x.1.length ≤ a.length) → ps.length ≤ a.length → (∀ q ∈ news, q.1 ≠ D) → Fr h₀ L h' m → News h₀ L h' ((D, listOf (sv (p :: (ps ++ [pl]))).toArray 0) :: news) → Q (.ref D) { s with heap := h', toks := k }) :
    wpAny (model prog w) A (call (.builtin "str.split") [.str (S a) t, .str (Str.ofString "...") u]) Q E s := by
  refine splitN1 F N (by decide) (fun l h' k e F' N' => ?_) (by rw [S_len]; simp [sizeLine]; omega)
  obtain ⟨p, ps, pl, e1, e2, e3⟩ := told_split e hc
  rw [e1] at N'
  refine h p ps pl _ h' k e2 e3 ?_ (News.apart N) F' N'
  have := splitD_count a
  rw [e2] at this; simp at this; omega
theorem len_S {prog : Program} {w : World} {A : Around} {E : Value → Shared → Prop} {s : Shared} {l : List Nat} {t : Tok} {Q : Value → Shared → Prop} (hl : l.length ≤ 16777216) (h : ∀ tk tk', Q (.int (l.length : Int) tk) { s with toks := tk' }) : wpAny (model prog w) A (call (.builtin "len") [.str (S l) t]) Q E s :=
  len_str (by rw [S_len]; omega) (by rw [S_len]; exact h _ _)
local macro_rules | `(tactic| walk_at "truthy str") => `(tactic| (k_here; (with_reducible show wpAny _ _ (PySem.truthy (Value.str (S _) _)) _ _ _); (refine truthy_S (by omega) ?_); intro _))
local macro_rules | `(tactic| walk_at "call builtin:len") => `(tactic| (k_here; (with_reducible show wpAny _ _ (call (Value.builtin "len") [Value.ref _]) _ _ _); k_dflt (refine' kst_len ?k1 ?k2 ?k3 ?k4 ?_; (case k1 => k_asm); (case k2 => k_mem); (case k3 => (rw [sv_len, List.length_cons, List.length_append, List.length_singleton])); (case k4 => omega)); k_whole))
local macro_rules | `(tactic| walk_at "call builtin:len") => `(tactic| (k_here; (with_reducible show wpAny _ _ (call (Value.builtin "len") [Value.str (S _) _]) _ _ _); (refine len_S (by omega) ?_); intro _ _))
local macro_rules | `(tactic| walk_at "st") => `(tactic| first | (k_unfold; (try dsimp only)) | walk1 | (dsimp only; walk1) | (leave1; try dsimp only))
local macro_rules | `(tactic| walk_at "FPost") => `(tactic| (dsimp only [FPost]))
theorem ell_c (w : World) (mean : ExcName → Option Value) (mg mb : Str → Option Value) (news : List (Addr × Obj)) (a b : List Nat) (t u : Tok) :
    CbClaim PySem.Challenge.rw_pg0070_02.row.prog w (hd.heap_39 w.params) hd.view_39 (looseW hd.view_39 []) mean mg mb 53 news [] (a.length ≤ 1000 ∧ b.length ≤ 1000) [Value.str (S a) t, Value.str (S b) u] (fun t => Value.bool (ematch a b)) := by
  k_fill
  w_top off
  dsimp only [CbClaim, CbLists, CbRet]; intros; rename_i hp _ _ hret; obtain ⟨hx, hy⟩ := hp
  have hx2 : (S a).length ≤ 1000 := by rw [S_len]; exact hx
  have hy2 : (S b).length ≤ 1000 := by rw [S_len]; exact hy
  refine wpAny_call ?_
  k_dflt cell_enter
  repeat' ((fail_if_success (with_reducible show wpAny _ _ (call (Value.builtin "str.split") _) _ _ _));  walk_at "st")
  · refine cb_retB hret ?_ (by assumption) (by assumption)
    (rename List.isEmpty _ = true => hno)
    rw [show Str.ofString "..." = S dots from by decide, S_has] at hno
    rw [S_beq, ematch]
    obtain ⟨p0, ps0, e0⟩ := splitD_ne a
    rw [e0] at hno ⊢
    cases ps0 with
    | nil => rfl
    | cons _ _ => simp at hno
  refine split_S (by assumption) (by assumption) (by assumption) (by omega) ?_
  intro p ps pl D h8 k8 e2 e3 e4 hap F8 N8
  have hp1 := e3 p (List.mem_cons_self ..)
  have hp2 := e3 pl (by simp)
  repeat' ((fail_if_success (with_reducible show wpAny _ _ (subscriptTail _ _ (Value.ref _) _) _ _ _));  walk_at "st")
  (rename News _ _ _ _ => N9)
  replace N9 := cb_drop (news := (D, listOf (sv (p :: (ps ++ [pl]))).toArray 0) :: news) N9 (fun p hp => List.mem_cons_of_mem _ hp)
  refine item_at (led_isList N9 (List.mem_cons_self ..)) (by decide) (by decide) rfl ?_
  repeat' ((fail_if_success (with_reducible show wpAny _ _ (delItem _ _) _ _ _)); (fail_if_success (with_reducible show wpAny _ _ (subscriptTail _ _ (Value.ref _) _) _ _ _));  walk_at "st")
  rotate_left 2
  · exact cb_retB hret (em_no1 e2 (by assumption) (by assumption)) (by assumption) (cb_drop (by assumption) (fun _ h => List.mem_cons_of_mem _ h))
  rotate_left 1
  (rename News _ _ _ _ => N9)
  refine del_first (vs := sv (ps ++ [pl])) (by assumption) N9 hap (by rw [sv_len]; simp; omega) ?_
  clear N9
  intro h7 F7 N7
  repeat' ((fail_if_success (with_reducible show wpAny _ _ (subscriptTail _ _ (Value.ref _) _) _ _ _));  walk_at "st")
  (rename Fr _ _ _ _ => F9); (rename News _ _ _ _ => N9)
  obtain ⟨qs, hqs⟩ : ∃ qs, qs = ps := ⟨_, rfl⟩
  obtain ⟨SP, hSP⟩ : ∃ z : Int, z = (p.1.length : Int) := ⟨_, rfl⟩
  rw [← hqs] at N9
  rw [← hSP] at F9
  have hql : qs.length ≤ 1001 := by rw [hqs]; omega
  have e5 : EmAt a b qs pl SP := em_at1 e2 hqs hSP (by assumption) (by assumption)
  clear hqs hSP e2 e3 hp1
  rotate_left 1
  (rename Fr _ _ _ _ => F9); (rename News _ _ _ _ => N9)
  obtain ⟨qs, hqs⟩ : ∃ qs, qs = p :: ps := ⟨_, rfl⟩
  obtain ⟨SP, hSP⟩ : ∃ z : Int, z = 0 := ⟨_, rfl⟩
  rw [show sv (p :: (ps ++ [pl])) = sv (qs ++ [pl]) by rw [hqs]; rfl] at N9
  rw [show Value.int 0 = Value.int SP by rw [hSP]] at F9
  have hql : qs.length ≤ 1001 := by rw [hqs, List.length_cons]; omega
  have e5 : EmAt a b qs pl SP := em_at0 e2 hqs hSP (by assumption)
  clear hqs hSP e2 e3 hp1
  all_goals (
    obtain ⟨hs0, hs1, hem⟩ := e5
    have hil := led_isList N9 (List.mem_cons_self ..)
    rw [show sv (qs ++ [pl]) = sv qs ++ [Value.str (S pl.1) pl.2] from by simp [sv]] at hil N9
    refine item_last hil ?_
    clear hil
    repeat' ((fail_if_success (with_reducible show wpAny _ _ (pyIter _) _ _ _)); (fail_if_success (with_reducible show wpAny _ _ (delItem _ _) _ _ _)); walk_at "st"))
  all_goals first
    | exact cb_retB hret (em_no2 hem (by assumption) (by assumption)) (by assumption) (cb_drop (by assumption) (fun _ h => List.mem_cons_of_mem _ h))
    | ((with_reducible show wpAny _ _ (delItem _ _) _ _ _)
       (rename News _ _ _ _ => N9)
       refine del_last (by assumption) N9 hap (by rw [sv_len]; omega) ?_
       clear N9
       intro h6 F6 N6
       have hpl : pl.1.length ≤ b.length := em_le (by assumption)
       repeat' ((fail_if_success (with_reducible show wpAny _ _ (exec (Stmt.For _ _ _ _ _) _) _ _ _)); walk_at "st"))
    | skip
  all_goals first
    | exact cb_retB hret (em_no3 hem hs0 (by assumption) (by assumption) (by assumption)) (by assumption) (cb_drop (by assumption) (fun _ h => List.mem_cons_of_mem _ h))
    | skip
  all_goals (
    (rename Fr _ _ _ _ => F9); (rename News _ _ _ _ => N9)
    refine w_for F9 (by rfl) (by rfl) ?_
    walk1)
  all_goals (
    obtain ⟨ws, EP, te, ts, n9, m9, F8, N8, ⟨SP, e6, h2⟩, h1, h3⟩ : EmPack _ _ _ D news a b u := by
      first
        | exact ell_pack F9 (by rw [← sv_snoc] at N9; exact N9) (em_for0 hem hs0 (by assumption) hs1) rfl rfl rfl
        | exact ell_pack F9 N9 (em_for1 hem hs0 (by assumption) (by assumption) (by assumption)) rfl rfl rfl
    clear F9 N9 hem hs0 hs1
    obtain ⟨hs0, hs1, hs2, hem⟩ := e6
    refine f_list (σ := Int × Tok) (fun _ => (D, listOf (sv ws).toArray n9) :: news) (fun c => [(Str.ofString "startpos", Value.int c.1 c.2), (Str.ofString "got", Value.str (S b) u), (Str.ofString "endpos", Value.int EP te)])
      (fun i c => 0 ≤ c.1 ∧ c.1 ≤ EP ∧ ematch a b = runW b EP.toNat ((ws.map (·.1)).drop i) c.1.toNat) (_, ts) rfl rfl ⟨_, rfl⟩ (fun _ => List.mem_cons_self ..) (ell_uniq hap) F8 N8
      (List.forall_mem_cons.mpr ⟨h2, List.forall_mem_cons.mpr ⟨h3, List.forall_mem_cons.mpr ⟨h1, List.forall_mem_nil _⟩⟩⟩) ⟨hs0, hs1, hem⟩ ?_ ?_
    · rintro i v ⟨z, tz⟩ u9 h9 tk9 I oI hv ⟨g1, g2, g3⟩ hne F9 N9
      dsimp only at g1 g2 g3 F9
      obtain ⟨wt, hwt, rfl⟩ := sv_get hv
      obtain ⟨wd, wt⟩ := wt
      dsimp only at F9
      try k_fold
      repeat' ((fail_if_success (with_reducible show wpAny _ _ (call (Value.builtin "str.find") _) _ _ _)); walk_at "st")
      refine find4 g1 (by omega) hs2 ?_
      intro tk1 tk2
      cases hf : findAt b wd z.toNat EP.toNat with
      | none =>
        dsimp only
        repeat' (walk_at "st")
        exact cb_retB hret (em_none g3 hwt hf) (by assumption) (cb_drop (by assumption) (fun _ h => List.mem_cons_of_mem _ (List.mem_cons_of_mem _ h)))
      | some k =>
        have hk := findAt_some hf
        dsimp only
        repeat' (walk_at "st")
        (rename Fr _ _ _ _ => lF'); (rename News _ _ _ _ => lN')
        exact ⟨(_, _), _, _, _, rfl, lF', lN', hne, (List.forall_mem_cons.mpr ⟨rfl, List.forall_mem_cons.mpr ⟨rfl, List.forall_mem_cons.mpr ⟨rfl, List.forall_mem_nil _⟩⟩⟩), ⟨by dsimp only; omega, by dsimp only; omega, em_some g3 hwt hf⟩⟩
    · rintro ⟨z, tz⟩ u9 h9 tk9 ⟨g1, g2, g3⟩ F9 N9
      dsimp only at g1 g2 g3 F9
      try k_fold
      repeat' (walk_at "st")
      exact cb_retB hret (em_done g3) (by assumption) (cb_drop (by assumption) (fun _ h => List.mem_cons_of_mem _ h)))
end Mine
open PySem PySem.W PyProof.Rows
set_option Elab.async false
namespace Mine
/-- what a call of a def of the text comes to -/
def FnC (lv : Nat) (prog : Program) (w : World) (K : Frag) (p : Program) (loose : List Str) (mean : ExcName → Option Value) (mg mb : Str → Option Value) (f : Addr) (pre : Prop) (vs : List Value) (Post : Value → List (Addr × Obj) → Prop) : Prop :=
  ∀ (dp un : Nat) (gd : Option (List Code)) (cn : Str) (cs : Scope) (a : Addr) (ccd : Value) (cl : List (Str × Addr)) (outer : List Env) (A₀ : Around) (base h₀ : Heap) (L : Addr) (m : Str → Option Value) (news : List (Addr × Obj)) (s : Shared) (Q E : Value → Shared → Prop),
    Below A₀ base outer h₀ → Fr h₀ L s.heap m → K.In h₀ → News h₀ L s.heap news → Top p loose mean mg mb h₀ → cs.kind = .function → pre → dp + lv < recursionLimit → un + 10 * lv < cLine →
    (∀ v own h' tk', Post v own → (∀ p ∈ news, ∀ q ∈ own, p.1 ≠ q.1) → Fr h₀ L h' m → News h₀ L h' (own ++ news) → Q v { s with heap := h', toks := tk' }) →
    wpAny (model prog w) (ktrTop dp un gd cn cs L a ccd cl outer) (call (.ref f) vs) Q E s
section
variable {prog : Program} {w : World} {K : Frag} {p : Program} {loose : List Str} {mean : ExcName → Option Value} {mg mb : Str → Option Value} {f : Addr} {pre : Prop} {vs : List Value}
variable {dp un : Nat} {gd : Option (List Code)} {cn : Str} {cs : Scope} {a : Addr} {ccd : Value} {cl : List (Str × Addr)} {outer : List Env} {A₀ : Around} {base h₀ : Heap} {L : Addr} {m : Str → Option Value} {news : List (Addr × Obj)} {s : Shared} {Q E : Value → Shared → Prop}
theorem cb_use {R : Tok → Value} (C : CbClaim prog w K p loose mean mg mb f news [] pre vs R) (B : Below A₀ base outer h₀) (F : Fr h₀ L s.heap m) (X : K.In h₀) (N : News h₀ L s.heap news) (T : Top p loose mean mg mb h₀) (hk : cs.kind = .function) (hp : pre)
    (hd : dp + 1 < recursionLimit) (hu : un + 8 < cLine) (ret : CbRet h₀ L m news s Q R) : wpAny (model prog w) (ktrTop dp un gd cn cs L a ccd cl outer) (call (.ref f) vs) Q E s :=
  C dp un gd cn cs a ccd cl outer A₀ base h₀ L m s Q E B F X N T hk hp hd hu ret
theorem fn_use {lv : Nat} {Post : Value → List (Addr × Obj) → Prop} (C : FnC lv prog w K p loose mean mg mb f pre vs Post) (B : Below A₀ base outer h₀) (F : Fr h₀ L s.heap m) (X : K.In h₀) (N : News h₀ L s.heap news) (T : Top p loose mean mg mb h₀) (hk : cs.kind = .function) (hp : pre)
    (hd : dp + lv < recursionLimit) (hu : un + 10 * lv < cLine)
    (ret : ∀ v own h' tk', Post v own → (∀ p ∈ news, ∀ q ∈ own, p.1 ≠ q.1) → Fr h₀ L h' m → News h₀ L h' (own ++ news) → Q v { s with heap := h', toks := tk' }) : wpAny (model prog w) (ktrTop dp un gd cn cs L a ccd cl outer) (call (.ref f) vs) Q E s :=
  C dp un gd cn cs a ccd cl outer A₀ base h₀ L m news s Q E B F X N T hk hp hd hu ret
end
abbrev tupOf (vs : List Value) : Obj := { cls := .type "tuple", data := .seq vs.toArray }
end Mine
open PySem PySem.W PyProof.Rows
set_option Elab.async false
namespace Mine
theorem findAt_nil (g : List Nat) {lo hi : Nat} (h : lo ≤ hi) : findAt g [] lo hi = some lo := by
  unfold findAt
  rw [show hi + 1 - lo = (hi - lo) + 1 by omega, List.range'_succ, List.find?_cons]
  simp [h]
theorem runW_nil {g : List Nat} {ep sp : Nat} {ws : List (List Nat)} (h : sp ≤ ep) : runW g ep ([] :: ws) sp = runW g ep ws sp := by
  rw [runW, findAt_nil g h]; rfl
theorem runW_snoc {g : List Nat} {ep : Nat} : ∀ {ws : List (List Nat)} {sp : Nat}, sp ≤ ep → runW g ep (ws ++ [[]]) sp = runW g ep ws sp
  | [], sp, h => by rw [List.nil_append, runW_nil h]
  | w :: ws, sp, h => by
    rw [List.cons_append, runW, runW]
    cases hf : findAt g w sp ep with
    | none => rfl
    | some k => exact runW_snoc (findAt_some hf).2
theorem ematch_clean {a b p l : List Nat} {mid : List (List Nat)} (e : splitD a = p :: (mid ++ [l])) : ematch a b =
    (decide (b.take p.length = p) && decide (b.drop (b.length - l.length) = l) && decide (p.length + l.length ≤ b.length) && runW b (b.length - l.length) mid p.length) := by
  have e' : splitD a = (p, 0).1 :: ((mid.map fun x => (x, 0)).map (·.1) ++ [(l, (0 : Tok)).1]) := by rw [e]; simp [List.map_map, Function.comp_def]
  rw [ematch_split (p := (p, (0 : Tok))) (pl := (l, 0)) e']
  have hm : (mid.map fun x => (x, (0 : Tok))).map (·.1) = mid := by simp [List.map_map, Function.comp_def]
  simp only [hm]
  by_cases h1 : b.take p.length = p
  · by_cases h2 : b.drop (b.length - l.length) = l
    · by_cases h3 : p.length + l.length ≤ b.length
      · rw [if_neg (by simp [h1]), if_neg (by simp [h2]; omega), if_neg (by omega)]
        simp only [h1, h2, h3, decide_true, Bool.true_and, Bool.and_true]
        have hsp : p.length ≤ b.length - l.length := by omega
        cases hp : p.isEmpty with
        | true =>
          have hp' : p = [] := by simpa using hp
          subst hp'
          simp only [if_true, List.singleton_append, List.cons_append, List.nil_append]
          rw [runW_nil hsp]
          cases hl : l.isEmpty with
          | true => rw [if_pos rfl, runW_snoc hsp]
          | false => rw [if_neg (by simp), List.append_nil]
        | false =>
          simp only [Bool.false_eq_true, if_false, List.nil_append]
          cases hl : l.isEmpty with
          | true => rw [if_pos rfl, runW_snoc hsp]
          | false => rw [if_neg (by simp), List.append_nil]
      · rw [if_neg (by simp [h1])]
        simp only [h3, decide_false, Bool.and_false, Bool.false_and]
        split
        · rfl
        · rw [if_pos (by omega)]
    · rw [if_neg (by simp [h1])]
      simp only [h2, decide_false, Bool.and_false, Bool.false_and]
      have hl : l.isEmpty = false := by
        cases l with
        | nil => exfalso; apply h2; simp
        | cons _ _ => rfl
      rw [if_pos (by simp [hl])]
  · have hp : p.isEmpty = false := by
      cases p with
      | nil => exfalso; apply h1; simp
      | cons _ _ => rfl
    rw [if_pos (by simp [hp, h1])]
    simp only [h1, decide_false, Bool.false_and]
theorem splitD_free {l : List Nat} (h : ∀ c ∈ l, c ≠ 46) : splitD l = [l] := by
  induction l with
  | nil => rw [splitD]
  | cons c r ih =>
    have := ih (fun c hc => h c (List.mem_cons_of_mem _ hc))
    exact splitD_step (fun q => h c (List.mem_cons_self ..) (by cases r with
      | nil => simp [dots] at q
      | cons d r => simp [dots] at q; exact q.1)) this
theorem splitD_app {l r : List Nat} (h : ∀ c ∈ l, c ≠ 46) : splitD (l ++ 46 :: 46 :: 46 :: r) = l :: splitD r := by
  induction l with
  | nil => rw [List.nil_append, splitD_dots]
  | cons c l ih =>
    have := ih (fun c hc => h c (List.mem_cons_of_mem _ hc))
    exact splitD_step (fun q => h c (List.mem_cons_self ..) (by
      have := congrArg (fun z : List Nat => z.head?) q
      simpa [dots] using this)) this
end Mine
open PySem PySem.W PyProof.Rows
set_option Elab.async false
namespace Mine
set_option maxRecDepth 100000
set_option maxHeartbeats 8000000
def rep (k : Nat) : List Nat := List.replicate k 34
theorem lit_head : Str.ofString "257 \"" = S head5 := by decide
theorem lit_z : Str.ofString "z" = S [122] := by decide
theorem lit_dz : Str.ofString "...z" = S [46, 46, 46, 122] := by decide
theorem lit_dots : Str.ofString "..." = S dots := by decide
theorem lit_nil : Str.ofString "" = S [] := by decide
theorem lit_mark : Str.ofString "\"" = S [34] := by decide
theorem rep_len (k : Nat) : (rep k).length = k := by simp [rep]
theorem head5_len : head5.length = 5 := rfl
theorem add_X {prog : Program} {w : World} {A : Around} {E : Value → Shared → Prop} {s : Shared} {x y : Str} {l l' : List Nat} {t u : Tok} {Q : Value → Shared → Prop} (hx : x = S l) (hy : y = S l') (hsz : l.length + l'.length ≤ 16777216)
    (h : ∀ t' tk, Q (.str (S (l ++ l')) t') { s with toks := tk }) : wpAny (model prog w) A (binaryOp .Add (.str x t) (.str y u)) Q E s := by
  subst hx; subst hy; exact add_S hsz h
theorem rep_succ (k : Nat) : rep (k + 1) = 34 :: rep k := rfl
theorem unq_rep : ∀ k : Nat, unq (rep k) = rep (k / 2)
  | 0 => by simp [rep, unq]
  | 1 => by simp [rep, unq]
  | k + 2 => by
    rw [rep_succ, rep_succ, unq.eq_def]
    simp only [if_true]
    rw [unq_rep k, show (k + 2) / 2 = k / 2 + 1 by omega, rep_succ]
theorem unq_repz : ∀ k : Nat, unq (rep k ++ [122]) = rep (k / 2) ++ (if k % 2 = 0 then [122] else [])
  | 0 => by simp [rep, unq]
  | 1 => by simp [rep, unq]
  | k + 2 => by
    rw [rep_succ, rep_succ, List.cons_append, List.cons_append, unq.eq_def]
    simp only [if_true]
    rw [unq_repz k, show (k + 2) / 2 = k / 2 + 1 by omega, show (k + 2) % 2 = k % 2 by omega, rep_succ, List.cons_append]
theorem rep_free {k : Nat} : ∀ c ∈ rep k, c ≠ 46 := by
  intro c hc; rw [rep, List.mem_replicate] at hc; omega
theorem em_even (h : Nat) : ematch (rep h ++ [46, 46, 46, 122]) (rep h ++ [122]) = true := by
  rw [ematch_clean (p := rep h) (l := [122]) (mid := []) (by rw [splitD_app rep_free, splitD_free (by simp)]; rfl)]
  simp [rep_len, runW]
theorem em_odd (h : Nat) : ematch (rep h ++ [46, 46, 46, 122]) (rep h) = false := by
  rw [ematch_clean (p := rep h) (l := [122]) (mid := []) (by rw [splitD_app rep_free, splitD_free (by simp)]; rfl)]
  have : ¬ (rep h).length + [122].length ≤ (rep h).length := by simp
  rw [decide_eq_false this]; simp
theorem em_told (k : Nat) : ematch (rep (k / 2) ++ [46, 46, 46, 122]) (rep (k / 2) ++ (if k % 2 = 0 then [122] else [])) = decide (k % 2 = 0) := by
  by_cases h : k % 2 = 0
  · simp only [h, if_true, em_even, decide_true]
  · simp only [h, if_false, List.append_nil, em_odd, decide_false]
section
variable {h₀ : Heap} {L D : Addr} {m : Str → Option Value} {news : List (Addr × Obj)} {s : Shared} {Q : Value → Shared → Prop} {Post : Value → List (Addr × Obj) → Prop} {o : Obj} {x : Addr × Obj} {h' : Heap} {tk : Nat}
theorem tup_ret (ret : ∀ v own h' tk', Post v own → (∀ p ∈ news, ∀ q ∈ own, p.1 ≠ q.1) → Fr h₀ L h' m → News h₀ L h' (own ++ news) → Q v { s with heap := h', toks := tk' })
    (hP : Post (.ref D) [(D, o)]) (hl : AllLt D news) (F : Fr h₀ L h' m) (N : News h₀ L h' ((D, o) :: x :: news)) : Q (.ref D) { s with heap := h', toks := tk } :=
  ret _ _ _ _ hP (fun p hp q hq => by rw [List.mem_singleton.mp hq]; exact Nat.ne_of_lt (ktn_ltOf hl p hp)) F
    (fun p hp => N p (by
      rcases List.mem_cons.mp hp with rfl | hp
      · exact List.mem_cons_self ..
      · exact List.mem_cons_of_mem _ (List.mem_cons_of_mem _ hp)))
end
local macro_rules | `(tactic| walk_at "binaryOp Add str str") => `(tactic| (k_here; (with_reducible show wpAny _ _ (binaryOp Operator.Add (Value.str _ _) (Value.str _ _)) _ _ _); (refine add_X (by first | exact lit_head | exact lit_z | exact lit_dz | exact rfl) (by first | exact lit_head | exact lit_z | exact lit_dz | exact rfl) (by simp only [List.length_append, rep_len, head5_len, List.length_cons, List.length_nil]; omega) ?_); intro _ _))
local macro_rules | `(tactic| walk_at "st") => `(tactic| first | (k_unfold; (try dsimp only)) | walk1 | (dsimp only; walk1) | (leave1; try dsimp only))
theorem halved_c (w : World) (mean : ExcName → Option Value) (mg mb : Str → Option Value) (k : Nat) (t : Tok) :
    FnC 5 PySem.Challenge.rw_pg0070_02.row.prog w (hd.heap_39 w.params) hd.view_39 (looseW hd.view_39 []) mean mg mb 60 (k ≤ 900) [Value.str (S (rep k)) t]
      (fun v own => ∃ D t1 t2, v = .ref D ∧ own = [(D, tupOf [Value.str (S (rep (k / 2))) t1, Value.int (k % 2 : Nat) t2])]) := by
  k_fill
  w_top off
  unfold FnC
  intro dp un gd cn cs a ccd cl outer A₀ base h₀ L m news s Q E B F X N T hk hp hd1 hu ret
  refine wpAny_call ?_
  k_dflt cell_enter
  repeat' ((fail_if_success (with_reducible show wpAny _ _ (call (Value.ref _) _) _ _ _)); walk_at "st")
  k_dflt (refine cb_use (parse_c w mean mg mb _ (rep k) _) (by assumption) (by assumption) (by assumption) (by assumption) (by assumption) rfl (by rw [rep_len]; omega) (by show _ + 1 < _; dsimp only; omega) (by dsimp only; omega) ?_)
  intro t1 h1 tk1 F1 N1
  rw [unq_rep]
  repeat' ((fail_if_success (with_reducible show wpAny _ _ (call (Value.ref _) _) _ _ _)); walk_at "st")
  rw [List.append_assoc]
  k_dflt (refine cb_use (parse_c w mean mg mb _ (rep k ++ [122]) _) (by assumption) (by assumption) (by assumption) (by assumption) (by assumption) rfl (by simp only [List.length_append, rep_len, List.length_cons, List.length_nil]; omega) (by dsimp only; omega) (by dsimp only; omega) ?_)
  intro t2 h2 tk2 F2 N2
  rw [unq_repz]
  generalize htold : rep (k / 2) ++ (if k % 2 = 0 then [122] else []) = told
  have htl : told.length ≤ 900 := by rw [← htold]; split <;> simp only [List.length_append, rep_len, List.length_cons, List.length_nil] <;> omega
  repeat' ((fail_if_success (with_reducible show wpAny _ _ (call (Value.ref _) _) _ _ _)); walk_at "st")
  k_dflt (refine cb_use (ell_c w mean mg mb _ (rep (k / 2) ++ [46, 46, 46, 122]) told _ _) (by assumption) (by assumption) (by assumption) (by assumption) (by assumption) rfl (by simp only [List.length_append, rep_len, List.length_cons, List.length_nil]; omega) (by dsimp only; omega) (by dsimp only; omega) ?_)
  intro t3 h3 tk3 F3 N3
  have hem := em_told k
  rw [htold] at hem
  rw [hem]
  repeat' (walk_at "st")
  · (rename _ < _ ∧ AllLt _ _ => hlt); (rename News h₀ L _ _ => kN)
    refine tup_ret ret ?_ hlt.2 (by assumption) kN
    rw [show k % 2 = 0 by omega]
    exact ⟨_, _, _, rfl, rfl⟩
  · (rename _ < _ ∧ AllLt _ _ => hlt); (rename News h₀ L _ _ => kN)
    refine tup_ret ret ?_ hlt.2 (by assumption) kN
    rw [show k % 2 = 1 by omega]
    exact ⟨_, _, _, rfl, rfl⟩
end Mine
open PySem PySem.W PyProof.Rows
set_option Elab.async false
namespace Mine
set_option maxRecDepth 100000
set_option maxHeartbeats 8000000
local macro_rules | `(tactic| walk_at "st") => `(tactic| first | (k_unfold; (try dsimp only)) | walk1 | (dsimp only; walk1) | (leave1; try dsimp only))
def wr (x y : Nat) : Nat → Nat → List Nat → List Nat
  | 0, _, acc => acc
  | n + 1, k, acc => if k = 0 then wr x y n k acc else wr x y n (k / 2) ((if k % 2 = 0 then x else y) :: acc)
theorem rep_nil {k : Nat} (h : (rep k).isEmpty = true) : k = 0 := by
  cases k with
  | zero => rfl
  | succ k => rw [rep_succ] at h; cases h
theorem rep_pos {k : Nat} (h : (rep k).isEmpty = false) : k ≠ 0 := by
  rintro rfl; cases h
theorem wr_zero {x y i k : Nat} {acc r : List Nat} (hi : i < 6) (hk : k = 0) (h : wr x y (6 - i) k acc = r) : wr x y (6 - (i + 1)) k acc = r := by
  rw [show 6 - i = (6 - (i + 1)) + 1 by omega, wr, if_pos hk] at h; exact h
theorem wr_step {x y i k c : Nat} {acc r : List Nat} (hi : i < 6) (hk : k ≠ 0) (hc : [x, y][(((k % 2 : Nat) : Int)).toNat]? = some c) (h : wr x y (6 - i) k acc = r) : wr x y (6 - (i + 1)) (k / 2) (c :: acc) = r := by
  rw [show 6 - i = (6 - (i + 1)) + 1 by omega, wr, if_neg hk] at h
  have : c = if k % 2 = 0 then x else y := by
    rcases Nat.mod_two_eq_zero_or_one k with e | e
    · rw [e] at hc ⊢; simpa using hc.symm
    · rw [e] at hc ⊢; simpa using hc.symm
  rw [this]; exact h
local macro_rules | `(tactic| walk_at "truthy str") => `(tactic| (k_here; (with_reducible show wpAny _ _ (PySem.truthy (Value.str (S _) _)) _ _ _); (refine truthy_S (by omega) ?_); intro _))
local macro_rules | `(tactic| walk_at "FPost") => `(tactic| (dsimp only [FPost]))
local macro_rules | `(tactic| walk_at "subscriptTail Name Name str int") => `(tactic| (k_here; (with_reducible show wpAny _ _ (subscriptTail _ _ (Value.str (S _) _) (Value.int _ _)) _ _ _); (refine item_S (by omega) (by simp only [List.length_cons, List.length_nil]; omega) (by simp only [List.length_cons, List.length_nil]; omega) ?_); intro c9 _ _ hc9))
local macro_rules | `(tactic| walk_at "binaryOp Add str str") => `(tactic| (k_here; (with_reducible show wpAny _ _ (binaryOp Operator.Add (Value.str _ _) (Value.str _ _)) _ _ _); (refine add_X (by first | exact lit_head | exact lit_z | exact lit_dz | exact rfl) (by first | exact lit_head | exact lit_z | exact lit_dz | exact rfl) (by simp only [List.length_append, rep_len, head5_len, List.length_cons, List.length_nil]; omega) ?_); intro _ _))
theorem writing_c (w : World) (mean : ExcName → Option Value) (mg mb : Str → Option Value) (k x y : Nat) (t u : Tok) :
    FnC 10 PySem.Challenge.rw_pg0070_02.row.prog w (hd.heap_39 w.params) hd.view_39 (looseW hd.view_39 []) mean mg mb 67 (k ≤ 900) [Value.str (S (rep k)) t, Value.str (S [x, y]) u]
      (fun v own => own = [] ∧ ∃ t1, v = .str (S (wr x y 6 k [])) t1) := by
  k_fill
  w_top off
  unfold FnC
  intro dp un gd cn cs a ccd cl outer A₀ base h₀ L m news s Q E B F X N T hk hp hd1 hu ret
  refine wpAny_call ?_
  k_dflt cell_enter
  repeat' ((fail_if_success (with_reducible show wpAny _ _ (exec (Stmt.For _ _ _ _ _) _) _ _ _)); walk_at "st")
  (rename Fr _ _ _ _ => F9); (rename News _ _ _ _ => N9)
  refine w_for F9 (by rfl) (by rfl) ?_

  repeat' ((fail_if_success (with_reducible show wpAny _ _ (pyIter _) _ _ _)); walk_at "st")
  (rename Fr _ _ _ _ => F8); (rename News _ _ _ _ => N8)
  refine f_range (n := 6) (σ := Nat × List Nat × Tok × Tok) (fun _ => news) (fun c => [(Str.ofString "row", Value.str (S (rep c.1)) c.2.2.1), (Str.ofString "word", Value.str (S c.2.1) c.2.2.2), (Str.ofString "signs", Value.str (S [x, y]) u)])
    (fun i c => c.1 ≤ 900 ∧ c.2.1.length ≤ i ∧ wr x y (6 - i) c.1 c.2.1 = wr x y 6 k []) (k, [], _, _) rfl (by assumption) (by decide) (by decide) F8 N8 (List.forall_mem_cons.mpr ⟨rfl, List.forall_mem_cons.mpr ⟨rfl, List.forall_mem_cons.mpr ⟨rfl, List.forall_mem_nil _⟩⟩⟩) ⟨hp, by simp, rfl⟩ ?_ ?_
  · rintro i t9 ⟨k', acc, tr, tw⟩ u9 h9 tk9 I oI hi ⟨g1, g2, g3⟩ hne F9 N9
    dsimp only at g1 g2 g3 F9
    have hrl := rep_len k'
    try k_fold
    repeat' ((fail_if_success (with_reducible show wpAny _ _ (call (Value.ref _) _) _ _ _)); walk_at "st")
    · exact ⟨(k', acc, _, _), _, _, _, rfl, F9, N9, hne, (List.forall_mem_cons.mpr ⟨rfl, List.forall_mem_cons.mpr ⟨rfl, List.forall_mem_cons.mpr ⟨rfl, List.forall_mem_nil _⟩⟩⟩), ⟨g1, by dsimp only; omega, wr_zero hi (rep_nil (by assumption)) g3⟩⟩
    · k_dflt (refine fn_use (halved_c w mean mg mb k' _) (by assumption) (by assumption) (by assumption) (by assumption) (by assumption) rfl g1 (by dsimp only; omega) (by dsimp only; omega) ?_)
      rintro v own h7 tk7 ⟨D, t1, t2, rfl, rfl⟩ hD F7 N7
      rw [List.singleton_append] at N7
      have hm2 : k' % 2 < 2 := Nat.mod_lt _ (by decide)
      repeat' (walk_at "st")
      (rename Fr _ _ _ _ => F6); (rename News _ _ _ _ => N6)
      exact ⟨(k' / 2, _ :: acc, _, _), _, _, _, rfl, F6, cb_drop N6 (fun _ h => List.mem_cons_of_mem _ h), hne, (List.forall_mem_cons.mpr ⟨rfl, List.forall_mem_cons.mpr ⟨rfl, List.forall_mem_cons.mpr ⟨rfl, List.forall_mem_nil _⟩⟩⟩), ⟨by dsimp only; omega, by simp only [List.length_cons]; omega, wr_step hi (rep_pos (by assumption)) (by assumption) g3⟩⟩
  · rintro ⟨k', acc, tr, tw⟩ u9 h9 tk9 ⟨g1, g2, g3⟩ F9 N9
    dsimp only at g1 g2 g3 F9
    try k_fold
    repeat' (walk_at "st")
    exact ret _ [] _ _ ⟨rfl, _, by rw [← g3]; rfl⟩ (fun _ _ _ h => nomatch h) (by assumption) (by assumption)
end Mine
open PySem PySem.W PyProof.Rows
set_option Elab.async false
namespace Mine
set_option maxRecDepth 100000
set_option maxHeartbeats 8000000
local macro_rules | `(tactic| walk_at "st") => `(tactic| first | (k_unfold; (try dsimp only)) | walk1 | (dsimp only; walk1) | (leave1; try dsimp only))
local macro_rules | `(tactic| walk_at "FPost") => `(tactic| (dsimp only [FPost]))
def frs (n : Int) (c : Int × Int) (p : Nat) : Int × Int := if (n.fdiv (2 ^ p)).fmod 2 = 0 then (c.1, c.2 + c.1) else (c.1 + c.2, c.2)
def frac (n : Int) : Int × Int := [5, 4, 3, 2, 1, 0].foldl (frs n) (0, 1)
theorem frs_take {i : Nat} {n : Int} (hi : i < 6) : (([5, 4, 3, 2, 1, 0] : List Nat).take (i + 1)).foldl (frs n) (0, 1) = frs n ((([5, 4, 3, 2, 1, 0] : List Nat).take i).foldl (frs n) (0, 1)) (5 - i) := by
  obtain rfl | rfl | rfl | rfl | rfl | rfl : i = 0 ∨ i = 1 ∨ i = 2 ∨ i = 3 ∨ i = 4 ∨ i = 5 := by omega
  all_goals rfl
theorem frs_one {i : Nat} {n z1 z2 : Int} (hi : i < 6) (g : (z1, z2) = (([5, 4, 3, 2, 1, 0] : List Nat).take i).foldl (frs n) (0, 1)) (h : (n.fdiv (2 ^ Int.toNat (5 + (i : Int) * -1))).fmod 2 ≠ 0) :
    (z1 + z2, z2) = (([5, 4, 3, 2, 1, 0] : List Nat).take (i + 1)).foldl (frs n) (0, 1) := by
  rw [frs_take hi, ← g, frs, if_neg]
  rw [show Int.toNat (5 + (i : Int) * -1) = 5 - i by omega] at h
  exact h
theorem frs_zero {i : Nat} {n z1 z2 : Int} (hi : i < 6) (g : (z1, z2) = (([5, 4, 3, 2, 1, 0] : List Nat).take i).foldl (frs n) (0, 1)) (h : (n.fdiv (2 ^ Int.toNat (5 + (i : Int) * -1))).fmod 2 = 0) :
    (z1, z2 + z1) = (([5, 4, 3, 2, 1, 0] : List Nat).take (i + 1)).foldl (frs n) (0, 1) := by
  rw [frs_take hi, ← g, frs, if_pos]
  rw [show Int.toNat (5 + (i : Int) * -1) = 5 - i by omega] at h
  exact h
theorem fraction_c (w : World) (mean : ExcName → Option Value) (mg mb : Str → Option Value) (n : Int) (t : Tok) :
    FnC 5 PySem.Challenge.rw_pg0070_02.row.prog w (hd.heap_39 w.params) hd.view_39 (looseW hd.view_39 []) mean mg mb 88 (0 ≤ n ∧ n < 64) [Value.int n t]
      (fun v own => ∃ D t1 t2, v = .ref D ∧ own = [(D, tupOf [Value.int (frac n).1 t1, Value.int (frac n).2 t2])]) := by
  k_fill
  w_top off
  unfold FnC
  intro dp un gd cn cs a ccd cl outer A₀ base h₀ L m news s Q E B F X N T hk hp hd1 hu ret
  obtain ⟨hn0, hn1⟩ := hp
  refine wpAny_call ?_
  k_dflt cell_enter
  repeat' ((fail_if_success (with_reducible show wpAny _ _ (exec (Stmt.For _ _ _ _ _) _) _ _ _)); walk_at "st")
  (rename Fr _ _ _ _ => F9); (rename News _ _ _ _ => N9)
  replace N9 := cb_drop (news := news) N9 (fun p hp => List.mem_cons_of_mem _ hp)
  refine w_for F9 (by rfl) (by rfl) ?_
  repeat' ((fail_if_success (with_reducible show wpAny _ _ (pyIter _) _ _ _)); walk_at "st")
  (rename Fr _ _ _ _ => F8); (rename News _ _ _ _ => N8)
  refine f_range (n := 6) (σ := Int × Int × Tok × Tok) (fun _ => news) (fun c => [(Str.ofString "upper", Value.int c.1 c.2.2.1), (Str.ofString "lower", Value.int c.2.1 c.2.2.2), (Str.ofString "number", Value.int n t)])
    (fun i c => (c.1, c.2.1) = ([5, 4, 3, 2, 1, 0].take i).foldl (frs n) (0, 1)) (0, 1, _, _) rfl (by assumption) (by decide) (by decide) F8 N8 (List.forall_mem_cons.mpr ⟨rfl, List.forall_mem_cons.mpr ⟨rfl, List.forall_mem_cons.mpr ⟨rfl, List.forall_mem_nil _⟩⟩⟩) rfl ?_ ?_
  · rintro i t9 ⟨z1, z2, tr, tw⟩ u9 h9 tk9 I oI hi g3 hne F9 N9
    dsimp only at g3 F9
    try k_fold
    repeat' (walk_at "st")
    · (rename Fr _ _ _ _ => F6); (rename News _ _ _ _ => N6)
      exact ⟨(_, _, _, _), _, _, _, rfl, F6, N6, hne, (List.forall_mem_cons.mpr ⟨rfl, List.forall_mem_cons.mpr ⟨rfl, List.forall_mem_cons.mpr ⟨rfl, List.forall_mem_nil _⟩⟩⟩), frs_one hi g3 (by assumption)⟩
    · (rename Fr _ _ _ _ => F6); (rename News _ _ _ _ => N6)
      exact ⟨(_, _, _, _), _, _, _, rfl, F6, N6, hne, (List.forall_mem_cons.mpr ⟨rfl, List.forall_mem_cons.mpr ⟨rfl, List.forall_mem_cons.mpr ⟨rfl, List.forall_mem_nil _⟩⟩⟩), frs_zero hi g3 (by assumption)⟩
  · rintro ⟨z1, z2, tr, tw⟩ u9 h9 tk9 g3 F9 N9
    dsimp only at g3 F9
    try k_fold
    repeat' (walk_at "st")
    (rename News h₀ L _ _ => kN)
    refine ret _ [(_, _)] _ _ ?_ ?_ (by assumption) kN
    · rw [show frac n = (z1, z2) from g3.symm]; exact ⟨_, _, _, rfl, rfl⟩
    · intro p hp q hq
      rw [List.mem_singleton.mp hq]
      exact Nat.ne_of_lt ((by assumption : ∀ p ∈ news, p.1 < _) p hp)
end Mine
open PySem PySem.W PyProof.Rows
set_option Elab.async false
namespace Mine
/-- the signs with sep between them -/
def jn (sep : List Nat) : List (List Nat) → List Nat
  | [] => []
  | [x] => x
  | x :: r => x ++ sep ++ jn sep r
theorem S_join (sep : List Nat) : ∀ ts : List (List Nat), Txt.join (S sep) (ts.map S) = S (jn sep ts) := by
  intro ts
  show Builtin.Str.glued (S sep) (ts.map S) = _
  rw [StrLaws.glued_eq_join]
  induction ts with
  | nil => rfl
  | cons x r ih =>
    cases r with
    | nil => rfl
    | cons y r =>
      show S x ++ S sep ++ Str.join (S sep) (List.map S (y :: r)) = _
      rw [ih, S_app, S_app]; rfl
theorem jn_len (sep : List Nat) (n : Nat) : ∀ ts : List (List Nat), (∀ x ∈ ts, x.length ≤ n) → (jn sep ts).length ≤ ts.length * (n + sep.length)
  | [], _ => by simp [jn]
  | [x], h => by have := h x (by simp); simp [jn]; omega
  | x :: y :: r, h => by
    have h1 := h x (by simp)
    have h2 := jn_len sep n (y :: r) (fun z hz => h z (List.mem_cons_of_mem _ hz))
    rw [jn, List.length_append, List.length_append, List.length_cons, Nat.add_mul]
    · omega
    · simp
open Builtin Builtin.Str in
theorem join_tree_str (sep x : Str) (t u : Tok) : «str.join» ⟨[.str sep t, .str x u], []⟩ = (do
    let ty ← typeOf (.str x u)
    if (ty == .type "list" || ty == .type "tuple") = true then (do
      match ← seqItems? (.str x u) with
      | some xs => joinTail sep xs.toList
      | none => unsupported "internal:str.join")
    else (do
      let it ← (pyIter (.str x u)).tryCatch fun e => do
        if ← isInstance e (.type "TypeError") then rule "str.join.not-iterable"; raiseError "TypeError" "can only join an iterable" else throw e
      let items ← collect it
      joinTail sep items)) := rfl
section
variable {prog : Program} {w : World} {A : Around} {E : Value → Shared → Prop} {s : Shared} {sep l : List Nat} {t u : Tok} {Q : Value → Shared → Prop}
theorem signs_items {x : List Nat} {acc : Array Value} (h : ItemsOf (SignAt (S x)) acc x.length) : ∃ q : List (Str × Tok), strValues q = acc.toList ∧ q.map (·.1) = x.map (fun c => S [c]) := by
  obtain ⟨q, hq⟩ := exists_strValues acc.toList fun v hv => by
    obtain ⟨j, hj, rfl⟩ := Array.mem_iff_getElem.mp (Array.mem_toList_iff.mp hv)
    obtain ⟨c, u, _, e⟩ := h.2 j _ (Array.getElem?_eq_getElem hj)
    exact ⟨_, _, e⟩
  refine ⟨q, hq, ?_⟩
  have hlen : q.length = x.length := by
    have := congrArg List.length hq
    simp [strValues] at this
    rw [this, h.1]
  apply List.ext_getElem?
  intro j
  rw [List.getElem?_map, List.getElem?_map]
  rcases Nat.lt_or_ge j q.length with hj | hj
  · have e1 : acc[j]? = some (Value.str q[j].1 q[j].2) := by
      have : acc.toList[j]? = some (Value.str q[j].1 q[j].2) := by
        rw [← hq]; simp [strValues, hj]
      simpa using this
    obtain ⟨c, u, h1, h2⟩ := h.2 j _ e1
    have h3 : x[j]? = some c := by simpa using h1
    rw [List.getElem?_eq_getElem hj, h3]
    have : q[j].1 = S [c] := by injection h2
    simp [this]
  · rw [List.getElem?_eq_none hj, List.getElem?_eq_none (by omega)]; rfl
theorem join_strS (hh : A.handled = none) (hl : l.length ≤ 1000) (hs : sep.length ≤ 1000)
    (hq : ∀ t' h' k, (∀ b o, s.heap.get? b = some o → h'.get? b = some o) → Q (.str (S (jn sep (l.map fun c => [c]))) t') { s with heap := h', toks := k }) :
    wpAny (model prog w) A (call (.builtin "str.join") [.str (S sep) t, .str (S l) u]) Q E s := by
  refine wpAny_call (codeAny_call_builtin F.slot_str_join.plain F.entry_str_join (F.slot_str_join.check _ _ _ _ _ _ _ _ (typeIs_str _ _ _) (F.args_str_join_2 _ _) ?_))
  rw [join_tree_str]
  refine wpAny_bind (wpAny_typeOf (typeIs_str _ _ _) ?_)
  show wpAny _ A.in1 ((pyIter (.str (S l) u)).tryCatch _ >>= fun it => collect it >>= fun items => joinTail (S sep) items) _ _ s
  have fin : ∀ (s' : Shared) (acc : Array Value) , (∀ b o, s.heap.get? b = some o → s'.heap.get? b = some o) → s'.gens = s.gens → s'.drawn = s.drawn → s'.os = s.os → ItemsOf (SignAt (S l)) acc (S l).cps.size →
      wpAny (model prog w) A.in1 (joinTail (S sep) acc.toList) (fun fin s' => match fin with | .done f => wants Q E (.ok f) s' | .again c' => c'.quiet = true ∧ codeAny (model prog w) A c' (wants Q E) s') (fun e s' => wants Q E (.error e) s') s' := by
    intro s' acc hk hg hd ho hacc
    rw [show (S l).cps.size = l.length from by simp] at hacc
    obtain ⟨q, hq1, hq2⟩ := signs_items hacc
    rw [← hq1]
    have e : Txt.join (S sep) (q.map (·.1)) = S (jn sep (l.map fun c => [c])) := by
      rw [hq2, ← S_join, List.map_map]; rfl
    have hok := StrLaws.joinFits (sep := S sep) (texts := q.map (·.1)) (B := 1) (by
        intro y hy; rw [hq2] at hy
        obtain ⟨c, _, rfl⟩ := List.mem_map.mp hy
        simp [Str.length]) (by
        rw [hq2, List.length_map, S_len]
        have : l.length * sep.length ≤ 1000 * 1000 := Nat.mul_le_mul hl hs
        omega)
    have g : Gives (joinTail (S sep) (strValues q)) (joinMade (S sep) q) := by
      have g0 := gives_joinTail (S sep) q hok
      cases q with
      | nil => exact g0
      | cons p r => cases r with
        | nil => exact g0
        | cons q r' => exact g0
    refine g prog w A (wants Q E) s' (post_join q ⟨joinFit_length hok, fun t' k => ?_⟩)
    rw [e]
    have := hq t' s'.heap k hk
    show Q _ _
    have es : ({ s' with toks := k } : Shared) = { s with heap := s'.heap, toks := k } := by rw [hg, hd, ho]
    rw [es]; exact this
  have hn : (S l).cps.size ≤ sizeLine := by simp [sizeLine]; omega
  cases ha : (S l).cps.all (· < 128)
  · refine wpAny_bind (wpAny_tryCatch (wpAny_pyIter_wide ha ?_))
    refine wpAny_bind (wpAny_collect_strIter (I := s.heap.objs.size) (x := S l) (t := u) hh (Or.inr rfl) ⟨_, Heap.get?_push_size _ rfl, rfl, rfl⟩ ?_ hn)
    intro s' acc hk hg hd ho hacc
    exact fin s' acc (fun b o e => hk b o (Nat.ne_of_lt (Heap.lt_size e)) (Heap.get?_push_of_some _ e)) hg hd ho hacc
  · refine wpAny_bind (wpAny_tryCatch (wpAny_pyIter_ascii ha ?_))
    refine wpAny_bind (wpAny_collect_strIter (I := s.heap.objs.size) (x := S l) (t := u) hh (Or.inl rfl) ⟨_, Heap.get?_push_size _ rfl, rfl, rfl⟩ ?_ hn)
    intro s' acc hk hg hd ho hacc
    exact fin s' acc (fun b o e => hk b o (Nat.ne_of_lt (Heap.lt_size e)) (Heap.get?_push_of_some _ e)) hg hd ho hacc
end
end Mine
open PySem PySem.W PyProof.Rows
set_option Elab.async false
namespace Mine
set_option maxRecDepth 100000
set_option maxHeartbeats 8000000
/-- the pattern that asks for a word's signs in their order -/
def pat (w : List Nat) : List Nat := dots ++ jn dots (w.map fun c => [c]) ++ dots
def wstep (x y : Nat) (wt : List Nat) (st : List (List Nat) × List (List Nat)) (i : Nat) : List (List Nat) × List (List Nat) := match st.2[i]? with
  | none => st
  | some w => if ematch (pat w) wt then (st.1 ++ [w], st.2 ++ [w ++ [x], w ++ [y]]) else st
def wwords (x y : Nat) (wt : List Nat) (n : Nat) : List (List Nat) × List (List Nat) := (List.range n).foldl (wstep x y wt) ([[]], [[y]])
theorem wwords_succ (x y : Nat) (wt : List Nat) (n : Nat) : wwords x y wt (n + 1) = wstep x y wt (wwords x y wt n) n := by
  unfold wwords; rw [List.range_succ, List.foldl_append]; rfl
section
variable {prog : Program} {w : World} {A : Around} {E : Value → Shared → Prop} {s : Shared} {h₀ : Heap} {L D I : Addr} {m : Str → Option Value} {news : List (Addr × Obj)} {oI o2 : Obj} {D2 : Addr} {q : List (List Nat × Tok)} {l : List Nat} {t : Tok} {n : Nat} {Q : Value → Shared → Prop}
theorem app2 (F : Fr h₀ L s.heap m) (N : News h₀ L s.heap ((I, oI) :: (D, listOf (sv q).toArray n) :: news)) (h1 : I ≠ D) (h2 : ∀ p ∈ news, p.1 ≠ D) (hsz : q.length ≤ 16000000)
    (h : ∀ h', Fr h₀ L h' m → News h₀ L h' ((I, oI) :: (D, listOf (sv (q ++ [(l, t)])).toArray (n + 1)) :: news) → Q .none { s with heap := h' }) :
    wpAny (model prog w) A (call (.builtin "list.append") [.ref D, .str (S l) t]) Q E s :=
  append_K F N (Upd.tail h1 (Upd.head h2)) (fun h' F' N' => h h' F' (by
    have e : (sv q).toArray.push (Value.str (S l) t) = (sv (q ++ [(l, t)])).toArray := by simp [sv]
    rw [e] at N'; exact N')) (by simp [sv_len, sizeLine]; omega)
theorem app3 (F : Fr h₀ L s.heap m) (N : News h₀ L s.heap ((I, oI) :: (D2, o2) :: (D, listOf (sv q).toArray n) :: news)) (h1 : I ≠ D) (h3 : D2 ≠ D) (h2 : ∀ p ∈ news, p.1 ≠ D) (hsz : q.length ≤ 16000000)
    (h : ∀ h', Fr h₀ L h' m → News h₀ L h' ((I, oI) :: (D2, o2) :: (D, listOf (sv (q ++ [(l, t)])).toArray (n + 1)) :: news) → Q .none { s with heap := h' }) :
    wpAny (model prog w) A (call (.builtin "list.append") [.ref D, .str (S l) t]) Q E s :=
  append_K F N (Upd.tail h1 (Upd.tail h3 (Upd.head h2))) (fun h' F' N' => h h' F' (by
    have e : (sv q).toArray.push (Value.str (S l) t) = (sv (q ++ [(l, t)])).toArray := by simp [sv]
    rw [e] at N'; exact N')) (by simp [sv_len, sizeLine]; omega)
theorem join_X {x y : Str} {sep l : List Nat} {t u : Tok} (F : Fr h₀ L s.heap m) (N : News h₀ L s.heap news) (hx : x = S sep) (hy : y = S l) (hh : A.handled = none) (hl : l.length ≤ 1000) (hs : sep.length ≤ 1000)
    (hq : ∀ t' h' k, Fr h₀ L h' m → News h₀ L h' news → Q (.str (S (jn sep (l.map fun c => [c]))) t') { s with heap := h', toks := k }) :
    wpAny (model prog w) A (call (.builtin "str.join") [.str x t, .str y u]) Q E s := by
  subst hx; subst hy
  exact join_strS hh hl hs fun t' h' k hk => hq t' h' k (F.keeps hk) (News.keepsAll N hk)
end
theorem wd_turn {x y c c' i : Nat} {wt wd : List Nat} {wtk t1 t2 : Tok} {qw ql : List (List Nat × Tok)} (g1 : (qw.map (·.1), ql.map (·.1)) = wwords x y wt i) (g2 : qw.length ≤ i + 1) (g3 : ql.length ≤ 2 * i + 1) (g4 : ∀ j p, ql[j]? = some p → p.1.length ≤ j + 1)
    (hwd : ql[i]? = some (wd, wtk)) (hem : ematch (pat wd) wt = true) (hc : [x, y][Int.toNat 0]? = some c) (hc' : [x, y][Int.toNat 1]? = some c') :
    ((qw ++ [(wd, wtk)]).map (·.1), (ql ++ [(wd ++ [c], t1)] ++ [(wd ++ [c'], t2)]).map (·.1)) = wwords x y wt (i + 1) ∧ (qw ++ [(wd, wtk)]).length ≤ i + 1 + 1 ∧ (ql ++ [(wd ++ [c], t1)] ++ [(wd ++ [c'], t2)]).length ≤ 2 * (i + 1) + 1 ∧
      ∀ j p, (ql ++ [(wd ++ [c], t1)] ++ [(wd ++ [c'], t2)])[j]? = some p → p.1.length ≤ j + 1 := by
  have e1 : c = x := by simpa using hc.symm
  have e2 : c' = y := by simpa using hc'.symm
  subst e1; subst e2
  have hi : i < ql.length := by
    rcases Nat.lt_or_ge i ql.length with h | h
    · exact h
    · rw [List.getElem?_eq_none h] at hwd; cases hwd
  have hl := g4 i _ hwd
  refine ⟨?_, by simp; omega, by simp; omega, ?_⟩
  · rw [wwords_succ, ← g1, wstep]
    dsimp only
    rw [List.getElem?_map, hwd]
    simp [hem]
  · intro j p hj
    rw [List.append_assoc] at hj
    rcases Nat.lt_or_ge j ql.length with h | h
    · rw [List.getElem?_append_left h] at hj; exact g4 j p hj
    · rw [List.getElem?_append_right h] at hj
      have hj2 : p = (wd ++ [c], t1) ∨ p = (wd ++ [c'], t2) := by
        have := List.mem_of_getElem? hj
        simpa using this
      dsimp only at hl
      rcases hj2 with rfl | rfl <;> simp <;> omega
/-- what the loop asks of the frame -/
def WdPack (h₀ : Heap) (L : Addr) (h : Heap) (news : List (Addr × Obj)) (x y : Nat) (wt : List Nat) (t u : Tok) : Prop :=
  ∃ (Dw Dl : Addr) (tw tl : Tok) (m : Str → Option Value), Fr h₀ L h m ∧ News h₀ L h ((Dl, listOf (sv [([y], tl)]).toArray 0) :: (Dw, listOf (sv [([], tw)]).toArray 0) :: news) ∧ Dl ≠ Dw ∧ (∀ p ∈ news, p.1 ≠ Dw) ∧ (∀ p ∈ news, p.1 ≠ Dl) ∧
    m (Str.ofString "words") = some (.ref Dw) ∧ m (Str.ofString "line") = some (.ref Dl) ∧ m (Str.ofString "signs") = some (.str (S [x, y]) u) ∧ m (Str.ofString "writing") = some (.str (S wt) t)
theorem wd_pack {h₀ : Heap} {L : Addr} {h : Heap} {news : List (Addr × Obj)} {x y c : Nat} {wt : List Nat} {t u : Tok} {Dw Dl D3 : Addr} {o3 : Obj} {tw tl : Tok} {m : Str → Option Value} (F : Fr h₀ L h m)
    (N : News h₀ L h ((D3, o3) :: (Dl, listOf #[Value.str (S [c]) tl] 0) :: (Dw, listOf #[Value.str (Str.ofString "") tw] 0) :: news)) (h1 : Dw < Dl ∧ AllLt Dl news) (h2 : ∀ p ∈ news, p.1 < Dw) (hc : [x, y][Int.toNat 1]? = some c)
    (e1 : m (Str.ofString "words") = some (.ref Dw)) (e2 : m (Str.ofString "line") = some (.ref Dl)) (e3 : m (Str.ofString "signs") = some (.str (S [x, y]) u)) (e4 : m (Str.ofString "writing") = some (.str (S wt) t)) : WdPack h₀ L h news x y wt t u := by
  have : c = y := by simpa using hc.symm
  subst this
  refine ⟨Dw, Dl, tw, tl, m, F, ?_, Nat.ne_of_gt h1.1, fun p hp => Nat.ne_of_lt (h2 p hp), fun p hp => Nat.ne_of_lt (ktn_ltOf h1.2 p hp), e1, e2, e3, e4⟩
  rw [lit_nil] at N
  exact cb_drop N (fun _ h => List.mem_cons_of_mem _ h)
local macro_rules | `(tactic| walk_at "st") => `(tactic| first | (k_unfold; (try dsimp only)) | walk1 | (dsimp only; walk1) | (leave1; try dsimp only))
local macro_rules | `(tactic| walk_at "FPost") => `(tactic| (dsimp only [FPost]))
local macro_rules | `(tactic| walk_at "subscriptTail Name Constant str int") => `(tactic| (k_here; (with_reducible show wpAny _ _ (subscriptTail _ _ (Value.str (S _) _) (Value.int _ _)) _ _ _); (refine item_S (by omega) (by simp only [List.length_cons, List.length_nil]; omega) (by simp only [List.length_cons, List.length_nil]; omega) ?_); intro c9 _ _ hc9))
local macro_rules | `(tactic| walk_at "call builtin:len") => `(tactic| (k_here; (with_reducible show wpAny _ _ (call (Value.builtin "len") [Value.ref _]) _ _ _); k_dflt (refine' kst_len ?k1 ?k2 ?k3 ?k4 ?_; (case k1 => k_asm); (case k2 => k_mem); (case k3 => (rw [sv_len])); (case k4 => omega)); k_whole))
local macro_rules | `(tactic| walk_at "call builtin:str.join") => `(tactic| (k_here; (with_reducible show wpAny _ _ (call (Value.builtin "str.join") [Value.str _ _, Value.str _ _]) _ _ _); (rename Fr _ _ _ _ => F'); (rename News _ _ _ _ => N'); (refine join_X F' N' lit_dots rfl rfl (by omega) (by decide) ?_); intro t' h' k' F'' N''; clear F' N'))
local macro_rules | `(tactic| walk_at "binaryOp Add str str") => `(tactic| (k_here; (with_reducible show wpAny _ _ (binaryOp Operator.Add (Value.str _ _) (Value.str _ _)) _ _ _); (refine add_X (by first | exact lit_dots | exact rfl) (by first | exact lit_dots | exact rfl) (by simp only [List.length_append, show dots.length = 3 from rfl, List.length_cons, List.length_nil]; omega) ?_); intro _ _))
theorem words_c (w : World) (mean : ExcName → Option Value) (mg mb : Str → Option Value) (wt : List Nat) (x y : Nat) (t u : Tok) :
    FnC 10 PySem.Challenge.rw_pg0070_02.row.prog w (hd.heap_39 w.params) hd.view_39 (looseW hd.view_39 []) mean mg mb 74 (wt.length ≤ 10) [Value.str (S wt) t, Value.str (S [x, y]) u]
      (fun v own => ∃ D q n, v = .ref D ∧ own = [(D, listOf (sv q).toArray n)] ∧ q.map (·.1) = (wwords x y wt 64).1 ∧ q.length ≤ 100) := by
  k_fill
  w_top off
  unfold FnC
  intro dp un gd cn cs a ccd cl outer A₀ base h₀ L m news s Q E B F X N T hk hp hd1 hu ret
  refine wpAny_call ?_
  k_dflt cell_enter
  repeat' ((fail_if_success (with_reducible show wpAny _ _ (exec (Stmt.For _ _ _ _ _) _) _ _ _)); walk_at "st")
  (rename Fr _ _ _ _ => F9); (rename News _ _ _ _ => N9)
  refine w_for F9 (by rfl) (by rfl) ?_
  repeat' ((fail_if_success (with_reducible show wpAny _ _ (pyIter _) _ _ _)); walk_at "st")
  (rename Fr _ _ _ _ => F8); (rename News _ _ _ _ => N8)
  obtain ⟨Dw, Dl, tw, tl, m8, F7, N7, hne, hw1, hl1, e1, e2, e3, e4⟩ : WdPack _ _ _ news x y wt t u := wd_pack F8 N8 (by assumption) (by assumption) (by assumption) rfl rfl rfl rfl
  clear F8 N8
  refine f_range (n := 64) (σ := List (List Nat × Tok) × List (List Nat × Tok) × Nat × Nat) (fun c => (Dl, listOf (sv c.2.1).toArray c.2.2.2) :: (Dw, listOf (sv c.1).toArray c.2.2.1) :: news)
    (fun _ => [(Str.ofString "words", Value.ref Dw), (Str.ofString "line", Value.ref Dl), (Str.ofString "signs", Value.str (S [x, y]) u), (Str.ofString "writing", Value.str (S wt) t)])
    (fun i c => (c.1.map (·.1), c.2.1.map (·.1)) = wwords x y wt i ∧ c.1.length ≤ i + 1 ∧ c.2.1.length ≤ 2 * i + 1 ∧ ∀ j p, c.2.1[j]? = some p → p.1.length ≤ j + 1) ([([], tw)], [([y], tl)], 0, 0) rfl (by assumption) (by decide) (by decide) F7 N7
    (List.forall_mem_cons.mpr ⟨e1, List.forall_mem_cons.mpr ⟨e2, List.forall_mem_cons.mpr ⟨e3, List.forall_mem_cons.mpr ⟨e4, List.forall_mem_nil _⟩⟩⟩⟩) ⟨rfl, by simp, by simp, by
      intro j p hj
      cases j with
      | zero => simp at hj; subst hj; simp
      | succ j => simp at hj⟩ ?_ ?_
  · rintro i t9 ⟨qw, ql, nw, nl⟩ u9 h9 tk9 I oI hi ⟨g1, g2, g3, g4⟩ hI F9 N9
    dsimp only at g1 g2 g3 g4 F9 N9
    try k_fold
    repeat' ((fail_if_success (with_reducible show wpAny _ _ (subscriptTail _ _ (Value.ref _) _) _ _ _)); walk_at "st")
    · rename_i hlt
      have hlt2 : i < ql.length := by omega
      obtain ⟨⟨wd, wtk⟩, hwd⟩ : ∃ p, ql[i]? = some p := ⟨_, List.getElem?_eq_getElem hlt2⟩
      have hwl := g4 i _ hwd
      dsimp only at hwl
      have hjl := jn_len dots 1 (wd.map fun c => [c]) (by intro x hx; obtain ⟨c, _, rfl⟩ := List.mem_map.mp hx; simp)
      rw [List.length_map, show dots.length = 3 from rfl] at hjl
      dsimp only
      refine item_at (led_isList N9 (List.mem_cons_of_mem _ (List.mem_cons_self ..))) (by omega) (by omega) (v := Value.str (S wd) wtk) (by rw [show (0 + (i : Int) * 1).toNat = i by omega, sv, List.getElem?_map, hwd]; rfl) ?_
      repeat' ((fail_if_success (with_reducible show wpAny _ _ (call (Value.ref _) _) _ _ _)); walk_at "st")
      k_dflt (refine cb_use (ell_c w mean mg mb _ (pat wd) wt _ _) (by assumption) (by assumption) (by assumption) (by assumption) (by assumption) rfl ⟨by simp only [pat, List.length_append, show dots.length = 3 from rfl]; omega, by omega⟩ (by dsimp only; omega) (by dsimp only; omega) ?_)
      intro t3 h3 tk3 F3 N3
      repeat' ((fail_if_success (with_reducible show wpAny _ _ (call (Value.builtin "list.append") _) _ _ _)); walk_at "st")
      · have hIw : I ≠ Dw := fun e => hI _ (List.mem_cons_of_mem _ (List.mem_cons_self ..)) e.symm
        have hIl : I ≠ Dl := fun e => hI _ (List.mem_cons_self ..) e.symm
        have hl2 : ∀ o : Obj, ∀ p ∈ (Dw, o) :: news, p.1 ≠ Dl := fun o => List.forall_mem_cons.mpr ⟨hne.symm, hl1⟩
        refine app3 (by assumption) (by assumption) hIw hne hw1 (by omega) ?_
        clear F3 N3
        intro h4 F4 N4
        repeat' ((fail_if_success (with_reducible show wpAny _ _ (call (Value.builtin "list.append") _) _ _ _)); walk_at "st")
        rename_i hc0
        refine app2 (by assumption) (by assumption) hIl (hl2 _) (by omega) ?_
        intro h5 F5 N5
        repeat' ((fail_if_success (with_reducible show wpAny _ _ (call (Value.builtin "list.append") _) _ _ _)); walk_at "st")
        rename_i hc1
        refine app2 (by assumption) (by assumption) hIl (hl2 _) (by rw [List.length_append, List.length_singleton]; omega) ?_
        intro h6 F6 N6
        repeat' (walk_at "st")
        exact ⟨(qw ++ [(wd, wtk)], ql ++ [_] ++ [_], _, _), _, _, _, rfl, F6, N6, List.forall_mem_cons.mpr ⟨hIl.symm, List.forall_mem_cons.mpr ⟨hIw.symm, fun p hp => hI p (List.mem_cons_of_mem _ (List.mem_cons_of_mem _ hp))⟩⟩,
          (List.forall_mem_cons.mpr ⟨rfl, List.forall_mem_cons.mpr ⟨rfl, List.forall_mem_cons.mpr ⟨rfl, List.forall_mem_cons.mpr ⟨rfl, List.forall_mem_nil _⟩⟩⟩⟩), wd_turn g1 g2 g3 g4 hwd (by assumption) (by assumption) (by assumption)⟩
      · refine ⟨(qw, ql, nw, nl), _, _, _, rfl, F3, N3, hI, (List.forall_mem_cons.mpr ⟨rfl, List.forall_mem_cons.mpr ⟨rfl, List.forall_mem_cons.mpr ⟨rfl, List.forall_mem_cons.mpr ⟨rfl, List.forall_mem_nil _⟩⟩⟩⟩), ?_, by dsimp only; omega, by dsimp only; omega, g4⟩
        rw [wwords_succ, ← g1, wstep, List.getElem?_map, hwd]
        rename_i hem
        simp [hem]
    · refine ⟨(qw, ql, nw, nl), _, _, _, rfl, F9, N9, hI, (List.forall_mem_cons.mpr ⟨rfl, List.forall_mem_cons.mpr ⟨rfl, List.forall_mem_cons.mpr ⟨rfl, List.forall_mem_cons.mpr ⟨rfl, List.forall_mem_nil _⟩⟩⟩⟩), ?_, by dsimp only; omega, by dsimp only; omega, g4⟩
      rw [wwords_succ, ← g1, wstep]
      rw [List.getElem?_eq_none (by simp; omega)]
  · rintro ⟨qw, ql, nw, nl⟩ u9 h9 tk9 ⟨g1, g2, g3, g4⟩ F9 N9
    dsimp only at g1 g2 g3 g4 F9 N9
    try k_fold
    repeat' (walk_at "st")
    (rename News h₀ L _ _ => kN)
    refine ret _ [(_, _)] _ _ ⟨_, _, _, rfl, rfl, by rw [← g1], by omega⟩ ?_ (by assumption) (cb_drop kN (fun _ h => List.mem_cons_of_mem _ h))
    intro p hp q hq
    rw [List.mem_singleton.mp hq]
    exact hw1 p hp
end Mine
open PySem PySem.W PyProof.Rows PyProof.V
set_option Elab.async false
namespace Mine
/-- a table by rows of marks: its pairs, in their order -/
def encR (p : Nat × Int) : PyData × PyData := (PyData.str (S (rep p.1)), PyData.int p.2)
def DK (prog : Program) (w : World) (o : Obj) (c : List (Nat × Int)) : Prop := ∃ kvs, o.IsDictOf (PySem.strKind prog w) kvs ∧ FlatPairs PyData.str kvs (c.map encR)
def aget (c : List (Nat × Int)) (k : Nat) : Option Int := match c with
  | [] => none
  | (a, b) :: r => if a = k then some b else aget r k
def aput (c : List (Nat × Int)) (k : Nat) (v : Int) : List (Nat × Int) := if c.any (fun p => decide (p.1 = k)) then c.map (fun p => if p.1 = k then (p.1, v) else p) else c ++ [(k, v)]
theorem rep_inj {a b : Nat} : S (rep a) = S (rep b) ↔ a = b := by
  constructor
  · intro h
    have := congrArg List.length (S_inj h)
    rwa [rep_len, rep_len] at this
  · rintro rfl; rfl
theorem same_rep (a b : Nat) : PySem.Spec.same (PyData.str (S (rep a))) (PyData.str (S (rep b))) = decide (a = b) := by
  rw [PyProof.V.same_str]
  exact decide_eq_decide.mpr rep_inj
theorem lookup_rep (k : Nat) : ∀ c : List (Nat × Int), PySem.Spec.lookup (PyData.str (S (rep k))) (c.map encR) = (aget c k).map PyData.int
  | [] => rfl
  | (a, b) :: r => by
    rw [List.map_cons, encR, PySem.Spec.lookup, same_rep, aget, lookup_rep k r]
    by_cases h : a = k <;> simp [h]
theorem putD_rep (k : Nat) (v : Int) (c : List (Nat × Int)) : putD (PyData.str (S (rep k))) (PyData.int v) (c.map encR) = (aput c k v).map encR := by
  unfold putD aput
  rw [List.any_map]
  have e : ((fun p : PyData × PyData => PySem.Spec.same p.1 (PyData.str (S (rep k)))) ∘ encR) = fun p : Nat × Int => decide (p.1 = k) := by
    funext p; exact same_rep p.1 k
  rw [e]
  split
  · rw [List.map_map, List.map_map]
    apply List.map_congr_left
    intro p _
    show (if PySem.Spec.same (encR p).1 (PyData.str (S (rep k))) = true then _ else _) = _
    rw [show PySem.Spec.same (encR p).1 (PyData.str (S (rep k))) = decide (p.1 = k) from same_rep p.1 k]
    by_cases h : p.1 = k <;> simp [h, encR]
  · rw [List.map_append]; rfl
theorem aput_len (c : List (Nat × Int)) (k : Nat) (v : Int) : (aput c k v).length ≤ c.length + 1 := by
  unfold aput; split <;> simp
section
variable {prog : Program} {w : World} {A : Around} {E : Value → Shared → Prop} {s : Shared} {h₀ : Heap} {L d : Addr} {m : Str → Option Value} {news : List (Addr × Obj)} {o : Obj} {c : List (Nat × Int)} {k : Nat} {v : Int} {t u : Tok}
theorem dk_tab {h : Heap} (lo : (d == sysModules) = false) (N : News h₀ L h news) (hm : (d, o) ∈ news) (hd : DK prog w o c) : StrTab prog w h d (c.map encR) :=
  let ⟨_, h1, h2⟩ := hd; TabAt.ofObj lo (N _ hm).1 h1 h2
theorem dk_get {Q : Value → Shared → Prop} (lo : (d == sysModules) = false) (N : News h₀ L s.heap news) (hm : (d, o) ∈ news) (hd : DK prog w o c) (h : ∀ t' tk, Q (.int ((aget c k).getD 0) t') { s with toks := tk }) :
    wpAny (model prog w) A (call (.builtin "dict.get") [.ref d, .str (S (rep k)) t, .int 0 u]) Q E s := by
  refine call_get2_strTab (dk_tab lo N hm hd) (Flat.int 0 u) fun x hx => ?_
  rw [lookup_rep] at hx
  have : (Option.map PyData.int (aget c k)).getD (PyData.int 0) = PyData.int ((aget c k).getD 0) := by cases aget c k <;> rfl
  rw [this] at hx
  cases hx s.heap
  exact h _ _
theorem dk_item {value slice : PySem.Expr} {Q : Value → Shared → Prop} (lo : (d == sysModules) = false) (N : News h₀ L s.heap news) (hm : (d, o) ∈ news) (hd : DK prog w o c) (hk : aget c k = some v) (h : ∀ t' tk, Q (.int v t') { s with toks := tk })
    (hs : subscripted slice false (.ref d) (.str (S (rep k)) t) = operate [.ref d, .str (S (rep k)) t] (getItem (.ref d) (.str (S (rep k)) t)) := by with_unfolding_all rfl) (hg : ∀ r, letTemporaryGo value (.ref d) r = pure () := by intro _; with_unfolding_all rfl) :
    wpAny (model prog w) A (subscriptTail value slice (.ref d) (.str (S (rep k)) t)) Q E s := by
  refine item_strTab (dv := PyData.int v) (dk_tab lo N hm hd) (by rw [lookup_rep, hk]; rfl) (fun x hx => ?_) hs hg
  cases hx s.heap
  exact h _ _
theorem dk_method {pl : Sem Bool} {Q : Value × List Value → Shared → Prop} (lo : (d == sysModules) = false) (N : News h₀ L s.heap news) (hm : (d, o) ∈ news) (hd : DK prog w o c) (h : Q (.builtin "dict.get", [.ref d]) s) :
    wpAny (model prog w) A (getMethod (.ref d) "get" pl) Q E s := getMethod_strTab_get (dk_tab lo N hm hd) h
theorem dk_set {g : Obj → List (Addr × Obj)} {Q : Unit → Shared → Prop} (F : Fr h₀ L s.heap m) (N : News h₀ L s.heap news) (U : UpdF d o news g) (hd : DK prog w o c) (hsz : c.length ≤ 1000000)
    (h : ∀ h' o' tk, Fr h₀ L h' m → News h₀ L h' (g o') → DK prog w o' (aput c k v) → Q () { s with heap := h', toks := tk }) :
    wpAny (model prog w) A (setItem (.ref d) (.str (S (rep k)) t) (.int v u)) Q E s := by
  obtain ⟨kvs, h1, h2⟩ := hd
  refine setItem_K PyProof.V.same_str (strKind_is prog w _ t) (Flat.int v u) F N U h1 h2 (fun h' o' F' N' a b => h h' o' _ F' N' ⟨_, a, ?_⟩) (by rw [List.length_map]; simp [sizeLine]; omega)
  rw [putD_rep] at b; exact b
end
section
variable {prog : Program} {w : World} {A : Around} {E : Value → Shared → Prop} {Q : Flow → Shared → Prop} {s : Shared} {env : Env} {h₀ : Heap} {σ : Type} {x : Str} {body : List Stmt}
theorem f_dict {d : Addr} {od : Obj} {tb : List (Nat × Int)} {m₀ : Str → Option Value} (Led : σ → List (Addr × Obj)) (ps : σ → List (Str × Value)) (P : Nat → σ → Prop) (c₀ : σ)
    (hh : A.handled = none) (lo : (d == sysModules) = false) (hd : DK prog w od tb) (hl : ∀ c, (d, od) ∈ Led c) (hu : ∀ c o, (d, o) ∈ Led c → o = od)
    (F : Fr h₀ env.locals s.heap m₀) (N : News h₀ env.locals s.heap (Led c₀)) (hk : ∀ p ∈ ps c₀, m₀ p.1 = some p.2) (hp : P 0 c₀)
    (turn : ∀ i k v t (c : σ) (u : Str → Option Value) h tk I oI, tb[i]? = some (k, v) → P i c → (∀ p ∈ Led c, p.1 ≠ I) →
      Fr h₀ env.locals h (fun y => if y = x then some (.str (S (rep k)) t) else kstB u (ps c) y) → News h₀ env.locals h ((I, oI) :: Led c) →
      wpAny (model prog w) A (execs body env) (FPost h₀ env.locals s Led ps (P (i + 1)) Q I oI) E { s with heap := h, toks := tk })
    (done : ∀ (c : σ) (u : Str → Option Value) h tk, P tb.length c → Fr h₀ env.locals h (kstB u (ps c)) → News h₀ env.locals h (Led c) → Q .next { s with heap := h, toks := tk }) :
    wpAny (model prog w) A (pyIter (.ref d)) (fun it s₂ => LoopAtV prog w A h₀ env x body Q E it s₂) E s := by
  obtain ⟨kvs, h1, h2⟩ := hd
  have hdo : s.heap.DictOf (PySem.strKind prog w) d kvs := Heap.dictOf_iff.mpr ⟨od, (N _ (hl c₀)).1, h1⟩
  obtain ⟨ep, hat⟩ := hdo.dictAt
  refine wpAny_pyIter_dict lo hat ?_
  have hne : d ≠ s.heap.objs.size := Nat.ne_of_lt hat.lt_size
  have W := Walks.dictKeys (prog := prog) (w := w) (knd := PySem.strKind prog w) hh s.heap.objs.size d hne kvs ep
  have hlen : kvs.length = tb.length := by have := h2.length; rw [List.length_map] at this; exact this.symm ▸ rfl
  refine f_gen (ax := [d]) rfl Led ps P c₀ W (fun i h st => let ⟨o, ho, _⟩ := st.1; ⟨o, ho⟩) (fun b hb c => by rw [List.mem_singleton.mp hb]; exact .inr ⟨_, hl c⟩) ?_ (next_is_new F) ⟨⟨_, Heap.get?_push_size _ rfl, rfl, rfl⟩, hat.push _⟩ (F.push _) (fun p hp => ⟨Heap.get?_push_of_some _ (N p hp).1, (N p hp).2⟩) ?_ hk hp ?_ ?_ ?_
  · intro hm
    rcases List.mem_cons.mp hm with e | hm
    · exact absurd F.ns.lt (e ▸ Nat.lt_irrefl _)
    · exact (N _ (hl c₀)).2.1 (List.mem_singleton.mp hm).symm
  · intro p hp e; exact absurd (Heap.lt_size (N p hp).1) (e ▸ Nat.lt_irrefl _)
  · intro b hb c c' o o' h1 h2
    rw [List.mem_singleton.mp hb] at h1 h2
    rw [hu c o h1, hu c' o' h2]
  · rintro i v c u h tk oI hi ⟨k, xv, hx, hkey⟩ hpc hne F₁ N₁
    obtain ⟨dv, hD, hfl⟩ := h2.at hx
    obtain ⟨t, rfl⟩ := Value.isStrOf_shape hkey
    rw [List.getElem?_map] at hD
    cases htb : tb[i]? with
    | none => rw [htb] at hD; cases hD
    | some p =>
      rw [htb] at hD
      obtain ⟨pk, pv⟩ := p
      simp only [Option.map_some, encR, Option.some.injEq, Prod.mk.injEq, PyData.str.injEq] at hD
      rw [← hD.1] at F₁
      exact turn i pk pv t c u h tk _ oI htb hpc hne F₁ N₁
  · intro c u h tk hpc F₁ N₁
    rw [hlen] at hpc
    exact done c u h tk hpc F₁ N₁
end
end Mine
open PySem PySem.W PyProof.Rows
set_option Elab.async false
namespace Mine
set_option maxRecDepth 100000
set_option maxHeartbeats 8000000
/-- one count more under a row -/
def wadd (v : Int) (b : List (Nat × Int)) (k : Nat) : List (Nat × Int) := aput b k ((aget b k).getD 0 + v)
/-- what one row of the table does -/
def wone (st : List (Nat × Int) × Int) (p : Nat × Int) : List (Nat × Int) × Int :=
  if p.1 = 0 then (st.1, st.2 + p.2) else ((if p.1 % 2 = 0 then [p.1 / 2, p.1 / 2 - 1] else [p.1 / 2]).foldl (wadd p.2) st.1, st.2)
def wturn (st : List (Nat × Int) × Int) : List (Nat × Int) × Int := st.1.foldl wone ([], st.2)
def wways : Nat → Nat → List (Nat × Int) × Int
  | k, 0 => ([(k, 1)], 0)
  | k, n + 1 => wturn (wways k n)
theorem flat_keys {kvs : List (Str × Value)} {D : List (PyData × PyData)} (h : PyProof.V.FlatPairs PyData.str kvs D) : kvs.map (fun p => PyData.str p.1) = D.map (·.1) := by
  induction h with
  | nil => rfl
  | cons _ _ ih => simp [ih]
theorem dk_nodup {prog : Program} {w : World} {o : Obj} {c : List (Nat × Int)} (h : DK prog w o c) : (c.map (·.1)).Nodup := by
  obtain ⟨kvs, ⟨_, _, _, _, _, _, hn⟩, hf⟩ := h
  have e := flat_keys hf
  rw [List.map_map] at e
  have e2 : (kvs.map (·.1)) = (c.map fun p => S (rep p.1)) := by
    have := congrArg (List.map fun d : PyData => match d with | .str s => s | _ => Str.empty) e
    rw [List.map_map, List.map_map] at this
    simpa [Function.comp_def, encR] using this
  rw [e2, List.nodup_iff_pairwise_ne, List.pairwise_map] at hn
  rw [List.nodup_iff_pairwise_ne, List.pairwise_map]
  exact hn.imp fun h e => h (by rw [e])
theorem aget_at {k : Nat} {v : Int} : ∀ {c : List (Nat × Int)} {i : Nat}, (c.map (·.1)).Nodup → c[i]? = some (k, v) → aget c k = some v
  | [], i, _, h => by simp at h
  | (a, b) :: r, 0, _, h => by
    simp only [List.getElem?_cons_zero, Option.some.injEq, Prod.mk.injEq] at h
    obtain ⟨rfl, rfl⟩ := h
    simp [aget]
  | (a, b) :: r, i + 1, hn, h => by
    rw [List.map_cons, List.nodup_cons] at hn
    rw [List.getElem?_cons_succ] at h
    have hm : k ∈ r.map (·.1) := List.mem_map.mpr ⟨(k, v), List.mem_of_getElem? h, rfl⟩
    rw [aget, if_neg (fun e : a = k => hn.1 (by rw [← e] at hm; exact hm))]
    exact aget_at hn.2 h
theorem take_fold {j : Nat} {p : Nat × Int} {tb : List (Nat × Int)} {st : List (Nat × Int) × Int} (h : tb[j]? = some p) : (tb.take (j + 1)).foldl wone st = wone ((tb.take j).foldl wone st) p := by
  rw [List.take_add_one, h, List.foldl_append]; rfl
/-- what the inner loop asks of the frame -/
def WyPack (prog : Program) (w : World) (h₀ : Heap) (L : Addr) (h : Heap) (I : Addr) (oI : Obj) (Dc : Addr) (oc : Obj) (news : List (Addr × Obj)) (tot : Int) (tt : Tok) : Prop :=
  ∃ (Db : Addr) (ob : Obj) (m : Str → Option Value), Fr h₀ L h m ∧ News h₀ L h ((Db, ob) :: (I, oI) :: (Dc, oc) :: news) ∧ DK prog w ob [] ∧ (Db == sysModules) = false ∧ I ≠ Db ∧ Dc ≠ Db ∧ (∀ p ∈ news, p.1 ≠ Db) ∧
    m (Str.ofString "below") = some (.ref Db) ∧ m (Str.ofString "table") = some (.ref Dc) ∧ m (Str.ofString "total") = some (.int tot tt)
theorem wy_pack {prog : Program} {w : World} {h₀ : Heap} {L : Addr} {h : Heap} {I : Addr} {oI : Obj} {Dc : Addr} {oc : Obj} {news : List (Addr × Obj)} {tot : Int} {tt : Tok} {Db : Addr} {ob : Obj} {m : Str → Option Value}
    (F : Fr h₀ L h m) (N : News h₀ L h ((Db, ob) :: (I, oI) :: (Dc, oc) :: news)) (h1 : Obj.IsDictOf (PySem.strKind prog w) ob []) (lo : (Db == sysModules) = false) (hl : I < Db ∧ Dc < Db ∧ AllLt Db news)
    (e1 : m (Str.ofString "below") = some (.ref Db)) (e2 : m (Str.ofString "table") = some (.ref Dc)) (e3 : m (Str.ofString "total") = some (.int tot tt)) : WyPack prog w h₀ L h I oI Dc oc news tot tt :=
  ⟨Db, ob, m, F, N, ⟨[], h1, PyProof.V.FlatPairs.nil⟩, lo, Nat.ne_of_lt hl.1, Nat.ne_of_lt hl.2.1, fun p hp => Nat.ne_of_lt (ktn_ltOf hl.2.2 p hp), e1, e2, e3⟩
theorem f_listA {prog : Program} {w : World} {A : Around} {E : Value → Shared → Prop} {Q : Flow → Shared → Prop} {s : Shared} {env : Env} {h₀ : Heap} {σ : Type} {x : Str} {body : List Stmt} {l : Addr} {vs : List Value} {ol : Obj} {m₀ : Str → Option Value} (Led : Addr → σ → List (Addr × Obj)) (ps : σ → List (Str × Value)) (P : Nat → σ → Prop) (c₀ : σ)
    (hh : A.handled = none) (hcl : ol.cls = .type "list") (hda : ∃ k, ol.data = .seq vs.toArray k) (hl : ∀ c, (l, ol) ∈ Led l c) (hu : ∀ c o, (l, o) ∈ Led l c → o = ol)
    (F : Fr h₀ env.locals s.heap m₀) (N : News h₀ env.locals s.heap (Led l c₀)) (hk : ∀ p ∈ ps c₀, m₀ p.1 = some p.2) (hp : P 0 c₀)
    (turn : ∀ i v (c : σ) (u : Str → Option Value) h tk I oI, vs[i]? = some v → P i c → (∀ p ∈ Led l c, p.1 ≠ I) →
      Fr h₀ env.locals h (fun y => if y = x then some v else kstB u (ps c) y) → News h₀ env.locals h ((I, oI) :: Led l c) →
      wpAny (model prog w) A (execs body env) (FPost h₀ env.locals s (Led l) ps (P (i + 1)) Q I oI) E { s with heap := h, toks := tk })
    (done : ∀ (c : σ) (u : Str → Option Value) h tk, P vs.length c → Fr h₀ env.locals h (kstB u (ps c)) → News h₀ env.locals h (Led l c) → Q .next { s with heap := h, toks := tk }) :
    wpAny (model prog w) A (pyIter (.ref l)) (fun it s₂ => LoopAtV prog w A h₀ env x body Q E it s₂) E s := f_list (Led l) ps P c₀ hh hcl hda hl hu F N hk hp turn done
def rv (ks : List (Nat × Tok)) : List Value := ks.map fun p => Value.str (S (rep p.1)) p.2
theorem rv_get {ks : List (Nat × Tok)} {i : Nat} {v : Value} (h : (rv ks)[i]? = some v) : ∃ p, ks[i]? = some p ∧ v = Value.str (S (rep p.1)) p.2 := by
  simp only [rv, List.getElem?_map, Option.map_eq_some_iff] at h
  obtain ⟨p, h1, h2⟩ := h
  exact ⟨p, h1, h2.symm⟩
/-- what the innermost loop asks of the frame -/
def WlPack (h₀ : Heap) (L : Addr) (h : Heap) (I2 : Addr) (oI2 : Obj) (Db : Addr) (ob : Obj) (I : Addr) (oI : Obj) (Dc : Addr) (oc : Obj) (news : List (Addr × Obj)) (kk : Nat) (tot : Int) (tk tt : Tok) (Dl : Addr) : Prop :=
  ∃ (ks : List (Nat × Tok)) (m : Str → Option Value), Fr h₀ L h m ∧ News h₀ L h ((Dl, listOf (rv ks).toArray 0) :: (I2, oI2) :: (Db, ob) :: (I, oI) :: (Dc, oc) :: news) ∧ Dl ≠ I2 ∧ Dl ≠ Db ∧ Dl ≠ I ∧ Dl ≠ Dc ∧ (∀ p ∈ news, p.1 ≠ Dl) ∧
    ks.map (·.1) = (if kk % 2 = 0 then [kk / 2, kk / 2 - 1] else [kk / 2]) ∧
    m (Str.ofString "below") = some (.ref Db) ∧ m (Str.ofString "table") = some (.ref Dc) ∧ m (Str.ofString "total") = some (.int tot tt) ∧ m (Str.ofString "left") = some (.str (S (rep kk)) tk)
section
variable {h₀ : Heap} {L : Addr} {h : Heap} {I2 : Addr} {oI2 : Obj} {Db : Addr} {ob : Obj} {I : Addr} {oI : Obj} {Dc : Addr} {oc : Obj} {news : List (Addr × Obj)} {kk : Nat} {tot : Int} {tk tt t1 t2 : Tok} {Dl : Addr} {m : Str → Option Value}
theorem wl_one (F : Fr h₀ L h m) (N : News h₀ L h ((Dl, listOf #[Value.str (S (rep (kk / 2))) t1] 0) :: (I2, oI2) :: (Db, ob) :: (I, oI) :: (Dc, oc) :: news)) (hl : I2 < Dl ∧ Db < Dl ∧ I < Dl ∧ Dc < Dl ∧ AllLt Dl news) (hm : kk % 2 ≠ 0)
    (e1 : m (Str.ofString "below") = some (.ref Db)) (e2 : m (Str.ofString "table") = some (.ref Dc)) (e3 : m (Str.ofString "total") = some (.int tot tt)) (e4 : m (Str.ofString "left") = some (.str (S (rep kk)) tk)) :
    WlPack h₀ L h I2 oI2 Db ob I oI Dc oc news kk tot tk tt Dl :=
  ⟨[(kk / 2, t1)], m, F, N, Nat.ne_of_gt hl.1, Nat.ne_of_gt hl.2.1, Nat.ne_of_gt hl.2.2.1, Nat.ne_of_gt hl.2.2.2.1, fun p hp => Nat.ne_of_lt (ktn_ltOf hl.2.2.2.2 p hp), by simp [hm], e1, e2, e3, e4⟩
theorem wl_two (F : Fr h₀ L h m) (N : News h₀ L h ((Dl, listOf #[Value.str (S (rep (kk / 2))) t1, Value.str (Txt.slice (S (rep (kk / 2))) (some 1) none) t2] 0) :: (I2, oI2) :: (Db, ob) :: (I, oI) :: (Dc, oc) :: news)) (hl : I2 < Dl ∧ Db < Dl ∧ I < Dl ∧ Dc < Dl ∧ AllLt Dl news) (hm : kk % 2 = 0)
    (e1 : m (Str.ofString "below") = some (.ref Db)) (e2 : m (Str.ofString "table") = some (.ref Dc)) (e3 : m (Str.ofString "total") = some (.int tot tt)) (e4 : m (Str.ofString "left") = some (.str (S (rep kk)) tk)) :
    WlPack h₀ L h I2 oI2 Db ob I oI Dc oc news kk tot tk tt Dl := by
  have e : Txt.slice (S (rep (kk / 2))) (some 1) none = S (rep (kk / 2 - 1)) := by
    rw [show (1 : Int) = ((1 : Nat) : Int) from rfl, S_slice_from, rep, List.drop_replicate]; rfl
  rw [e] at N
  exact ⟨[(kk / 2, t1), (kk / 2 - 1, t2)], m, F, N, Nat.ne_of_gt hl.1, Nat.ne_of_gt hl.2.1, Nat.ne_of_gt hl.2.2.1, Nat.ne_of_gt hl.2.2.2.1, fun p hp => Nat.ne_of_lt (ktn_ltOf hl.2.2.2.2 p hp), by simp [hm], e1, e2, e3, e4⟩
theorem wl_bound {ks : List (Nat × Tok)} {k3 : Nat} {t3 : Tok} (h : ks.map (·.1) = (if kk % 2 = 0 then [kk / 2, kk / 2 - 1] else [kk / 2])) (hk : kk ≤ 900) (hm : (k3, t3) ∈ ks) : k3 ≤ 900 := by
  have : k3 ∈ ks.map (·.1) := List.mem_map.mpr ⟨_, hm, rfl⟩
  rw [h] at this
  split at this <;> simp at this <;> omega
end
theorem wl_len {ks : List (Nat × Tok)} {kk : Nat} (h : ks.map (·.1) = (if kk % 2 = 0 then [kk / 2, kk / 2 - 1] else [kk / 2])) : (rv ks).length ≤ 2 := by
  have := congrArg List.length h
  rw [List.length_map] at this
  rw [rv, List.length_map, this]
  split <;> simp
theorem wl_small {ks : List (Nat × Tok)} {kk j k3 : Nat} {t3 : Tok} (h : ks.map (·.1) = (if kk % 2 = 0 then [kk / 2, kk / 2 - 1] else [kk / 2])) (hk : ks[j]? = some (k3, t3)) : j ≤ 900 := by
  have h2 := wl_len h
  rw [rv, List.length_map] at h2
  rcases Nat.lt_or_ge j ks.length with h1 | h1
  · omega
  · rw [List.getElem?_eq_none h1] at hk; cases hk
theorem wl_step {ks : List (Nat × Tok)} {j k3 : Nat} {t3 : Tok} {v : Int} {bl bl3 : List (Nat × Int)} (h : bl3 = ((ks.map (·.1)).take j).foldl (wadd v) bl) (hk : ks[j]? = some (k3, t3)) :
    aput bl3 k3 ((aget bl3 k3).getD 0 + v) = ((ks.map (·.1)).take (j + 1)).foldl (wadd v) bl := by
  rw [List.take_add_one, List.getElem?_map, hk, List.foldl_append, ← h]; rfl
theorem aput_keys {c : List (Nat × Int)} {k : Nat} {v : Int} (h : ∀ p ∈ c, p.1 ≤ 900) (hk : k ≤ 900) : ∀ p ∈ aput c k v, p.1 ≤ 900 := by
  intro p hp
  unfold aput at hp
  split at hp
  · obtain ⟨q, hq, rfl⟩ := List.mem_map.mp hp
    have := h q hq
    split <;> exact this
  · rcases List.mem_append.mp hp with hp | hp
    · exact h p hp
    · rw [List.mem_singleton.mp hp]; exact hk
local macro_rules | `(tactic| walk_at "truthy str") => `(tactic| (k_here; (with_reducible show wpAny _ _ (PySem.truthy (Value.str (S _) _)) _ _ _); (refine truthy_S (by omega) ?_); intro _))
local macro_rules | `(tactic| walk_at "st") => `(tactic| first | (k_unfold; (try dsimp only)) | walk1 | (dsimp only; walk1) | (leave1; try dsimp only))
local macro_rules | `(tactic| walk_at "FPost") => `(tactic| (dsimp only [FPost]))
theorem ways_c (w : World) (mean : ExcName → Option Value) (mg mb : Str → Option Value) (k : Nat) (t : Tok) :
    FnC 10 PySem.Challenge.rw_pg0070_02.row.prog w (hd.heap_39 w.params) hd.view_39 (looseW hd.view_39 []) mean mg mb 81 (k ≤ 900) [Value.str (S (rep k)) t]
      (fun v own => own = [] ∧ ∃ t1, v = .int (wways k 8).2 t1) := by
  k_fill
  w_top off
  unfold FnC
  intro dp un gd cn cs a ccd cl outer A₀ base h₀ L m news s Q E B F X N T hk hp hdp hu ret
  refine wpAny_call ?_
  k_dflt cell_enter
  repeat' ((fail_if_success (with_reducible show wpAny _ _ (eval (Expr.Dict (_ :: _) _ _) _) _ _ _)); walk_at "st")
  refine kdn_eval (knd := PySem.strKind _ w) (by assumption) (by assumption) (Top.nolimit (by assumption)) rfl rfl (List.cons_ne_nil _ _) (by decide) ?_
  intro Dt h1 o1 F1 N1 hlt1 lo1 hd1
  repeat' ((fail_if_success (with_reducible show KdnMade _ _ _ _ _ _ _)); walk_at "st")
  refine kdn_made_str (by assumption) (by assumption) (UpdF.head (fun p hp => Nat.ne_of_lt (hlt1 p hp))) hd1 rfl (by simp [strPairs]) ?_
  intro h2 o2 F2 N2 hd2
  repeat' ((fail_if_success (with_reducible show wpAny _ _ (exec (Stmt.For _ _ _ _ _) _) _ _ _)); walk_at "st")
  (rename Fr _ _ _ _ => F9); (rename News _ _ _ _ => N9)
  replace N9 := cb_drop (news := (Dt, o2) :: news) N9 (fun p hp => List.mem_cons_of_mem _ hp)
  refine w_for F9 (by rfl) (by rfl) ?_
  repeat' ((fail_if_success (with_reducible show wpAny _ _ (pyIter _) _ _ _)); walk_at "st")
  (rename Fr _ _ _ _ => F8); (rename News _ _ _ _ => N8)
  have hdk : DK PySem.Challenge.rw_pg0070_02.row.prog w o2 [(k, 1)] := ⟨_, hd2, PyProof.V.FlatPairs.cons (PyProof.V.Flat.int 1 _) PyProof.V.FlatPairs.nil⟩
  clear hd2 hd1
  refine f_range (n := 8) (σ := Addr × Obj × List (Nat × Int) × Int × Tok) (fun c => (c.1, c.2.1) :: news)
    (fun c => [(Str.ofString "table", Value.ref c.1), (Str.ofString "total", Value.int c.2.2.2.1 c.2.2.2.2)])
    (fun i c => DK PySem.Challenge.rw_pg0070_02.row.prog w c.2.1 c.2.2.1 ∧ (c.1 == sysModules) = false ∧ (∀ p ∈ news, p.1 ≠ c.1) ∧ (c.2.2.1, c.2.2.2.1) = wways k i ∧ c.2.2.1.length ≤ 2 ^ i ∧ ∀ p ∈ c.2.2.1, p.1 ≤ 900) (Dt, o2, [(k, 1)], 0, _) rfl (by assumption) (by decide) (by decide) F8 N8
    (List.forall_mem_cons.mpr ⟨rfl, List.forall_mem_cons.mpr ⟨rfl, List.forall_mem_nil _⟩⟩) ⟨hdk, lo1, fun p hp => Nat.ne_of_lt (hlt1 p hp), rfl, by simp, by simp [hp]⟩ ?_ ?_
  · clear F8 N8 hdk lo1 hlt1
    rintro i t9 ⟨Dc, oc, tb, tot, tt⟩ u9 h9 tk9 I oI hi ⟨g1, g2, g3, g4, g5, g6⟩ hI F9 N9
    dsimp only at g1 g2 g3 g4 g5 g6 F9 N9
    try k_fold
    repeat' ((fail_if_success (with_reducible show wpAny _ _ (exec (Stmt.For _ _ _ _ _) _) _ _ _)); walk_at "st")
    (rename Fr _ _ _ _ => F9); (rename News _ _ _ _ => N9)
    refine w_for F9 (by rfl) (by rfl) ?_
    repeat' ((fail_if_success (with_reducible show wpAny _ _ (pyIter _) _ _ _)); walk_at "st")
    obtain ⟨Db, ob, m8, F8, N8, hdb, lob, hIb, hcb, hnb, e1, e2, e3⟩ : WyPack PySem.Challenge.rw_pg0070_02.row.prog w _ _ _ I oI Dc oc news tot tt := wy_pack F9 N9 (by assumption) (by assumption) (by assumption) rfl rfl rfl
    clear F9 N9
    have hIc : Dc ≠ I := hI _ (List.mem_cons_self ..)
    have hnd := dk_nodup g1
    dsimp only
    refine f_dict (tb := tb) (od := oc) (σ := Obj × List (Nat × Int) × Int × Tok) (fun c => (Db, c.1) :: (I, oI) :: (Dc, oc) :: news)
      (fun c => [(Str.ofString "below", Value.ref Db), (Str.ofString "table", Value.ref Dc), (Str.ofString "total", Value.int c.2.2.1 c.2.2.2)])
      (fun j c => DK PySem.Challenge.rw_pg0070_02.row.prog w c.1 c.2.1 ∧ (c.2.1, c.2.2.1) = (tb.take j).foldl wone ([], tot) ∧ c.2.1.length ≤ 2 * j ∧ ∀ p ∈ c.2.1, p.1 ≤ 900) (ob, [], tot, tt) rfl g2 g1
      (fun _ => List.mem_cons_of_mem _ (List.mem_cons_of_mem _ (List.mem_cons_self ..))) (fun c o hm => by
        rcases List.mem_cons.mp hm with e | hm
        · cases e; exact absurd rfl hcb
        · rcases List.mem_cons.mp hm with e | hm
          · cases e; exact absurd rfl hIc
          · rcases List.mem_cons.mp hm with e | hm
            · cases e; rfl
            · exact absurd rfl (g3 _ hm)) F8 N8 (List.forall_mem_cons.mpr ⟨e1, List.forall_mem_cons.mpr ⟨e2, List.forall_mem_cons.mpr ⟨e3, List.forall_mem_nil _⟩⟩⟩) ⟨hdb, rfl, by simp, fun _ h => nomatch h⟩ ?_ ?_
    · rintro j kk v tk8 ⟨ob', bl, tot', tt'⟩ u8 h8 tk7 I2 oI2 htb ⟨b1, b2, b3, b4⟩ hI2 F9 N9
      dsimp only at b1 b2 b3 b4 F9 N9
      have hkk : kk ≤ 900 := g6 _ (List.mem_of_getElem? htb)
      have hrl := rep_len kk
      have hget := aget_at hnd htb
      have hj : j < 256 := by
        have h1 : j < tb.length := by
          rcases Nat.lt_or_ge j tb.length with h1 | h1
          · exact h1
          · rw [List.getElem?_eq_none h1] at htb; cases htb
        have h2 : 2 ^ i ≤ 2 ^ 8 := Nat.pow_le_pow_right (by decide) (by omega)
        have h3 : (2 : Nat) ^ 8 = 256 := by decide
        omega
      try k_fold
      repeat' ((fail_if_success (with_reducible show wpAny _ _ (call (Value.ref _) _) _ _ _)); (fail_if_success (with_reducible show wpAny _ _ (subscriptTail _ _ (Value.ref _) _) _ _ _)); walk_at "st")
      · dsimp only
        refine dk_item g2 N9 (List.mem_cons_of_mem _ (List.mem_cons_of_mem _ (List.mem_cons_of_mem _ (List.mem_cons_self ..)))) g1 hget ?_
        intro t7 tk6
        repeat' (walk_at "st")
        (rename Fr _ _ _ _ => F6); (rename News _ _ _ _ => N6)
        refine ⟨(ob', bl, tot' + v, _), _, _, _, rfl, F6, N6, hI2, (List.forall_mem_cons.mpr ⟨rfl, List.forall_mem_cons.mpr ⟨rfl, List.forall_mem_cons.mpr ⟨rfl, List.forall_mem_nil _⟩⟩⟩), b1, ?_, by dsimp only; omega, b4⟩
        rw [take_fold htb, ← b2, wone, if_pos (rep_nil (by assumption))]
      · k_dflt (refine fn_use (halved_c w mean mg mb kk _) (by assumption) (by assumption) (by assumption) (by assumption) (by assumption) rfl hkk (by dsimp only; omega) (by dsimp only; omega) ?_)
        rintro vv own h7 tk7 ⟨D7, t1, t2, rfl, rfl⟩ hD F7 N7
        rw [List.singleton_append] at N7
        have hm2 : kk % 2 < 2 := Nat.mod_lt _ (by decide)
        have hrl2 := rep_len (kk / 2)
        repeat' ((fail_if_success (with_reducible show wpAny _ _ (exec (Stmt.For _ _ _ _ _) _) _ _ _)); walk_at "st")
        (rename Fr _ _ _ _ => F6); (rename News _ _ _ _ => N6)
        replace N6 := cb_drop (news := (I2, oI2) :: (Db, ob') :: (I, oI) :: (Dc, oc) :: news) N6 (fun p hp => List.mem_cons_of_mem _ hp)
        refine w_for F6 (by rfl) (by rfl) ?_
        repeat' ((fail_if_success (with_reducible show wpAny _ _ (pyIter _) _ _ _)); walk_at "st")
        all_goals (
          (rename Fr _ _ _ _ => F6); (rename News _ _ _ _ => N6)
          obtain ⟨ks, m6, F5, N5, d1, d2, d3, d4, d5, hks, e4, e5, e6, e7⟩ : WlPack _ _ _ I2 oI2 Db ob' I oI Dc oc news kk tot' tk8 tt' _ := by
            first
              | exact wl_one F6 N6 (by assumption) (by omega) rfl rfl rfl rfl
              | exact wl_two F6 N6 (by assumption) (by omega) rfl rfl rfl rfl
          clear F6 N6
          have hI2b : I2 ≠ Db := fun e => hI2 _ (List.mem_cons_self ..) e.symm
          refine f_listA (σ := Obj × List (Nat × Int)) (fun Dl c => (Dl, listOf (rv ks).toArray 0) :: (I2, oI2) :: (Db, c.1) :: (I, oI) :: (Dc, oc) :: news)
            (fun _ => [(Str.ofString "below", Value.ref Db), (Str.ofString "table", Value.ref Dc), (Str.ofString "total", Value.int tot' tt'), (Str.ofString "left", Value.str (S (rep kk)) tk8)])
            (fun j c => DK PySem.Challenge.rw_pg0070_02.row.prog w c.1 c.2 ∧ c.2 = ((ks.map (·.1)).take j).foldl (wadd v) bl ∧ c.2.length ≤ bl.length + j ∧ ∀ p ∈ c.2, p.1 ≤ 900) (ob', bl) rfl rfl ⟨_, rfl⟩
            (fun _ => List.mem_cons_self ..) (fun c o hm => by
              rcases List.mem_cons.mp hm with e | hm
              · cases e; rfl
              · rcases List.mem_cons.mp hm with e | hm
                · cases e; exact absurd rfl d1
                · rcases List.mem_cons.mp hm with e | hm
                  · cases e; exact absurd rfl d2
                  · rcases List.mem_cons.mp hm with e | hm
                    · cases e; exact absurd rfl d3
                    · rcases List.mem_cons.mp hm with e | hm
                      · cases e; exact absurd rfl d4
                      · exact absurd rfl (d5 _ hm)) F5 N5 (List.forall_mem_cons.mpr ⟨e4, List.forall_mem_cons.mpr ⟨e5, List.forall_mem_cons.mpr ⟨e6, List.forall_mem_cons.mpr ⟨e7, List.forall_mem_nil _⟩⟩⟩⟩) ⟨b1, by simp, by simp, b4⟩ ?_ ?_
          · rintro j3 vv ⟨o3, bl3⟩ u6 h6 tk6 I3 oI3 hv ⟨c1, c2, c3, c4⟩ hI3 F9 N9
            dsimp only at c1 c2 c3 c4 F9 N9
            obtain ⟨⟨k3, t3⟩, hk3, rfl⟩ := rv_get hv
            dsimp only at F9
            have hk3b : k3 ≤ 900 := wl_bound hks hkk (List.mem_of_getElem? hk3)
            try k_fold
            repeat' ((fail_if_success (with_reducible show wpAny _ _ (getMethod (Value.ref _) _ _) _ _ _)); walk_at "st")
            dsimp only
            refine dk_method lob N9 (List.mem_cons_of_mem _ (List.mem_cons_of_mem _ (List.mem_cons_of_mem _ (List.mem_cons_self ..)))) c1 ?_
            repeat' ((fail_if_success (with_reducible show wpAny _ _ (call (Value.builtin "dict.get") _) _ _ _)); walk_at "st")
            refine dk_get lob N9 (List.mem_cons_of_mem _ (List.mem_cons_of_mem _ (List.mem_cons_of_mem _ (List.mem_cons_self ..)))) c1 ?_
            intro tq1 tq2
            repeat' ((fail_if_success (with_reducible show wpAny _ _ (subscriptTail _ _ (Value.ref _) _) _ _ _)); walk_at "st")
            dsimp only
            refine dk_item g2 N9 (List.mem_cons_of_mem _ (List.mem_cons_of_mem _ (List.mem_cons_of_mem _ (List.mem_cons_of_mem _ (List.mem_cons_of_mem _ (List.mem_cons_self ..)))))) g1 hget ?_
            intro tq3 tq4
            repeat' ((fail_if_success (with_reducible show wpAny _ _ (setItem (Value.ref _) _ _) _ _ _)); walk_at "st")
            dsimp only
            have hI3b : I3 ≠ Db := fun e => hI3 _ (List.mem_cons_of_mem _ (List.mem_cons_of_mem _ (List.mem_cons_self ..))) e.symm
            refine dk_set F9 N9 (UpdF.tail hI3b (UpdF.tail d2 (UpdF.tail hI2b (UpdF.head (List.forall_mem_cons.mpr ⟨hIb, List.forall_mem_cons.mpr ⟨hcb, hnb⟩⟩))))) c1 (by have : j3 ≤ 900 := wl_small hks hk3; omega) ?_
            clear F9 N9
            intro h5 o5 tk5 F4 N4 c5
            repeat' (walk_at "st")
            exact ⟨(o5, _), _, _, _, rfl, F4, N4, List.forall_mem_cons.mpr ⟨hI3 _ (List.mem_cons_self ..), List.forall_mem_cons.mpr ⟨hI3 _ (List.mem_cons_of_mem _ (List.mem_cons_self ..)), List.forall_mem_cons.mpr ⟨hI3b.symm, fun p hp => hI3 p (List.mem_cons_of_mem _ (List.mem_cons_of_mem _ (List.mem_cons_of_mem _ hp)))⟩⟩⟩,
              (List.forall_mem_cons.mpr ⟨rfl, List.forall_mem_cons.mpr ⟨rfl, List.forall_mem_cons.mpr ⟨rfl, List.forall_mem_cons.mpr ⟨rfl, List.forall_mem_nil _⟩⟩⟩⟩), c5, wl_step c2 hk3, Nat.le_trans (aput_len _ _ _) (by omega), aput_keys c4 hk3b⟩
          · rintro ⟨o3, bl3⟩ u6 h6 tk6 ⟨c1, c2, c3, c4⟩ F9 N9
            dsimp only at c1 c2 c3 c4 F9 N9
            try k_fold
            repeat' (walk_at "st")
            refine ⟨(o3, bl3, tot', tt'), _, _, _, rfl, F9, cb_drop N9 (fun _ h => List.mem_cons_of_mem _ h), List.forall_mem_cons.mpr ⟨hI2b.symm, fun p hp => hI2 p (List.mem_cons_of_mem _ hp)⟩, (List.forall_mem_cons.mpr ⟨rfl, List.forall_mem_cons.mpr ⟨rfl, List.forall_mem_cons.mpr ⟨rfl, List.forall_mem_nil _⟩⟩⟩), c1, ?_, ?_, c4⟩
            · rw [take_fold htb, ← b2, wone, if_neg (rep_pos (by assumption)), c2, ← hks]
              rw [List.take_of_length_le (by simp [rv])]
            · have h2 : (rv ks).length ≤ 2 := wl_len hks
              dsimp only; omega)
    · rintro ⟨ob', bl, tot', tt'⟩ u8 h8 tk7 ⟨b1, b2, b3, b4⟩ F9 N9
      dsimp only at b1 b2 b3 b4 F9 N9
      try k_fold
      repeat' (walk_at "st")
      (rename Fr _ _ _ _ => F6); (rename News _ _ _ _ => N6)
      rw [List.take_length] at b2
      refine ⟨(Db, ob', bl, tot', tt'), _, _, _, rfl, F6, ?_, List.forall_mem_cons.mpr ⟨hIb.symm, fun p hp => hI p (List.mem_cons_of_mem _ hp)⟩, (List.forall_mem_cons.mpr ⟨rfl, List.forall_mem_cons.mpr ⟨rfl, List.forall_mem_nil _⟩⟩), b1, lob, hnb, ?_, ?_, b4⟩
      · intro p hp
        rcases List.mem_cons.mp hp with rfl | hp
        · exact N6 _ (List.mem_cons_of_mem _ (List.mem_cons_self ..))
        · rcases List.mem_cons.mp hp with rfl | hp
          · exact N6 _ (List.mem_cons_self ..)
          · exact N6 _ (List.mem_cons_of_mem _ (List.mem_cons_of_mem _ (List.mem_cons_of_mem _ hp)))
      · rw [wways, ← g4, wturn]; exact b2
      · show bl.length ≤ 2 ^ (i + 1)
        rw [Nat.pow_succ]; omega
  · rintro ⟨Dc, oc, tb, tot, tt⟩ u9 h9 tk9 ⟨g1, g2, g3, g4, g5, g6⟩ F9 N9
    dsimp only at g1 g2 g3 g4 g5 g6 F9 N9
    try k_fold
    repeat' (walk_at "st")
    (rename News h₀ L _ _ => kN)
    refine ret _ [] _ _ ⟨rfl, _, by rw [← g4]⟩ (fun _ _ _ h => nomatch h) (by assumption) (cb_drop kN (fun _ h => List.mem_cons_of_mem _ h))
end Mine
open PySem PySem.W PyProof.Rows
set_option Elab.async false
namespace Mine
section
variable {prog : Program} {w : World} {A : Around} {E : Value → Shared → Prop} {s : Shared} {h₀ : Heap} {L C D : Addr} {m : Str → Option Value} {news : List (Addr × Obj)}
/-- a part of a comprehension's turn has come to its end -/
def CEnd (h₀ : Heap) (L : Addr) (m : Str → Option Value) (led : List (Addr × Obj)) (C : Addr) (s s' : Shared) : Prop :=
  ∃ h' tk' mC, s' = { s with heap := h', toks := tk' } ∧ Fr h₀ L h' m ∧ News h₀ L h' led ∧ h'.Ns C mC
/-- a turn: the target, the tests, the element -/
def CTurn (prog : Program) (w : World) (A : Around) (h₀ : Heap) (L : Addr) (m : Str → Option Value) (led : List (Addr × Obj)) (target elt : PySem.Expr) (ifs : List PySem.Expr) (cenv : Env) (J₁ : List Value → Prop) (ys : List Value) (v : Value) (E' : Value → Shared → Prop) (s : Shared) : Prop :=
  wpAny (model prog w) A (assign target cenv v) (fun _ s₂ =>
    wpAny (model prog w) A (forIn ifs true fun c r => if r = true then do let ok ← isTrue c cenv (eval c cenv); pure (ForInStep.yield ok) else pure (ForInStep.yield r)) (fun ok s₃ =>
      if ok = true then wpAny (model prog w) A (eval elt cenv) (fun y s₄ => CEnd h₀ L m led cenv.locals s s₄ ∧ J₁ (ys ++ [y])) E' s₃ else CEnd h₀ L m led cenv.locals s s₃ ∧ J₁ ys) E' s₂) E' s
theorem cm_loop {R : Result → Shared → Prop} {elt target iter : PySem.Expr} {ifs : List PySem.Expr} {scope : Scope} {pos : Pos} {I : Addr} {fp wr : List Addr} {n : Nat} {P : Nat → Value → Prop} {St : Nat → Heap → Prop} {cenv : Env} {mC : Str → Option Value}
    (W : Walks prog w A I fp wr n P St) (hLf : L ∉ fp) (hCf : cenv.locals ∉ fp) (hDf : D ∉ fp) (hCL : cenv.locals ≠ L) (hDL : D ≠ L) (hDC : D ≠ cenv.locals) (hD0 : h₀.get? D = none)
    (hwr0 : ∀ b ∈ wr, h₀.get? b = none) (hnw : ∀ p ∈ news, p.1 ∉ wr) (hnD : ∀ p ∈ news, p.1 ≠ D)
    (hst : St 0 s.heap) (F : Fr h₀ L s.heap m) (N : News h₀ L s.heap news) (hD : s.heap.PlainList D #[]) (hC : s.heap.Ns cenv.locals mC)
    (J : Nat → List Value → Prop) (h0 : J 0 [])
    (turn : ∀ i v ys h tk mC own k E', i < n → P i v → J i ys → ys.length ≤ i → h.Ns cenv.locals mC → Fr h₀ L h m → News h₀ L h ((D, listOf ys.toArray k) :: (news ++ own)) → (∀ p ∈ own, p.1 ∈ fp) →
      CTurn prog w A h₀ L m ((D, listOf ys.toArray k) :: (news ++ own)) target elt ifs cenv (J (i + 1)) ys v E' { s with heap := h, toks := tk })
    (hR : ∀ ys h tk k mC, J n ys → Fr h₀ L h m → News h₀ L h ((D, listOf ys.toArray k) :: news) → h.Ns cenv.locals mC → R (.ok .next) { s with heap := h, toks := tk })
    (hsz : n ≤ sizeLine) (ht : ∀ v, letOwnedTupleGo target (.ref I) v = pure ()) :
    codeAny (model prog w) A (.compLoop (.ListComp elt [⟨target, iter, ifs, 0⟩] scope pos) 0 (.ref I) (.ref D) cenv) R s := by
  refine codeAny_compLoop_tests
    (fun k s' => ∃ h' tk mC i, ∃ ys : List Value, s' = { s with heap := h', toks := tk } ∧ St i h' ∧ h'.PlainList D ys.toArray ∧ h'.Ns cenv.locals mC ∧ Fr h₀ L h' m ∧ News h₀ L h' news ∧ J i ys ∧ ys.length ≤ i ∧ i ≤ n ∧ k = n + 1 - i) ?_ (n + 1)
    ⟨s.heap, s.toks, mC, 0, [], rfl, hst, hD, hC, F, N, h0, Nat.le_refl _, Nat.zero_le _, rfl⟩ ht
  rintro k s' ⟨H, tk, mC', i, ys, rfl, hst', hacc', hn', F', N', hJ, hyl, hi, rfl⟩
  have hCw : cenv.locals ∉ wr := fun h => hCf (W.sub _ h)
  have hDw : D ∉ wr := fun h => hDf (W.sub _ h)
  have hLw : L ∉ wr := fun h => hLf (W.sub _ h)
  have old : ∀ b o, h₀.get? b = some o → b ∉ wr := fun b o e hb => by rw [hwr0 b hb] at e; cases e
  have next : ∀ h₁ : Heap, (∀ b o, b ∉ wr → H.get? b = some o → h₁.get? b = some o) → Fr h₀ L h₁ m ∧ News h₀ L h₁ news := fun h₁ hk₁ =>
    ⟨⟨F'.ns.at' fun o e => hk₁ _ o hLw e, fun b o e => hk₁ b o (old b o e) (F'.keep b o e), F'.above⟩, fun p hp => ⟨hk₁ _ _ (hnw p hp) (N' p hp).1, (N' p hp).2⟩⟩
  by_cases hlt : i < n
  · refine W.item i _ _ _ hlt hst' fun v h₁ tk₁ hPv hst₁ hk₁ => ?_
    obtain ⟨F₁, N₁⟩ := next h₁ hk₁
    obtain ⟨kk, hD₁⟩ := hacc'
    have hD₁' : h₁.get? D = some (listOf ys.toArray kk) := hk₁ D _ hDw hD₁
    have Nown : News h₀ L h₁ (ownOf h₀ fp h₁) := news_ownOf hLf
    have Nall : News h₀ L h₁ ((D, listOf ys.toArray kk) :: (news ++ ownOf h₀ fp h₁)) := fun p hp => by
      rcases List.mem_cons.mp hp with rfl | hp
      · exact ⟨hD₁', hDL, hD0⟩
      · exact N₁.append Nown p hp
    have tend : ∀ s₄, CEnd h₀ L m ((D, listOf ys.toArray kk) :: (news ++ ownOf h₀ fp h₁)) cenv.locals { s with heap := h₁, toks := tk₁ } s₄ →
        ∃ h₄ tk₄ m₄, s₄ = { s with heap := h₄, toks := tk₄ } ∧ St (i + 1) h₄ ∧ h₄.PlainList D ys.toArray ∧ h₄.Ns cenv.locals m₄ ∧ Fr h₀ L h₄ m ∧ News h₀ L h₄ ((D, listOf ys.toArray kk) :: (news ++ ownOf h₀ fp h₁)) := by
      rintro s₄ ⟨h₄, tk₄, m₄, rfl, F₄, N₄, C₄⟩
      refine ⟨h₄, tk₄, m₄, rfl, W.frame _ _ _ hst₁ (fun b hb o e => ?_), ⟨kk, (N₄ _ (List.mem_cons_self ..)).1⟩, C₄, F₄, N₄⟩
      cases hn : h₀.get? b with
      | some o₀ =>
        have : o₀ = o := by have := F₁.keep b o₀ hn; rw [e] at this; exact (Option.some.inj this).symm
        exact this ▸ F₄.keep b o₀ hn
      | none => exact (N₄ _ (List.mem_cons_of_mem _ (List.mem_append_right _ (mem_ownOf hb hn e)))).1
    refine wpAny_mono (turn i v ys h₁ tk₁ mC' (ownOf h₀ fp h₁) kk _ hlt hPv hJ hyl (hn'.at' fun o e => hk₁ _ o hCw e) F₁ Nall ownOf_sub) (fun _ s₂ h₂ => wpAny_mono h₂ (fun ok s₃ h₃ => ?_) fun _ _ e => e) fun _ _ e => e
    cases ok with
    | false =>
      simp only [Bool.false_eq_true, if_false] at h₃ ⊢
      obtain ⟨h₄, tk₄, m₄, rfl, a1, a2, a3, a4, a5⟩ := tend _ h₃.1
      exact ⟨n + 1 - (i + 1), by omega, h₄, tk₄, m₄, i + 1, ys, rfl, a1, a2, a3, a4, fun p hp => a5 p (List.mem_cons_of_mem _ (List.mem_append_left _ hp)), h₃.2, Nat.le_succ_of_le hyl, hlt, rfl⟩
    | true =>
      simp only [if_true] at h₃ ⊢
      refine wpAny_mono h₃ (fun y s₄ h₄ => ?_) fun _ _ e => e
      obtain ⟨h₄', tk₄, m₄, rfl, a1, a2, a3, a4, a5⟩ := tend _ h₄.1
      refine wpAny_list_append_plain (hsz := by rw [List.size_toArray]; omega) a2 fun h₅ hl₅ hs₅ => ?_
      refine ⟨n + 1 - (i + 1), by omega, h₅, tk₄, m₄, i + 1, ys ++ [y], rfl, W.frame _ _ h₅ a1 (fun b hb o e => hs₅.extBut b o (fun h => hDf (h ▸ hb)) e), by simpa using hl₅, a3.sameBut hs₅ (Ne.symm hDC), a4.change hs₅ hDL hD0, ?_, h₄.2, by simp; omega, hlt, rfl⟩
      intro p hp
      have z := a5 p (List.mem_cons_of_mem _ (List.mem_append_left _ hp))
      exact ⟨(hs₅.2 _ (hnD p hp)).trans z.1, z.2⟩
  · have hin : i = n := by omega
    subst hin
    refine W.done _ _ _ hst' fun h₁ tk₁ hk₁ => ?_
    obtain ⟨F₁, N₁⟩ := next h₁ hk₁
    obtain ⟨kk, hD₁⟩ := hacc'
    refine hR ys h₁ tk₁ kk mC' hJ F₁ ?_ (hn'.at' fun o e => hk₁ _ o hCw e)
    intro p hp
    rcases List.mem_cons.mp hp with rfl | hp
    · exact ⟨hk₁ D _ hDw hD₁, hDL, hD0⟩
    · exact N₁ p hp
end
section
variable {prog : Program} {w : World} {A : Around} {E : Value → Shared → Prop} {h₀ : Heap} {L : Addr} {m : Str → Option Value} {news : List (Addr × Obj)} {env : Env}
/-- a comprehension's source is at hand -/
def CompAt (prog : Program) (w : World) (A : Around) (h₀ : Heap) (L : Addr) (env : Env) (scope : Scope) (cl : List (Str × Addr)) (target elt : PySem.Expr) (ifs : List PySem.Expr) (m : Str → Option Value) (news : List (Addr × Obj)) (upd : Addr → Str → Option Value) (Q : Value → Shared → Prop) (it : Value) (s₂ : Shared) : Prop :=
  ∃ (I : Addr) (fp wr : List Addr) (n : Nat) (P : Nat → Value → Prop) (St : Nat → Heap → Prop) (J : Nat → List Value → Prop), it = .ref I ∧ Walks prog w A I fp wr n P St ∧ n ≤ sizeLine ∧ St 0 s₂.heap ∧ (∀ b ∈ fp, b < s₂.heap.objs.size) ∧ L ∉ fp ∧ (∀ b ∈ wr, h₀.get? b = none) ∧ (∀ p ∈ news, p.1 ∉ wr) ∧
    Fr h₀ L s₂.heap m ∧ News h₀ L s₂.heap news ∧ J 0 [] ∧ (∀ v, letOwnedTupleGo target (.ref I) v = pure ()) ∧
    (∀ C D i v ys h tk mC own k E', i < n → P i v → J i ys → ys.length ≤ i → C ≠ L → h₀.get? C = none → (∀ p ∈ news, p.1 ≠ C) → (∀ p ∈ own, p.1 ≠ C) → D ≠ C → h.Ns C mC → Fr h₀ L h m → News h₀ L h ((D, listOf ys.toArray k) :: (news ++ own)) →
      CTurn prog w A h₀ L m ((D, listOf ys.toArray k) :: (news ++ own)) target elt ifs (compEnvC scope cl C env) (J (i + 1)) ys v E' { s₂ with heap := h, toks := tk }) ∧
    (∀ ys D h tk k, J n ys → (∀ p ∈ news, p.1 < D) → Fr h₀ L h (upd D) → News h₀ L h ((D, listOf ys.toArray k) :: news) → Q (.ref D) { s₂ with heap := h, toks := tk })
theorem cm_block {elt iter target : PySem.Expr} {ifs : List PySem.Expr} {scope : Scope} {cl : List (Str × Addr)} {pos : Pos} {s₂ : Shared} {it : Value} {upd : Addr → Str → Option Value} {Q : Value → Shared → Prop} {RR : Value → Addr → Result → Shared → Prop}
    (hcell : ∀ y ∈ scope.names, y.2 ≠ .cell) (hkind : scope.kind = .function)
    (hat : CompAt prog w A h₀ L env scope cl target elt ifs m news upd Q it s₂)
    (hRR : ∀ D C h' tk m' led, (∀ h'' tk, Fr h₀ L h'' (upd D) → News h₀ L h'' led → Q (.ref D) { s₂ with heap := h'', toks := tk }) → Fr h₀ L h' m → News h₀ L h' led → (∀ p ∈ led, p.1 ≠ C) → h₀.get? C = none → h'.Ns C m' → L ≠ C → RR (.ref D) C (.ok .next) { s₂ with heap := h', toks := tk }) :
    wpAny (model prog w) A (newList []) (fun acc s₃ => wpAny (model prog w) A (newFunctionEnv scope env.globals cl [] env.qual none .none (some env)) (fun cenv s₄ =>
      codeAny (model prog w) A (.compStart (.ListComp elt [⟨target, iter, ifs, 0⟩] scope pos) 0 it acc { cenv with scope := relabel scope env }) (RR acc cenv.locals) s₄) E s₃) E s₂ := by
  obtain ⟨I, fp, wr, n, P, St, J, rfl, W, hsz, hst, hfp, hLf, hwr, hnw, F, N, h0, ht, turn, fin⟩ := hat
  refine wpAny_newObj_type (wpAny_newFunctionEnv hcell (by intro y hy; simp at hy) (fun h₁ hns₁ hsb₁ => ?_) hkind)
  dsimp only at hns₁ hsb₁ ⊢
  generalize hH2 : s₂.heap.push { cls := .type "list", dict := none, data := .seq ([] : List Value).toArray } = H2 at hns₁ hsb₁ ⊢
  have hC : H2.objs.size = s₂.heap.objs.size + 1 := by rw [← hH2, Heap.size_push]
  have hDC : s₂.heap.objs.size ≠ H2.objs.size := by rw [hC]; exact Nat.ne_of_lt (Nat.lt_succ_self _)
  have below : ∀ b, b < s₂.heap.objs.size → b ≠ H2.objs.size ∧ b ≠ s₂.heap.objs.size := fun b hb => ⟨by rw [hC]; exact Nat.ne_of_lt (Nat.lt_succ_of_lt hb), Nat.ne_of_lt hb⟩
  have hDf : s₂.heap.objs.size ∉ fp := fun hm => Nat.lt_irrefl _ (hfp _ hm)
  have hCf : H2.objs.size ∉ fp := fun hm => by have := hfp _ hm; rw [hC] at this; exact Nat.lt_irrefl _ (Nat.lt_of_succ_lt this)
  have old : ∀ b o, s₂.heap.get? b = some o → h₁.get? b = some o := fun b o e => hsb₁.extBut b o (below b (Heap.lt_size e)).1 (Heap.get?_push_of_some _ (hH2 ▸ Heap.get?_push_of_some _ e))
  have hacc : h₁.PlainList s₂.heap.objs.size #[] := ⟨_, hsb₁.extBut _ _ hDC (Heap.get?_push_of_some _ (hH2 ▸ Heap.get?_push_size _ rfl))⟩
  have hst₁ : St 0 h₁ := W.frame _ _ _ hst fun b _ o e => old b o e
  have hL2 : L < s₂.heap.objs.size := F.ns.lt
  have hnew : ∀ a, s₂.heap.objs.size ≤ a → h₀.get? a = none := fun a ha => by
    cases e : h₀.get? a with
    | none => rfl
    | some o' => exact absurd (Heap.lt_size (F.keep _ _ e)) (Nat.not_lt.mpr ha)
  have hns : ∀ p ∈ news, p.1 < s₂.heap.objs.size := fun p hp => Heap.lt_size (N p hp).1
  have hCge : s₂.heap.objs.size ≤ H2.objs.size := by rw [hC]; exact Nat.le_succ _
  have loop : ∀ s₃ : Shared, s₃ = { s₂ with heap := h₁, toks := s₂.toks + ([] : List (Str × Value)).length } →
      codeAny (model prog w) A (.compLoop (.ListComp elt [⟨target, iter, ifs, 0⟩] scope pos) 0 (.ref I) (.ref s₂.heap.objs.size) (compEnvC scope cl H2.objs.size env))
        (RR (.ref s₂.heap.objs.size) H2.objs.size) s₃ := by
    rintro s₃ rfl
    refine cm_loop (cenv := compEnvC scope cl H2.objs.size env) W hLf hCf hDf (below L hL2).1.symm (below L hL2).2.symm hDC (hnew _ (Nat.le_refl _)) hwr hnw (fun p hp => (below _ (hns p hp)).2) hst₁ (F.keeps old) (News.keepsAll N old) hacc hns₁ J h0 ?_ ?_ hsz ht
    · intro i v ys h tk mC own k E' hi hP hJ hyl hC' F' N' hown
      refine turn H2.objs.size s₂.heap.objs.size i v ys h tk mC own k E' hi hP hJ hyl (below L hL2).1.symm (hnew _ hCge) (fun p hp => (below _ (hns p hp)).1) (fun p hp e => ?_) hDC hC' F' N'
      exact hCf (e ▸ hown p hp)
    · intro ys h tk k mC hJ F' N' hC'
      refine hRR _ _ h tk mC _ (fun h'' tk' F'' N'' => fin ys _ h'' tk' k hJ hns F'' N'') F' N' ?_ (hnew _ hCge) hC' (below L hL2).1
      intro p hp
      rcases List.mem_cons.mp hp with rfl | hp
      · exact hDC
      · exact (below _ (hns p hp)).1
  exact codeAny_compStart_list (loop _ rfl) (W.self 0 _ _ _ hst₁ (loop _ rfl))
theorem fr_but {h h' : Heap} (F : Fr h₀ L h m) {C : Addr} (hC : h₀.get? C = none) (hL : L ≠ C) (hs : Heap.SameBut C h h') : Fr h₀ L h' m :=
  ⟨F.ns.sameBut hs hL, fun b o e => (hs.2 b (fun q => by rw [q, hC] at e; cases e)).trans (F.keep b o e), F.above⟩
theorem news_but {h h' : Heap} (N : News h₀ L h news) {C : Addr} (hC : ∀ p ∈ news, p.1 ≠ C) (hs : Heap.SameBut C h h') : News h₀ L h' news :=
  fun p hp => ⟨(hs.2 _ (hC p hp)).trans (N p hp).1, (N p hp).2⟩
/-- a comprehension as a value -/
theorem cm_eval {s : Shared} {elt iter target : PySem.Expr} {ifs : List PySem.Expr} {scope : Scope} {cl : List (Str × Addr)} {pos : Pos} {Q : Value → Shared → Prop}
    (hclos : closureFor scope env = pure cl) (hcell : ∀ y ∈ scope.names, y.2 ≠ .cell) (hkind : scope.kind = .function)
    (hnames : ∀ y ∈ scope.names, y.2 = .local → scope.names.lookup y.1 = some .local)
    (h : wpAny (model prog w) A (eval iter env) (fun xv s₁ => wpAny (model prog w) A (pyIter xv) (fun it s₂ => ∃ h₀ L m news, CompAt prog w A h₀ L env scope cl target elt ifs m news (fun _ => m) Q it s₂) E s₁) E s)
    (hs : ∀ x, foldedSetIterable iter env x = pure x := by intro _; rfl) :
    wpAny (model prog w) A (eval (.ListComp elt [⟨target, iter, ifs, 0⟩] scope pos) env) Q E s := by
  rw [eval_ListComp]
  refine wpAny_comprehension_free (use := none) rfl hs hclos hkind hnames (wpAny_mono h (fun xv s₁ h₁ => wpAny_mono h₁ (fun it s₂ h₂ => ?_) fun _ _ e => e) fun _ _ e => e)
  obtain ⟨h₀, L, m, news, h₂⟩ := h₂
  refine cm_block (RR := fun acc C => compPost (model prog w) A E none Q acc C) hcell hkind h₂ ?_
  intro D C h' tk m' led hQ F N hC hC0 hn hLC
  exact ⟨m', hn, fun h'' hs'' => hQ h'' _ (fr_but F hC0 hLC hs'') (news_but N hC hs'')⟩
/-- a comprehension stored under a local name -/
theorem cm_assign {s : Shared} {elt iter target : PySem.Expr} {ifs : List PySem.Expr} {y : Str} {py : Pos} {scope : Scope} {cl : List (Str × Addr)} {pos spos : Pos} {Q : Flow → Shared → Prop}
    (hsw : swapsWith (.ListComp elt [⟨target, iter, ifs, 0⟩] scope pos) (some (.Name y py)) spos.line env = pure true)
    (hclos : closureFor scope env = pure cl) (hcell : ∀ z ∈ scope.names, z.2 ≠ .cell) (hkind : scope.kind = .function)
    (hnames : ∀ z ∈ scope.names, z.2 = .local → scope.names.lookup z.1 = some .local)
    (hy : env.kindOf y = some .local) (hp : (env.scope.kind == .class || (env.scope.kind == .module && env.locals != env.globals)) = false)
    (h : wpAny (model prog w) A (eval iter env) (fun xv s₁ => wpAny (model prog w) A (pyIter xv) (fun it s₂ => ∃ h₀ m news, CompAt prog w A h₀ env.locals env scope cl target elt ifs m news
        (fun D z => if z = y then some (.ref D) else m z) (fun _ s' => Q .next s') it s₂) E s₁) E s)
    (hs : ∀ x, foldedSetIterable iter env x = pure x := by intro _; rfl) :
    wpAny (model prog w) A (exec (.Assign [.Name y py] (.ListComp elt [⟨target, iter, ifs, 0⟩] scope pos) spos) env) Q E s := by
  rw [exec_Assign_Name_used _ _ _ _ hsw]
  refine wpAny_bind (wpAny_standAt (wpAny_bind ?_))
  show wpAny _ A (do let _ ← comprehension (.ListComp elt [⟨target, iter, ifs, 0⟩] scope pos) scope env _ (newList []) false (eval iter env) (some (assign (.Name y py) env))) _ _ s
  refine wpAny_bind (wpAny_mono (wpAny_comprehension_free (use := some (assign (.Name y py) env)) (Q := fun _ s' => Q .next s') rfl hs hclos hkind hnames
    (wpAny_mono h (fun xv s₁ h₁ => wpAny_mono h₁ (fun it s₂ h₂ => ?_) fun _ _ e => e) fun _ _ e => e)) (fun _ s' hq => wpAny_pure (wpAny_pure hq)) fun _ _ e => e)
  obtain ⟨h₀, m, news, h₂⟩ := h₂
  refine cm_block (RR := fun acc C => compPost (model prog w) A E (some (assign (.Name y py) env)) (fun _ s' => Q .next s') acc C) hcell hkind h₂ ?_
  intro D C h' tk m' led hQ F N hC hC0 hn hLC
  refine wpAny_assign_Name (wpAny_storeName_local hy F.ns (fun h₂ hn₂ hs₂ => ?_) hp)
  refine ⟨m', hn.sameBut hs₂ (Ne.symm hLC), fun h₃ hs₃ => ?_⟩
  exact hQ h₃ _ (fr_but (F.set hn₂ hs₂) hC0 hLC hs₃) (news_but (N.set hs₂) hC hs₃)
end
end Mine
open PySem PySem.W PyProof.Rows
set_option Elab.async false
namespace Mine
/-- an object that holds names -/
def NsObj (o : Obj) (m : Str → Option Value) : Prop := ∃ es ep, o.data = .dict es ep ∧ StrKeys es ∧ ∀ name, nsFind es name = m name
theorem NsObj.ns {o : Obj} {m : Str → Option Value} {h : Heap} {a : Addr} (x : NsObj o m) (e : h.get? a = some o) : h.Ns a m := let ⟨es, ep, r⟩ := x; ⟨o, es, ep, e, r⟩
/-- the frame and the ledger stand -/
def CGo (h₀ : Heap) (L : Addr) (m : Str → Option Value) (led : List (Addr × Obj)) (s s' : Shared) : Prop := ∃ h' tk', s' = { s with heap := h', toks := tk' } ∧ Fr h₀ L h' m ∧ News h₀ L h' led
section
variable {prog : Program} {w : World} {A : Around} {E : Value → Shared → Prop} {s : Shared} {h₀ : Heap} {L C D : Addr} {m mC : Str → Option Value} {news led : List (Addr × Obj)} {env : Env} {scope : Scope} {cl : List (Str × Addr)} {elt : PySem.Expr} {x : Str} {px : Pos} {v : Value} {ys : List Value} {J₁ : List Value → Prop} {E' : Value → Shared → Prop}
theorem cgo_end {s₀ s₄ : Shared} {oC : Obj} {h : Heap} {tk : Nat} (ho : NsObj oC mC) (e : s₀ = { s with heap := h, toks := tk }) (g : CGo h₀ L m ((C, oC) :: led) s s₄) : CEnd h₀ L m led C s₀ s₄ := by
  obtain ⟨h', tk', rfl, F, N⟩ := g
  subst e
  exact ⟨h', tk', mC, rfl, F, fun p hp => N p (List.mem_cons_of_mem _ hp), ho.ns (N _ (List.mem_cons_self ..)).1⟩
theorem cturn0 {h : Heap} {tk : Nat} {s₀ : Shared} (e : s₀ = { s with heap := h, toks := tk }) (hx : (compEnvC scope cl C env).kindOf x = some .local) (hkind : scope.kind = .function)
    (hCL : C ≠ L) (hC0 : h₀.get? C = none) (hCl : ∀ p ∈ led, p.1 ≠ C) (hC : h.Ns C mC) (F : Fr h₀ L h m) (N : News h₀ L h led)
    (go : ∀ oC h' tk', NsObj oC (fun z => if z = x then some v else mC z) → Fr h₀ L h' m → News h₀ L h' ((C, oC) :: led) →
      wpAny (model prog w) A (eval elt (compEnvC scope cl C env)) (fun y s₄ => CGo h₀ L m ((C, oC) :: led) s s₄ ∧ J₁ (ys ++ [y])) E' { s with heap := h', toks := tk' }) :
    CTurn prog w A h₀ L m led (.Name x px) elt [] (compEnvC scope cl C env) J₁ ys v E' s₀ := by
  subst e
  unfold CTurn
  refine wpAny_assign_Name (wpAny_storeName_local hx hC (fun h₂ hn₂ hs₂ => ?_) (by simp [compEnvC, relabel, hkind]))
  simp only [List.forIn_nil]
  refine wpAny_pure ?_
  simp only [if_true]
  obtain ⟨oC, es, ep, ho, hr⟩ := hn₂
  have hoC : NsObj oC (fun z => if z = x then some v else mC z) := ⟨es, ep, hr⟩
  have F₂ := fr_but F hC0 hCL.symm hs₂
  have N₂ : News h₀ L h₂ ((C, oC) :: led) := fun p hp => by
    rcases List.mem_cons.mp hp with rfl | hp
    · exact ⟨ho, hCL, hC0⟩
    · exact news_but N hCl hs₂ p hp
  exact wpAny_mono (go oC h₂ _ hoC F₂ N₂) (fun y s₄ g => ⟨cgo_end hoC rfl g.1, g.2⟩) fun _ _ e => e
theorem cturn1 {h : Heap} {tk : Nat} {s₀ : Shared} {c : PySem.Expr} (e : s₀ = { s with heap := h, toks := tk }) (hx : (compEnvC scope cl C env).kindOf x = some .local) (hkind : scope.kind = .function)
    (hCL : C ≠ L) (hC0 : h₀.get? C = none) (hCl : ∀ p ∈ led, p.1 ≠ C) (hC : h.Ns C mC) (F : Fr h₀ L h m) (N : News h₀ L h led)
    (go : ∀ oC h' tk', NsObj oC (fun z => if z = x then some v else mC z) → Fr h₀ L h' m → News h₀ L h' ((C, oC) :: led) →
      wpAny (model prog w) A (isTrue c (compEnvC scope cl C env) (eval c (compEnvC scope cl C env))) (fun b s₃ => if b = true then wpAny (model prog w) A (eval elt (compEnvC scope cl C env)) (fun y s₄ => CGo h₀ L m ((C, oC) :: led) s s₄ ∧ J₁ (ys ++ [y])) E' s₃ else CGo h₀ L m ((C, oC) :: led) s s₃ ∧ J₁ ys) E' { s with heap := h', toks := tk' }) :
    CTurn prog w A h₀ L m led (.Name x px) elt [c] (compEnvC scope cl C env) J₁ ys v E' s₀ := by
  subst e
  unfold CTurn
  refine wpAny_assign_Name (wpAny_storeName_local hx hC (fun h₂ hn₂ hs₂ => ?_) (by simp [compEnvC, relabel, hkind]))
  refine wpAny_tests_one ?_
  obtain ⟨oC, es, ep, ho, hr⟩ := hn₂
  have hoC : NsObj oC (fun z => if z = x then some v else mC z) := ⟨es, ep, hr⟩
  have F₂ := fr_but F hC0 hCL.symm hs₂
  have N₂ : News h₀ L h₂ ((C, oC) :: led) := fun p hp => by
    rcases List.mem_cons.mp hp with rfl | hp
    · exact ⟨ho, hCL, hC0⟩
    · exact news_but N hCl hs₂ p hp
  refine wpAny_mono (go oC h₂ _ hoC F₂ N₂) (fun b s₃ g => ?_) fun _ _ e => e
  cases b with
  | true =>
    simp only [if_true] at g ⊢
    exact wpAny_mono g (fun y s₄ g => ⟨cgo_end hoC rfl g.1, g.2⟩) fun _ _ e => e
  | false =>
    simp only [Bool.false_eq_true, if_false] at g ⊢
    exact ⟨cgo_end hoC rfl g.1, g.2⟩
end
/-- what a turn with one name and no test must show -/
def Turn0 (prog : Program) (w : World) (A : Around) (h₀ : Heap) (L : Addr) (env : Env) (scope : Scope) (cl : List (Str × Addr)) (x : Str) (elt : PySem.Expr) (m : Str → Option Value) (news : List (Addr × Obj)) (n : Nat) (P : Nat → Value → Prop) (J : Nat → List Value → Prop) (s : Shared) : Prop :=
  ∀ i v ys C oC D h tk own k E' mC, i < n → P i v → J i ys → ys.length ≤ i → mC x = some v → NsObj oC mC → Fr h₀ L h m → News h₀ L h ((C, oC) :: (D, listOf ys.toArray k) :: (news ++ own)) →
    wpAny (model prog w) A (eval elt (compEnvC scope cl C env)) (fun y s₄ => CGo h₀ L m ((C, oC) :: (D, listOf ys.toArray k) :: (news ++ own)) s s₄ ∧ J (i + 1) (ys ++ [y])) E' { s with heap := h, toks := tk }
def Turn1 (prog : Program) (w : World) (A : Around) (h₀ : Heap) (L : Addr) (env : Env) (scope : Scope) (cl : List (Str × Addr)) (x : Str) (c elt : PySem.Expr) (m : Str → Option Value) (news : List (Addr × Obj)) (n : Nat) (P : Nat → Value → Prop) (J : Nat → List Value → Prop) (s : Shared) : Prop :=
  ∀ i v ys C oC D h tk own k E' mC, i < n → P i v → J i ys → ys.length ≤ i → mC x = some v → NsObj oC mC → Fr h₀ L h m → News h₀ L h ((C, oC) :: (D, listOf ys.toArray k) :: (news ++ own)) →
    wpAny (model prog w) A (isTrue c (compEnvC scope cl C env) (eval c (compEnvC scope cl C env))) (fun b s₃ => if b = true then wpAny (model prog w) A (eval elt (compEnvC scope cl C env)) (fun y s₄ => CGo h₀ L m ((C, oC) :: (D, listOf ys.toArray k) :: (news ++ own)) s s₄ ∧ J (i + 1) (ys ++ [y])) E' s₃
      else CGo h₀ L m ((C, oC) :: (D, listOf ys.toArray k) :: (news ++ own)) s s₃ ∧ J (i + 1) ys) E' { s with heap := h, toks := tk }
/-- the tests and the turn that they ask -/
def TurnOf (prog : Program) (w : World) (A : Around) (h₀ : Heap) (L : Addr) (env : Env) (scope : Scope) (cl : List (Str × Addr)) (x : Str) (elt : PySem.Expr) (m : Str → Option Value) (news : List (Addr × Obj)) (n : Nat) (P : Nat → Value → Prop) (J : Nat → List Value → Prop) (s : Shared) : List PySem.Expr → Prop
  | [] => Turn0 prog w A h₀ L env scope cl x elt m news n P J s
  | [c] => Turn1 prog w A h₀ L env scope cl x c elt m news n P J s
  | _ => False
section
variable {prog : Program} {w : World} {A : Around} {E : Value → Shared → Prop} {s : Shared} {h₀ : Heap} {L : Addr} {m : Str → Option Value} {news : List (Addr × Obj)} {env : Env} {scope : Scope} {cl : List (Str × Addr)} {elt : PySem.Expr} {ifs : List PySem.Expr} {x : Str} {px : Pos} {upd : Addr → Str → Option Value} {Q : Value → Shared → Prop}
theorem ca_gen {I : Addr} {fp : List Addr} {n : Nat} {P : Nat → Value → Prop} {St : Nat → Heap → Prop} {o : Obj} (J : Nat → List Value → Prop) (hI : I = s.heap.objs.size) (W : Walks prog w A I fp [I] n P St) (hsz : n ≤ sizeLine) (hst : St 0 (s.heap.push o)) (hfp : ∀ b ∈ fp, b ≤ s.heap.objs.size) (hLf : L ∉ fp)
    (F : Fr h₀ L s.heap m) (N : News h₀ L s.heap news) (h0 : J 0 []) (hx : scope.names.lookup x = some .local) (hkind : scope.kind = .function)
    (turn : TurnOf prog w A h₀ L env scope cl x elt m news n P J s ifs)
    (fin : ∀ ys D h tk k, J n ys → (∀ p ∈ news, p.1 < D) → Fr h₀ L h (upd D) → News h₀ L h ((D, listOf ys.toArray k) :: news) → Q (.ref D) { s with heap := h, toks := tk }) :
    CompAt prog w A h₀ L env scope cl (.Name x px) elt ifs m news upd Q (.ref I) { s with heap := s.heap.push o } := by
  refine ⟨I, fp, [I], n, P, St, J, rfl, W, hsz, hst, fun b hb => by show b < (s.heap.push o).objs.size; rw [Heap.size_push]; exact Nat.lt_succ_of_le (hfp b hb), hLf, ?_, ?_, F.push _, (fun p hp => ⟨Heap.get?_push_of_some _ (N p hp).1, (N p hp).2⟩), h0, (by intro _; rfl), ?_, ?_⟩
  · intro b hb; rw [List.mem_singleton.mp hb, hI]; exact next_is_new F
  · intro p hp hm
    have e : p.1 = s.heap.objs.size := (List.mem_singleton.mp hm).trans hI
    exact absurd (Heap.lt_size (N p hp).1) (by rw [e]; exact Nat.lt_irrefl _)
  · intro C D i v ys h tk mC own k E' hi hP hJ hyl hCL hC0 hnC hoC hDC hC F' N'
    have hl : ∀ p ∈ (D, listOf ys.toArray k) :: (news ++ own), p.1 ≠ C := fun p hp => by
      rcases List.mem_cons.mp hp with rfl | hp
      · exact hDC
      · rcases List.mem_append.mp hp with hp | hp
        · exact hnC p hp
        · exact hoC p hp
    match ifs, turn with
    | [], turn => exact cturn0 (s := s) rfl (lookup_relabel_local hx) hkind hCL hC0 hl hC F' N' fun oC h' tk' ho F'' N'' => turn i v ys C oC D h' tk' own k E' _ hi hP hJ hyl (by simp) ho F'' N''
    | [c], turn => exact cturn1 (s := s) rfl (lookup_relabel_local hx) hkind hCL hC0 hl hC F' N' fun oC h' tk' ho F'' N'' => turn i v ys C oC D h' tk' own k E' _ hi hP hJ hyl (by simp) ho F'' N''
    | _ :: _ :: _, turn => exact turn.elim
  · intro ys D h tk k hJ hlt F' N'
    exact fin ys D h tk k hJ hlt F' N'
theorem ca_range {r : Addr} {a₀ b₀ st₀ : Int} {t₀ u₀ v₀ : Tok} {n : Nat} {Post : Value → Shared → Prop} (J : Nat → List Value → Prop) (hh : A.handled = none) (hr : IsRange s.heap r a₀ b₀ st₀ t₀ u₀ v₀) (hsmall : Builtin.Range.small a₀ b₀ st₀ = true) (hn : Builtin.Range.rangeSize a₀ b₀ st₀ = (n : Int)) (hsz : n ≤ 1000000)
    (F : Fr h₀ L s.heap m) (N : News h₀ L s.heap news) (h0 : J 0 []) (hx : scope.names.lookup x = some .local) (hkind : scope.kind = .function)
    (turn : TurnOf prog w A h₀ L env scope cl x elt m news n (fun i v => ∃ t, v = .int (a₀ + i * st₀) t) J s ifs)
    (fin : ∀ ys D h tk k, J n ys → (∀ p ∈ news, p.1 < D) → Fr h₀ L h (upd D) → News h₀ L h ((D, listOf ys.toArray k) :: news) → Q (.ref D) { s with heap := h, toks := tk })
    (post : ∀ it s₂, CompAt prog w A h₀ L env scope cl (.Name x px) elt ifs m news upd Q it s₂ → Post it s₂) :
    wpAny (model prog w) A (pyIter (.ref r)) Post E s := by
  refine wpAny_pyIter_range hr hsmall (post _ _ ?_)
  refine ca_gen J rfl (Walks.range hh _ a₀ st₀ n) (by simp [sizeLine]; omega) (by show IsRangeIter _ _ _ _ _; rw [hn]; simpa using Heap.get?_push_size _ rfl) (fun b hb => by rw [List.mem_singleton.mp hb]; exact Nat.le_refl _) ?_ F N h0 hx hkind turn fin
  intro hm; exact absurd F.ns.lt ((List.mem_singleton.mp hm) ▸ Nat.lt_irrefl _)
theorem ca_list {l : Addr} {vs : List Value} {Post : Value → Shared → Prop} (J : Nat → List Value → Prop) (hh : A.handled = none) (hl : s.heap.IsList l vs.toArray) (hlL : l ≠ L) (hsz : vs.length ≤ 1000000)
    (F : Fr h₀ L s.heap m) (N : News h₀ L s.heap news) (h0 : J 0 []) (hx : scope.names.lookup x = some .local) (hkind : scope.kind = .function)
    (turn : TurnOf prog w A h₀ L env scope cl x elt m news vs.length (fun i v => vs[i]? = some v) J s ifs)
    (fin : ∀ ys D h tk k, J vs.length ys → (∀ p ∈ news, p.1 < D) → Fr h₀ L h (upd D) → News h₀ L h ((D, listOf ys.toArray k) :: news) → Q (.ref D) { s with heap := h, toks := tk })
    (post : ∀ it s₂, CompAt prog w A h₀ L env scope cl (.Name x px) elt ifs m news upd Q it s₂ → Post it s₂) :
    wpAny (model prog w) A (pyIter (.ref l)) Post E s := by
  have hlt : l < s.heap.objs.size := by obtain ⟨o, ho, _⟩ := hl; exact Heap.lt_size ho
  refine wpAny_pyIter_list hl (post _ _ ?_)
  have W := Walks.list (prog := prog) (w := w) hh s.heap.objs.size l (Nat.ne_of_lt hlt) vs.toArray
  rw [List.size_toArray] at W
  have e : (fun (i : Nat) (v : Value) => vs.toArray[i]? = some v) = fun (i : Nat) (v : Value) => vs[i]? = some v := by funext i v; simp
  rw [e] at W
  refine ca_gen J rfl W (by simp [sizeLine]; omega) ⟨⟨_, Heap.get?_push_size _ rfl, rfl, rfl⟩, hl.push _⟩ (fun b hb => ?_) ?_ F N h0 hx hkind turn fin
  · rcases List.mem_cons.mp hb with rfl | hb
    · exact Nat.le_refl _
    · rw [List.mem_singleton.mp hb]; exact Nat.le_of_lt hlt
  · intro hm
    rcases List.mem_cons.mp hm with e | hm
    · exact absurd F.ns.lt (e ▸ Nat.lt_irrefl _)
    · exact hlL (List.mem_singleton.mp hm).symm
theorem ca_str {l : List Nat} {t : Tok} {Post : Value → Shared → Prop} (J : Nat → List Value → Prop) (hh : A.handled = none) (hsz : l.length ≤ 1000000)
    (F : Fr h₀ L s.heap m) (N : News h₀ L s.heap news) (h0 : J 0 []) (hx : scope.names.lookup x = some .local) (hkind : scope.kind = .function)
    (turn : TurnOf prog w A h₀ L env scope cl x elt m news l.length (fun i v => ∃ c u, l[i]? = some c ∧ v = .str (S [c]) u) J s ifs)
    (fin : ∀ ys D h tk k, J l.length ys → (∀ p ∈ news, p.1 < D) → Fr h₀ L h (upd D) → News h₀ L h ((D, listOf ys.toArray k) :: news) → Q (.ref D) { s with heap := h, toks := tk })
    (post : ∀ it s₂, CompAt prog w A h₀ L env scope cl (.Name x px) elt ifs m news upd Q it s₂ → Post it s₂) :
    wpAny (model prog w) A (pyIter (.str (S l) t)) Post E s := by
  refine wpAny_pyIter_str fun o St W hst => post _ _ ?_
  have W := W A hh
  have e1 : (S l).cps.size = l.length := by simp
  have e : SignAt (S l) = fun (i : Nat) (v : Value) => ∃ c u, l[i]? = some c ∧ v = .str (S [c]) u := by
    funext i v; unfold SignAt; simp
  rw [e1, e] at W
  refine ca_gen J rfl W (by simp [sizeLine]; omega) hst (fun b hb => by rw [List.mem_singleton.mp hb]; exact Nat.le_refl _) ?_ F N h0 hx hkind turn fin
  intro hm; exact absurd F.ns.lt ((List.mem_singleton.mp hm) ▸ Nat.lt_irrefl _)
end
section
variable {prog : Program} {w : World} {A : Around} {M : Model} {E : Value → Shared → Prop} {s : Shared} {h₀ : Heap} {L C : Addr} {m mC : Str → Option Value} {led : List (Addr × Obj)} {env : Env} {scope : Scope} {cl : List (Str × Addr)} {x : Str} {pos : Pos} {v : Value} {Q : Value → Shared → Prop} {oC : Obj} {K : Frag} {p : Program} {loose : List Str} {mg mb : Str → Option Value}
theorem cn_L (N : News h₀ L s.heap led) (hm : (C, oC) ∈ led) (ho : NsObj oC mC) (hv : mC x = some v) (h : Q v s) (hk : (compEnvC scope cl C env).scope.kind = .function) (hl : (compEnvC scope cl C env).kindOf x = some .local) (hd : (x == ("__debug__" : Str)) = false) :
    wpAny M A (eval (.Name x pos) (compEnvC scope cl C env)) Q E s := wpAny_Name (wpAny_loadName_local hk hl (ho.ns (N _ hm).1) hv h) hd
theorem cn_C {c : Addr} {o : Obj} (N : News h₀ L s.heap led) (hc : cl.lookup x = some c) (hm : (c, o) ∈ led) (hd : o.data = .cell (some v)) (h : Q v s) (hk : (compEnvC scope cl C env).scope.kind = .function) (hl : (compEnvC scope cl C env).kindOf x = some .cell) (hb : (x == ("__debug__" : Str)) = false) :
    wpAny M A (eval (.Name x pos) (compEnvC scope cl C env)) Q E s := wpAny_Name (wpAny_loadName_cell hk hl hc ⟨o, N.get hm, hd⟩ h) hb
theorem cn_K (hg : env.globals = mainGlobals) (F : Fr h₀ L s.heap m) (X : K.In h₀) (T : TopRead p loose mg mb h₀) (e : nsIn K mainGlobals x = some (some v)) (h : Q v s)
    (hk : (compEnvC scope cl C env).scope.kind = .function) (hx : (compEnvC scope cl C env).kindOf x = some .globalImplicit) (hd : (x == ("__debug__" : Str)) = false) :
    wpAny M A (eval (.Name x pos) (compEnvC scope cl C env)) Q E s := PySem.Calls.Name_function_global hk hx (PySem.Calls.loadGlobal_global (env := compEnvC scope cl C env) (by show s.heap.Ns env.globals mg; rw [hg]; exact T.g.keeps F.keep) (mg_of X T.g e) h) hd
theorem cn_B (hg : env.globals = mainGlobals) (hb : env.builtins = builtinsNs) (F : Fr h₀ L s.heap m) (X : K.In h₀) (T : TopRead p loose mg mb h₀) (e : nsIn K mainGlobals x = some none) (hv : bootBuiltins x = some v) (hn : x ≠ "__name__") (h : Q v s)
    (hk : (compEnvC scope cl C env).scope.kind = .function) (hx : (compEnvC scope cl C env).kindOf x = some .globalImplicit) (hd : (x == ("__debug__" : Str)) = false) :
    wpAny M A (eval (.Name x pos) (compEnvC scope cl C env)) Q E s :=
  PySem.Calls.Name_function_global hk hx (PySem.Calls.loadGlobal_builtin (env := compEnvC scope cl C env) (by show s.heap.Ns env.globals mg; rw [hg]; exact T.g.keeps F.keep) (mg_none_of X T.g e) (by show s.heap.Ns env.builtins mb; rw [hb]; exact T.b.keeps F.keep) ((T.builtins x hn).trans hv) h) hd
end
end Mine
open PySem PySem.W PyProof.Rows
set_option Elab.async false
namespace Mine
set_option maxRecDepth 100000
def sub {α : Type} [DecidableEq α] : List α → List α → Bool
  | [], _ => true
  | _ :: _, [] => false
  | c :: w, d :: t => if c = d then sub w t else sub (c :: w) t
theorem sub_nil {α : Type} [DecidableEq α] (t : List α) : sub [] t = true := by unfold sub; rfl
theorem sub_map {α β : Type} [DecidableEq α] [DecidableEq β] {f : α → β} (hf : ∀ a b, f a = f b → a = b) : ∀ (t w : List α), sub (w.map f) (t.map f) = sub w t
  | [], [] => by simp [sub]
  | [], _ :: _ => by simp [sub]
  | _ :: _, [] => by simp [sub]
  | d :: t, c :: w => by
    simp only [List.map_cons, sub]
    by_cases h : c = d
    · rw [if_pos h, if_pos (by rw [h]), sub_map hf t w]
    · rw [if_neg h, if_neg (fun q => h (hf _ _ q)), ← List.map_cons, sub_map hf t (c :: w)]
theorem findAt_step (g w : List Nat) {lo hi : Nat} (h : lo ≤ hi) : findAt g w lo hi = if (decide (lo + w.length ≤ hi) && decide ((g.drop lo).take w.length = w)) = true then some lo else findAt g w (lo + 1) hi := by
  unfold findAt
  rw [show hi + 1 - lo = (hi - lo) + 1 by omega, List.range'_succ, List.find?_cons, show hi + 1 - (lo + 1) = hi - lo by omega]
  split <;> simp_all
theorem findAt_end (g w : List Nat) {lo hi : Nat} (h : hi < lo) : findAt g w lo hi = none := by
  unfold findAt
  rw [show hi + 1 - lo = 0 by omega]; rfl
theorem runW_sub (g : List Nat) : ∀ (k : Nat) (w : List Nat) (sp : Nat), sp + k = g.length → runW g g.length (w.map fun c => [c]) sp = sub w (g.drop sp)
  | k, [], sp, h => by rw [List.map_nil, runW, sub_nil]
  | 0, c :: w, sp, h => by
    rw [List.map_cons, runW, findAt_step _ _ (by omega), if_neg (by simp; omega), findAt_end _ _ (by omega), List.drop_eq_nil_of_le (by omega)]
    rfl
  | k + 1, c :: w, sp, h => by
    have hlt : sp < g.length := by omega
    have ht : (g.drop sp).take [c].length = [g[sp]] := by rw [List.drop_eq_getElem_cons hlt]; rfl
    rw [List.map_cons, runW, findAt_step _ _ (by omega), ht, List.drop_eq_getElem_cons hlt]
    by_cases hc : c = g[sp]
    · rw [if_pos (by rw [hc]; simp only [List.length_cons, List.length_nil, Bool.and_eq_true, decide_eq_true_eq]; exact ⟨by omega, trivial⟩)]
      show runW g g.length (w.map fun c => [c]) (sp + 1) = _
      rw [runW_sub g k w (sp + 1) (by omega), sub, if_pos hc]
    · rw [if_neg (by simp only [Bool.and_eq_true, decide_eq_true_eq]; rintro ⟨_, q⟩; exact hc (List.cons.inj q).1.symm), sub, if_neg hc, ← runW_sub g k (c :: w) (sp + 1) (by omega)]
      rfl
theorem pat_split : ∀ (c : Nat) (w : List Nat), (∀ d ∈ c :: w, d ≠ 46) → splitD (jn dots ((c :: w).map fun c => [c]) ++ dots) = ((c :: w).map fun c => [c]) ++ [[]]
  | c, [], h => by
    show splitD ([c] ++ 46 :: 46 :: 46 :: []) = _
    rw [splitD_app (by simpa using h)]
    rw [splitD]; rfl
  | c, d :: w, h => by
    have e : jn dots ((c :: d :: w).map fun c => [c]) ++ dots = [c] ++ 46 :: 46 :: 46 :: (jn dots ((d :: w).map fun c => [c]) ++ dots) := by
      simp [jn, dots]
    rw [e, splitD_app (by intro q hq; exact h q (by simp at hq; simp [hq])), pat_split d w (fun q hq => h q (List.mem_cons_of_mem _ hq))]
    rfl
theorem ematch_pat {w : List Nat} (wt : List Nat) (h : ∀ d ∈ w, d ≠ 46) : ematch (pat w) wt = sub w wt := by
  cases w with
  | nil =>
    rw [ematch_clean (a := pat []) (p := []) (l := []) (mid := [[]]) (by decide)]
    rw [sub_nil, runW_nil (by simp)]
    simp [runW]
  | cons c w =>
    have e : splitD (pat (c :: w)) = [] :: (((c :: w).map fun c => [c]) ++ [[]]) := by
      unfold pat
      rw [List.append_assoc, show dots = 46 :: 46 :: 46 :: [] from rfl, List.cons_append, List.cons_append, List.cons_append, splitD_dots, List.nil_append]
      rw [← pat_split c w h]; rfl
    rw [ematch_clean e]
    have := runW_sub wt wt.length (c :: w) 0 (by omega)
    simp only [List.length_nil, Nat.sub_zero]
    rw [this]; simp
/-- the same over bits -/
def wrB : Nat → Nat → List Bool → List Bool
  | 0, _, acc => acc
  | n + 1, k, acc => if k = 0 then wrB n k acc else wrB n (k / 2) (decide (k % 2 ≠ 0) :: acc)
def fB (x y : Nat) (b : Bool) : Nat := if b then y else x
theorem wr_map (x y : Nat) : ∀ (n k : Nat) (acc : List Bool), wr x y n k (acc.map (fB x y)) = (wrB n k acc).map (fB x y)
  | 0, k, acc => rfl
  | n + 1, k, acc => by
    rw [wr, wrB]
    by_cases h : k = 0
    · rw [if_pos h, if_pos h, wr_map x y n k acc]
    · rw [if_neg h, if_neg h, ← wr_map x y n (k / 2)]
      congr 1
      rw [List.map_cons]; congr 1
      by_cases h2 : k % 2 = 0 <;> simp [fB, h2]
def wstepB (wt : List Bool) (st : List (List Bool) × List (List Bool)) (i : Nat) : List (List Bool) × List (List Bool) := match st.2[i]? with
  | none => st
  | some w => if sub w wt then (st.1 ++ [w], st.2 ++ [w ++ [false], w ++ [true]]) else st
def wwB (wt : List Bool) (n : Nat) : List (List Bool) × List (List Bool) := (List.range n).foldl (wstepB wt) ([[]], [[true]])
theorem wwords_map {x y : Nat} (hxy : x ≠ y) (hx : x ≠ 46) (hy : y ≠ 46) (wt : List Bool) : ∀ n, wwords x y (wt.map (fB x y)) n = ((wwB wt n).1.map (List.map (fB x y)), (wwB wt n).2.map (List.map (fB x y)))
  | 0 => rfl
  | n + 1 => by
    have e : wwB wt (n + 1) = wstepB wt (wwB wt n) n := by unfold wwB; rw [List.range_succ, List.foldl_append]; rfl
    rw [wwords_succ, wwords_map hxy hx hy wt n, e]
    unfold wstep wstepB
    dsimp only
    rw [List.getElem?_map]
    cases (wwB wt n).2[n]? with
    | none => rfl
    | some w =>
      show (if ematch (pat (w.map (fB x y))) (wt.map (fB x y)) = true then _ else _) = _
      rw [ematch_pat _ (by
        intro d hd
        obtain ⟨b, _, rfl⟩ := List.mem_map.mp hd
        cases b
        · exact hx
        · exact hy), sub_map (by
        intro a b hab
        cases a <;> cases b <;> simp_all [fB])]
      by_cases hs : sub w wt = true
      · simp only [hs, if_true]
        simp [fB]
      · simp only [hs]; simp
def fgB (n : Nat) : List Bool := ((List.range 6).filter fun j => decide (2 ^ (5 - j) ≤ n)).map fun j => decide (n / 2 ^ (5 - j) % 2 ≠ 0)
def fgs (x y n i : Nat) : List (List Nat) := ((List.range i).filter fun j => decide (2 ^ (5 - j) ≤ n)).map fun j => [if n / 2 ^ (5 - j) % 2 = 0 then x else y]
theorem jn_one (l : List Nat) : jn [] (l.map fun c => [c]) = l := by
  induction l with
  | nil => rfl
  | cons c r ih => cases r with
    | nil => rfl
    | cons d r => rw [List.map_cons] at ih ⊢; rw [List.map_cons, jn, ih]; simp; simp
theorem fgs_map (x y n : Nat) : jn [] (fgs x y n 6) = (fgB n).map (fB x y) := by
  have : fgs x y n 6 = ((fgB n).map (fB x y)).map fun c => [c] := by
    unfold fgs fgB
    rw [List.map_map, List.map_map]
    apply List.map_congr_left
    intro j _
    by_cases h : n / 2 ^ (5 - j) % 2 = 0 <;> simp [fB, h]
  rw [this, jn_one]
def okB (n : Nat) : Bool :=
  let wt := wrB 6 n []
  let W := (wwB wt 64).1
  decide (fgB n = wt) && decide (W.getLast? = some wt) && decide (((W.filter fun w => decide (w.getLast? = some true)).length : Int) = (frac n).1) && decide (((W.length : Int)) = (frac n).1 + (frac n).2) && decide ((if n = 0 then 0 else (wways (n - 1) 8).2) = (frac n).1) && decide ((wways n 8).2 = (frac n).2)
theorem okB_all : (List.range 64).all okB = true := by decide +kernel
theorem okB_at {n : Nat} (h : n < 64) : okB n = true := by
  have := okB_all
  rw [List.all_eq_true] at this
  exact this n (by simpa using h)
theorem last_map {x y : Nat} (hxy : x ≠ y) (w : List Bool) : decide ((w.map (fB x y)).drop ((w.map (fB x y)).length - 1) = [y]) = decide (w.getLast? = some true) := by
  rcases List.eq_nil_or_concat w with rfl | ⟨r, b, rfl⟩
  · rfl
  · have : ((r ++ [b]).map (fB x y)).drop (((r ++ [b]).map (fB x y)).length - 1) = [fB x y b] := by simp
    rw [List.concat_eq_append, this]
    cases b <;> simp [fB, hxy]
theorem plain2 {x y n : Nat} (hxy : x ≠ y) (hx : x ≠ 46) (hy : y ≠ 46) (hn : n < 64) :
    jn [] (fgs x y n 6) = wr x y 6 n [] ∧ (∃ ws, (wwords x y (wr x y 6 n []) 64).1 = ws ++ [wr x y 6 n []]) ∧
    ((((wwords x y (wr x y 6 n []) 64).1.filter fun w => decide (w.drop (w.length - 1) = [y])).length : Int) = (frac n).1) ∧
    (((wwords x y (wr x y 6 n []) 64).1.length : Int) = (frac n).1 + (frac n).2) ∧
    ((if n = 0 then 0 else (wways (n - 1) 8).2) = (frac n).1) ∧ (wways n 8).2 = (frac n).2 := by
  have h := okB_at hn
  unfold okB at h
  simp only [Bool.and_eq_true, decide_eq_true_eq] at h
  have e0 := wwords_map hxy hx hy (wrB 6 n []) 64
  have e : wr x y 6 n [] = (wrB 6 n []).map (fB x y) := wr_map x y 6 n []
  rw [← e] at e0
  rw [e0]
  generalize wwB (wrB 6 n []) 64 = W at h ⊢
  clear e0
  rw [e, fgs_map]
  obtain ⟨⟨⟨⟨⟨h1, h2⟩, h3⟩, h4⟩, h5⟩, h6⟩ := h
  refine ⟨by rw [h1], ?_, ?_, ?_, h5, h6⟩
  · obtain ⟨r, hr⟩ := List.getLast?_eq_some_iff.mp h2
    dsimp only
    rw [hr]
    exact ⟨r.map (List.map (fB x y)), by simp⟩
  · dsimp only
    rw [List.filter_map, List.length_map, ← h3]
    congr 3
    funext w
    exact last_map hxy w
  · dsimp only
    rw [List.length_map, h4]
end Mine
open PySem PySem.W PyProof.Rows
set_option Elab.async false
namespace Mine
set_option maxRecDepth 100000
def lenB (n : Nat) : Bool := (wwB (wrB 6 n []) 64).1.all fun w => decide (w.length ≤ 6)
theorem lenB_all : (List.range 64).all lenB = true := by decide +kernel
theorem plain2l {x y n : Nat} (hxy : x ≠ y) (hx : x ≠ 46) (hy : y ≠ 46) (hn : n < 64) : ∀ w ∈ (wwords x y (wr x y 6 n []) 64).1, w.length ≤ 6 := by
  have h : lenB n = true := by
    have := lenB_all
    rw [List.all_eq_true] at this
    exact this n (by simpa using hn)
  unfold lenB at h
  have e0 := wwords_map hxy hx hy (wrB 6 n []) 64
  have e : wr x y 6 n [] = (wrB 6 n []).map (fB x y) := wr_map x y 6 n []
  rw [← e] at e0
  rw [e0]
  generalize wwB (wrB 6 n []) 64 = W at h ⊢
  intro w hw
  obtain ⟨v, hv, rfl⟩ := List.mem_map.mp hw
  rw [List.length_map]
  rw [List.all_eq_true] at h
  simpa using h v hv
end Mine
open PySem PySem.W PyProof.Rows
set_option Elab.async false
namespace Mine
/-- sep.join(a list of texts) -/
theorem join_listS {prog : Program} {w : World} {A : Around} {E : Value → Shared → Prop} {s : Shared} {sep : List Nat} {t : Tok} {Q : Value → Shared → Prop} {D : Addr} {q : List (List Nat × Tok)} {B : Nat} (hl : s.heap.IsList D (sv q).toArray) (hs : sep.length ≤ 1000) (hB : ∀ x ∈ q, x.1.length ≤ B) (hB2 : B ≤ 1000) (hn : q.length ≤ 1000)
    (hq : ∀ t' k, Q (.str (S (jn sep (q.map (·.1)))) t') { s with toks := k }) :
    wpAny (model prog w) A (call (.builtin "str.join") [.str (S sep) t, .ref D]) Q E s := by
  have e0 : sv q = strValues (q.map fun p => (S p.1, p.2)) := by
    simp [sv, strValues, List.map_map, Function.comp_def]
  rw [e0] at hl
  refine SC.join hl (texts := (q.map (·.1)).map S) (by simp [List.map_map, Function.comp_def]) ?_ ?_
  · unfold JoinOk
    rw [Bool.not_eq_true']
    refine StrLaws.joinFits (B := B) ?_ ?_
    · intro y hy
      simp only [List.map_map, List.mem_map, Function.comp_def] at hy
      obtain ⟨p, hp, rfl⟩ := hy
      rw [S_len]; exact hB p hp
    · rw [List.length_map, List.length_map, S_len]
      have h1 : q.length * sep.length ≤ 1000 * 1000 := Nat.mul_le_mul hn hs
      have h2 : q.length * B ≤ 1000 * 1000 := Nat.mul_le_mul hn hB2
      first
      | omega
      | (rw [Nat.mul_add]; omega)
  · intro t' k
    rw [S_join]; exact hq t' k
end Mine
open PySem PySem.W PyProof.Rows
set_option Elab.async false
namespace Mine
set_option maxRecDepth 100000
set_option maxHeartbeats 8000000
section
variable {M : Model} {A : Around} {E : Value → Shared → Prop} {s : Shared} {env : Env} {x : Str} {t u : Tok}
theorem gen_int {X : Int} {Q : Unit → Shared → Prop} (h : ∀ z, z = X → wpAny M A (storeName env x (.int z t)) Q E s) : wpAny M A (storeName env x (.int X t)) Q E s := h X rfl
theorem gen_two {a b : Int} {Q : Value → Shared → Prop} (h : ∀ z z', z = a → z' = b → wpAny M A (newTuple [.int z t, .int z' u]) Q E s) : wpAny M A (newTuple [.int a t, .int b u]) Q E s := h a b rfl rfl
theorem gen_stock {a : Nat} {Q : Unit → Shared → Prop} (h : ∀ c, c = a → wpAny M A (storeName env x (.str (S [97, 34, 122, 32, 10, 48, 40, c]) t)) Q E s) : wpAny M A (storeName env x (.str (Str.ofString "a\"z \n0(" ++ ⟨#[a]⟩) t)) Q E s := by
  have e : Str.ofString "a\"z \n0(" ++ (⟨#[a]⟩ : Str) = S [97, 34, 122, 32, 10, 48, 40, a] := by
    rw [show Str.ofString "a\"z \n0(" = S [97, 34, 122, 32, 10, 48, 40] from by decide]
    show S [97, 34, 122, 32, 10, 48, 40] ++ S [a] = _
    rw [S_app]; rfl
  rw [e]; exact h a rfl
end
local macro_rules | `(tactic| walk_at "st") => `(tactic| first | (k_unfold; (try dsimp only)) | walk1 | (dsimp only; walk1) | (leave1; try dsimp only))
theorem step_in {z s : Int} (h : s = 1 + z.fmod 7) : 1 ≤ s ∧ s ≤ 7 := by
  have h1 := fmod_lo z (show (0 : Int) < 7 by decide)
  have h2 := fmod_hi z (show (0 : Int) < 7 by decide)
  omega
theorem code_in {z : Int} {c : Nat} (h : c = (256 + z.fmod 50000).toNat) : 256 ≤ c := by
  have h1 := fmod_lo z (show (0 : Int) < 50000 by decide)
  omega
theorem fold_marks : ∀ (n : Nat) (acc : Array Nat), (List.replicate n #[34]).foldl (· ++ ·) acc = acc ++ (rep n).toArray
  | 0, acc => by simp [rep]
  | n + 1, acc => by
    rw [List.replicate_succ, List.foldl_cons, fold_marks n, rep_succ]
    simp
theorem mul_mark {prog : Program} {w : World} {A : Around} {E : Value → Shared → Prop} {s : Shared} {t u : Tok} {number : Int} {Q : Value → Shared → Prop} (h0 : 0 ≤ number) (h1 : number < 64) (h : ∀ t' k, Q (.str (S (rep number.toNat)) t') { s with toks := k }) :
    wpAny (model prog w) A (binaryOp .Mult (.str (Str.ofString "\"") t) (.int number u)) Q E s := by
  refine KXi.mul (n := 1) (by decide) (by decide) (by omega) (by omega) ?_
  intro t' k _ _
  have e : Txt.mul (Str.ofString "\"") number = S (rep number.toNat) := by
    unfold Txt.mul
    by_cases hz : number < 1
    · rw [if_pos hz, show number.toNat = 0 by omega]; rfl
    · rw [if_neg hz]
      by_cases ho : number = 1
      · subst ho; decide
      · rw [if_neg (by rw [show (Str.ofString "\"").length = 1 from by decide]; simp [ho]), show (Str.ofString "\"").cps = #[34] from by decide, fold_marks]; simp
  rw [e]; exact h t' k
theorem signs_ok {place step : Int} {sc x y : Nat} (h1 : 0 ≤ place) (h2 : place < 8) (h3 : 1 ≤ step) (h4 : step ≤ 7) (h5 : 256 ≤ sc) (hx : [97, 34, 122, 32, 10, 48, 40, sc][place.toNat]? = some x) (hy : [97, 34, 122, 32, 10, 48, 40, sc][((place + step).fmod 8).toNat]? = some y) : x ≠ y ∧ x ≠ 46 ∧ y ≠ 46 := by
  obtain ⟨p, rfl⟩ : ∃ p : Nat, place = p := ⟨place.toNat, by omega⟩
  obtain ⟨q, rfl⟩ : ∃ q : Nat, step = q := ⟨step.toNat, by omega⟩
  have hp : p < 8 := by omega
  have hq : 1 ≤ q ∧ q ≤ 7 := by omega
  have e : (((p : Int) + (q : Int)).fmod 8).toNat = (p + q) % 8 := by
    rw [Int.fmod_eq_emod_of_nonneg _ (by decide)]; omega
  rw [e] at hy
  rw [Int.toNat_natCast] at hx
  obtain ⟨hq1, hq2⟩ := hq
  match p, hp, q, hq1, hq2 with
  | 0, _, q, _, _ | 1, _, q, _, _ | 2, _, q, _, _ | 3, _, q, _, _ | 4, _, q, _, _ | 5, _, q, _, _ | 6, _, q, _, _ | 7, _, q, _, _ =>
    simp at hx
    obtain rfl | rfl | rfl | rfl | rfl | rfl | rfl : q = 1 ∨ q = 2 ∨ q = 3 ∨ q = 4 ∨ q = 5 ∨ q = 6 ∨ q = 7 := by omega
    all_goals (simp at hy; omega)
local macro_rules | `(tactic| walk_at "binaryOp Add str str") => `(tactic| (k_here; (with_reducible show wpAny _ _ (binaryOp Operator.Add (Value.str (S _) _) (Value.str (S _) _)) _ _ _); (refine add_S (by simp) ?_); intro _ _; (try dsimp only [List.cons_append, List.nil_append])))
local macro_rules | `(tactic| walk_at "eval Name") => `(tactic| (k_here; (with_reducible show wpAny _ _ (eval (Expr.Name _ _) (compEnvC _ _ _ _)) _ _ _); k_dflt (first
  | (refine' cn_L ?N ?m ?o ?v ?_ ?k ?l ?d; (case k => rfl); (case l => rfl); (case d => rfl); (case N => k_asm); (case m => k_mem); (case o => assumption); (case v => assumption))
  | (refine' cn_C ?N ?c ?m ?d ?_ ?k ?l ?b; (case k => rfl); (case l => rfl); (case b => rfl); (case N => k_asm); (case c => rfl); (case m => k_mem); (case d => k_asm); k_whole)
  | (refine' cn_K ?g ?F ?X ?T ?e ?_ ?k ?l ?d; (case g => rfl); (case k => rfl); (case l => rfl); (case d => rfl); (case F => k_asm); (case X => k_asm); (case T => k_asm); (case e => k_is); k_whole)
  | (refine' cn_B ?g ?bb ?F ?X ?T ?e ?v ?n ?_ ?k ?l ?d; (case g => rfl); (case bb => rfl); (case k => rfl); (case l => rfl); (case d => rfl); (case F => k_asm); (case X => k_asm); (case T => k_asm); (case e => k_is); (case v => boot_fast); (case n => decide); k_whole))))
def JF (x y n i : Nat) (ys : List Value) : Prop := ∃ q, ys = sv q ∧ q.map (·.1) = fgs x y n i
theorem fgs_succ (x y n i : Nat) : fgs x y n (i + 1) = fgs x y n i ++ (if 2 ^ (5 - i) ≤ n then [[if n / 2 ^ (5 - i) % 2 = 0 then x else y]] else []) := by
  unfold fgs
  rw [List.range_succ, List.filter_append, List.map_append]
  by_cases h : 2 ^ (5 - i) ≤ n <;> simp [h]
theorem jf_no {x y n i : Nat} {ys : List Value} (hi : i < 6) (h : JF x y n i ys) (hc : ¬ (2 : Int) ^ (5 + (i : Int) * -1).toNat ≤ (n : Int)) : JF x y n (i + 1) ys := by
  obtain ⟨q, rfl, hq⟩ := h
  refine ⟨q, rfl, ?_⟩
  rw [show (5 + (i : Int) * -1).toNat = 5 - i by omega] at hc
  have hc' : ¬ 2 ^ (5 - i) ≤ n := fun h => hc (by exact_mod_cast h)
  rw [fgs_succ, if_neg hc', hq, List.append_nil]
theorem jf_yes {x y n i c : Nat} {ys : List Value} {t : Tok} (hi : i < 6) (h : JF x y n i ys) (hc : (2 : Int) ^ (5 + (i : Int) * -1).toNat ≤ (n : Int)) (he : [x, y][(((n : Int).fdiv (2 ^ (5 + (i : Int) * -1).toNat)).fmod 2).toNat]? = some c) : JF x y n (i + 1) (ys ++ [Value.str (S [c]) t]) := by
  obtain ⟨q, rfl, hq⟩ := h
  rw [show (5 + (i : Int) * -1).toNat = 5 - i by omega] at hc he
  have hc' : 2 ^ (5 - i) ≤ n := by exact_mod_cast hc
  have e : (((n : Int).fdiv (2 ^ (5 - i))).fmod 2).toNat = n / 2 ^ (5 - i) % 2 := by
    have h1 : (n : Int).fdiv (2 ^ (5 - i)) = ((n / 2 ^ (5 - i) : Nat) : Int) := by
      rw [Int.fdiv_eq_ediv_of_nonneg _ (Int.pow_nonneg (by decide)), Int.natCast_ediv, Int.natCast_pow]; rfl
    rw [h1, Int.fmod_eq_emod_of_nonneg _ (by decide)]; omega
  rw [e] at he
  refine ⟨q ++ [([c], t)], by rw [sv_app]; rfl, ?_⟩
  rw [fgs_succ, if_pos hc', List.map_append, hq]
  congr 1
  rcases Nat.mod_two_eq_zero_or_one (n / 2 ^ (5 - i)) with h | h
  · rw [h] at he ⊢; simp at he; simp [he]
  · rw [h] at he ⊢; simp at he; simp [he]
theorem fgs_fit {x y n : Nat} {q : List (List Nat × Tok)} (h : q.map (·.1) = fgs x y n 6) : (∀ p ∈ q, p.1.length ≤ 1) ∧ q.length ≤ 1000 := by
  constructor
  · intro p hp
    have : p.1 ∈ fgs x y n 6 := by rw [← h]; exact List.mem_map_of_mem hp
    unfold fgs at this
    obtain ⟨j, _, e⟩ := List.mem_map.mp this
    rw [← e]; simp
  · have : q.length = (fgs x y n 6).length := by rw [← h]; simp
    have h2 : (fgs x y n 6).length ≤ 6 := by
      unfold fgs; rw [List.length_map]
      exact Nat.le_trans (List.length_filter_le _ _) (by simp)
    omega
theorem ne_self {a : Str} (h : (a != a) = true) : False := by simp at h
theorem wr_len (x y : Nat) : ∀ (n k : Nat) (acc : List Nat), (wr x y n k acc).length ≤ n + acc.length
  | 0, k, acc => by rw [wr]; omega
  | n + 1, k, acc => by
    rw [wr]
    split
    · have := wr_len x y n k acc; omega
    · have := wr_len x y n (k / 2) ((if k % 2 = 0 then x else y) :: acc); rw [List.length_cons] at this; omega
theorem last_split {q : List (List Nat × Tok)} {l : List (List Nat)} {a : List Nat} (h : q.map (·.1) = l ++ [a]) : ∃ qp tl, q = qp ++ [(a, tl)] ∧ qp.map (·.1) = l := by
  obtain ⟨qp, r, rfl, h1, h2⟩ := List.map_eq_append_iff.mp h
  obtain ⟨p, rfl, h3⟩ := List.map_eq_singleton_iff.mp h2
  exact ⟨qp, p.2, by rw [← h3], h1⟩
def endY (y : Nat) (w : List Nat) : Bool := decide (w.drop (w.length - 1) = [y])
def JW (y : Nat) (q : List (List Nat × Tok)) (i : Nat) (ys : List Value) : Prop := ∃ r, ys = sv r ∧ r.map (·.1) = ((q.map (·.1)).take i).filter (endY y)
theorem ne_of_led {h₀ : Heap} {L : Addr} {h : Heap} {m : Str → Option Value} {news : List (Addr × Obj)} {D : Addr} {vs : Array Value} {n : Nat} (F : Fr h₀ L h m) (N : News h₀ L h news) (hm : (D, listOf vs n) ∈ news) : D ≠ L := by
  exact (N _ hm).2.1
theorem slice_last (l : List Nat) : Txt.slice (S l) (some (-1)) none = S (l.drop (l.length - 1)) := by
  rw [S_slice]
  have e1 : clipN (some (-1)) 0 l.length = l.length - 1 := by unfold clipN; simp; omega
  have e2 : clipN none l.length l.length = l.length := rfl
  rw [e1, e2, List.take_of_length_le (by simp)]
theorem take_filter {y : Nat} {q : List (List Nat × Tok)} {i : Nat} {p : List Nat × Tok} (hp : q[i]? = some p) : ((q.map (·.1)).take (i + 1)).filter (endY y) = ((q.map (·.1)).take i).filter (endY y) ++ (if endY y p.1 then [p.1] else []) := by
  rw [List.take_add_one, List.filter_append, List.getElem?_map, hp]
  cases h : endY y p.1 <;> simp [h]
theorem jw_yes {y : Nat} {q : List (List Nat × Tok)} {i : Nat} {p : List Nat × Tok} {ys : List Value} (hp : q[i]? = some p) (h : JW y q i ys) (hc : (Txt.slice (S p.1) (some (-1)) none == S [y]) = true) : JW y q (i + 1) (ys ++ [Value.str (S p.1) p.2]) := by
  obtain ⟨r, rfl, hr⟩ := h
  rw [slice_last, S_beq] at hc
  refine ⟨r ++ [p], by rw [sv_app]; rfl, ?_⟩
  rw [take_filter hp, List.map_append, hr, if_pos (by unfold endY; simpa using hc)]; rfl
theorem jw_no {y : Nat} {q : List (List Nat × Tok)} {i : Nat} {p : List Nat × Tok} {ys : List Value} (hp : q[i]? = some p) (h : JW y q i ys) (hc : (Txt.slice (S p.1) (some (-1)) none == S [y]) = false) : JW y q (i + 1) ys := by
  obtain ⟨r, rfl, hr⟩ := h
  rw [slice_last, S_beq] at hc
  refine ⟨r, rfl, ?_⟩
  rw [take_filter hp, hr, if_neg (by unfold endY; simpa using hc), List.append_nil]
local macro_rules | `(tactic| walk_at "call builtin:len") => `(tactic| (k_here; (with_reducible show wpAny _ _ (call (Value.builtin "len") [Value.ref _]) _ _ _); k_dflt (refine' kst_len ?k1 ?k2 ?k3 ?k4 ?_; (case k1 => k_asm); (case k2 => k_mem); (case k3 => (rw [sv_len])); (case k4 => omega)); k_whole))
theorem jw_le {y : Nat} {q r : List (List Nat × Tok)} (hr : r.map (·.1) = ((q.map (·.1)).take (sv q).length).filter (endY y)) : r.length ≤ q.length := by
  have e : r.length = (r.map (·.1)).length := by simp
  rw [e, hr]
  refine Nat.le_trans (List.length_filter_le _ _) ?_
  rw [List.length_take, List.length_map]; omega
theorem jw_len {y : Nat} {q r : List (List Nat × Tok)} {W : List (List Nat)} {z : Int} (hr : r.map (·.1) = ((q.map (·.1)).take (sv q).length).filter (endY y)) (hq : q.map (·.1) = W) (h : ((W.filter fun w => decide (w.drop (w.length - 1) = [y])).length : Int) = z) : (r.length : Int) = z := by
  have e : r.length = (r.map (·.1)).length := by simp
  rw [e, hr, List.take_of_length_le (by simp [sv_len]), hq, ← h]
  rfl
theorem slice_one (n : Nat) : Txt.slice (S (rep n)) (some 1) none = S (rep (n - 1)) := by
  rw [show (1 : Int) = ((1 : Nat) : Int) from rfl, S_slice_from, rep, List.drop_replicate]; rfl
theorem t2 : PySem.Challenge.rw_pg0070_02.Holds := hd (by
  k_go0; (all_goals try k_fold)
  (rename Below _ _ _ _ => K0)
  replace K0 : Below callerA _ [] _ := K0
  repeat' ((fail_if_success (with_reducible show wpAny _ _ (storeName _ _ (Value.int _ _)) _ _ _)); walk_at "st")
  refine gen_int ?_
  intro number hnum
  repeat' ((fail_if_success (with_reducible show wpAny _ _ (storeName _ _ (Value.str _ _)) _ _ _)); walk_at "st")
  refine gen_stock ?_
  intro sc hsc
  repeat' ((fail_if_success (with_reducible show wpAny _ _ (newTuple _) _ _ _)); walk_at "st")
  refine gen_two ?_
  intro place step hplace hstep
  repeat' ((fail_if_success (with_reducible show wpAny _ _ (subscriptTail _ _ (Value.str _ _) (Value.int _ _)) _ _ _)); walk_at "st")
  have hn0 : 0 ≤ number := by rw [hnum]; exact fmod_lo _ (by decide)
  have hn1 : number < 64 := by rw [hnum]; exact fmod_hi _ (by decide)
  have hp0 : 0 ≤ place := by rw [hplace]; exact fmod_lo _ (by decide)
  have hp1 : place < 8 := by rw [hplace]; exact fmod_hi _ (by decide)
  have hs0 : 1 ≤ step := (step_in hstep).1
  have hs1 : step ≤ 7 := (step_in hstep).2
  have hc0 : 256 ≤ sc := code_in hsc
  clear hnum hplace hstep hsc
  have hq0 : 0 ≤ (place + step).fmod 8 := fmod_lo _ (by decide)
  have hq1 : (place + step).fmod 8 < 8 := fmod_hi _ (by decide)
  refine item_S hp0 (by simp only [List.length_cons, List.length_nil]; omega) (by simp) ?_
  intro cx tx kx hcx
  repeat' ((fail_if_success (with_reducible show wpAny _ _ (subscriptTail _ _ (Value.str _ _) (Value.int _ _)) _ _ _)); walk_at "st")
  refine item_S hq0 (by simp only [List.length_cons, List.length_nil]; omega) (by simp) ?_
  intro cy ty ky hcy
  obtain ⟨hxy, hx46, hy46⟩ := signs_ok hp0 hp1 hs0 hs1 hc0 hcx hcy
  repeat' ((fail_if_success (with_reducible show wpAny _ _ (binaryOp Operator.Mult _ _) _ _ _)); walk_at "st")
  refine mul_mark hn0 hn1 ?_
  intro tm1 km1
  obtain ⟨nn, rfl⟩ : ∃ nn : Nat, number = nn := ⟨number.toNat, by omega⟩
  rw [Int.toNat_natCast]
  have hnn : nn < 64 := by omega
  have hrl := rep_len nn
  repeat' ((fail_if_success (with_reducible show wpAny _ _ (call (Value.ref _) _) _ _ _)); walk_at "st")
  k_dflt (refine fn_use (writing_c _ _ _ _ nn cx cy _ _) (by assumption) (by assumption) (by assumption) (by assumption) (by assumption) rfl (by omega) (by decide) (by decide) ?_)
  rintro vw own hw kw ⟨rfl, twr, rfl⟩ - Fw Nw
  rw [List.nil_append] at Nw
  repeat' ((fail_if_success (with_reducible show wpAny _ _ (exec (Stmt.Assign [Expr.Name _ _] (Expr.ListComp _ _ _ _) _) _) _ _ _)); walk_at "st")
  (rename Fr _ _ _ _ => F9); (rename News _ _ _ _ => N9)
  refine cm_assign (by rfl) (by rfl) (by decide) (by rfl) (by decide) (by rfl) (by rfl) ?_
  repeat' ((fail_if_success (with_reducible show wpAny _ _ (pyIter _) _ _ _)); walk_at "st")
  (rename Fr _ _ _ _ => F8); (rename News _ _ _ _ => N8)
  refine ca_range (n := 6) (JF cx cy nn) rfl (by assumption) (by decide) (by decide) (by decide) F8 N8 ⟨[], rfl, rfl⟩ (by rfl) (by rfl) ?_ ?_ (fun _ _ h => ⟨_, _, _, h⟩)
  · unfold TurnOf Turn1
    rintro i v ys C oC D h7 tk7 own k7 E7 mC hi ⟨tv, rfl⟩ hJ hyl hmx hoC F7 N7
    simp only [List.cons_append, List.nil_append] at N7 ⊢
    try k_fold
    repeat' ((fail_if_success (with_reducible show CGo _ _ _ _ _ _ ∧ _)); (fail_if_success (with_reducible show wpAny _ _ (subscriptTail _ _ _ _) _ _ _)); walk_at "st")
    · refine item_S (fmod_lo _ (by decide)) (by simp only [List.length_cons, List.length_nil]; exact fmod_hi _ (by decide)) (by simp) ?_
      intro c9 t9 k9 hc9
      repeat' ((fail_if_success (with_reducible show CGo _ _ _ _ _ _ ∧ _)); walk_at "st")
      exact ⟨⟨_, _, rfl, F7, N7⟩, jf_yes hi hJ (by assumption) hc9⟩
    · exact ⟨⟨_, _, rfl, F7, N7⟩, jf_no hi hJ (by assumption)⟩
  · intro ys D h6 tk6 k6 hJ hlt F6 N6
    obtain ⟨qf, rfl, hqf⟩ := hJ
    try k_fold
    repeat' ((fail_if_success (with_reducible show wpAny _ _ (call (Value.builtin "str.join") _) _ _ _)); walk_at "st")
    rw [lit_nil]
    obtain ⟨pl1, ⟨pws, pl2⟩, pl3, pl4, pl5, pl6⟩ := plain2 hxy hx46 hy46 hnn
    w_top off
    refine join_listS (B := 1) (led_isList (vs := sv qf) N6 (List.mem_cons_self ..)) (by simp) (fgs_fit hqf).1 (by decide) (fgs_fit hqf).2 ?_
    rw [hqf, pl1]
    intro tj kj
    iterate 6 walk_at "st"
    · exact (ne_self (by assumption)).elim
    have hwl := wr_len cx cy 6 nn []
    repeat' ((fail_if_success (with_reducible show wpAny _ _ (call (Value.ref _) _) _ _ _)); walk_at "st")
    k_dflt (refine fn_use (words_c _ _ _ _ (wr cx cy 6 nn []) cx cy _ _) (by assumption) (by assumption) (by assumption) (by assumption) (by assumption) rfl (by simp only [List.length_nil] at hwl; omega) (by decide) (by decide) ?_)
    rintro vw2 own2 hw2 kw2 ⟨Dw, qw, nw, rfl, rfl, hqw, hqwl⟩ hap2 Fw2 Nw2
    rw [List.singleton_append] at Nw2
    try k_fold
    have hqw2 := hqw
    rw [pl2] at hqw2
    repeat' ((fail_if_success (with_reducible show wpAny _ _ (subscriptTail _ _ (Value.ref _) _) _ _ _)); walk_at "st")
    obtain ⟨qp, tl, eqw, hqp⟩ := last_split hqw2
    (rename Fr _ _ _ _ => F5); (rename News _ _ _ _ => N5)
    refine item_last (vs := sv qp) (v := Value.str (S (wr cx cy 6 nn [])) tl) (by have := led_isList (vs := sv qw) N5 (List.mem_cons_self ..); rw [eqw, sv_app] at this; exact this) ?_
    iterate 6 walk_at "st"
    clear eqw hqp hqw2
    repeat' ((fail_if_success (with_reducible show wpAny _ _ (eval (Expr.ListComp _ _ _ _) _) _ _ _)); walk_at "st")
    refine cm_eval (by rfl) (by decide) (by rfl) (by decide) ?_
    repeat' ((fail_if_success (with_reducible show wpAny _ _ (pyIter _) _ _ _)); walk_at "st")
    (rename Fr _ _ _ _ => F4); (rename News _ _ _ _ => N4)
    refine ca_list (vs := sv qw) (JW cy qw) rfl (led_isList N4 (List.mem_cons_self ..)) (ne_of_led F4 N4 (List.mem_cons_self ..)) (by rw [sv_len]; omega) F4 N4 ⟨[], rfl, rfl⟩ (by rfl) (by rfl) ?_ ?_ (fun _ _ h => ⟨_, _, _, _, h⟩)
    · unfold TurnOf Turn1
      rintro i v ys C oC D1 h7 tk7 own k7 E7 mC hi hv hJ hyl hmx hoC F7 N7
      obtain ⟨p9, hp9, rfl⟩ := sv_get hv
      simp only [List.cons_append, List.nil_append] at N7 ⊢
      try k_fold
      have hp9l : p9.1.length ≤ 6 := plain2l hxy hx46 hy46 hnn p9.1 (by rw [← hqw]; exact List.mem_map_of_mem (List.mem_of_getElem? hp9))
      repeat' ((fail_if_success (with_reducible show wpAny _ _ (subscriptTail _ _ _ _) _ _ _)); walk_at "st")
      walk_at "st"
      repeat' ((fail_if_success (with_reducible show CGo _ _ _ _ _ _ ∧ _)); (fail_if_success (with_reducible show wpAny _ _ (subscriptTail _ _ _ _) _ _ _)); walk_at "st")
      refine item_S (by decide) (by simp) (by simp) ?_
      intro c8 t8 k8 hc8
      obtain rfl : cy = c8 := by simpa using hc8
      repeat' ((fail_if_success (with_reducible show CGo _ _ _ _ _ _ ∧ _)); walk_at "st")
      · (rename Fr _ _ _ _ => F3); (rename News _ _ _ _ => N3)
        exact ⟨⟨_, _, rfl, F3, N3⟩, jw_yes hp9 hJ (by assumption)⟩
      · (rename Fr _ _ _ _ => F3); (rename News _ _ _ _ => N3)
        exact ⟨⟨_, _, rfl, F3, N3⟩, jw_no hp9 hJ (by assumption)⟩
    intro ys D2 h3 tk3 k3 hJ3 hlt3 F3 N3
    dsimp only
    repeat' ((fail_if_success (with_reducible show wpAny _ _ (call (Value.builtin "len") _) _ _ _)); walk_at "st")
    w_top off
    obtain ⟨r3, rfl, hr3⟩ := hJ3
    have hr3l : (r3.length : Int) = (frac nn).1 := jw_len hr3 hqw pl3
    have hqwn : (qw.length : Int) = (frac nn).1 + (frac nn).2 := by rw [← pl4, ← hqw, List.length_map]
    have hr3b : r3.length ≤ 100 := Nat.le_trans (jw_le hr3) hqwl
    repeat' ((fail_if_success (with_reducible show wpAny _ _ (call (Value.ref _) _) _ _ _)); walk_at "st")
    k_dflt (refine fn_use (fraction_c _ _ _ _ (nn : Int) _) (by assumption) (by assumption) (by assumption) (by assumption) (by assumption) rfl ⟨by omega, by omega⟩ (by decide) (by decide) ?_)
    rintro vf ownf hf kf ⟨Df, tf1, tf2, rfl, rfl⟩ hapf Ff Nf
    rw [List.singleton_append] at Nf
    try k_fold
    repeat' ((fail_if_success (with_reducible show wpAny _ _ (compareOp _ _ _) _ _ _)); walk_at "st")
    walk_at "st"
    have hb : (((r3.length : Int) == (frac (nn : Int)).1) && ((qw.length : Int) - (r3.length : Int) == (frac (nn : Int)).2)) = true := by
      rw [Bool.and_eq_true, beq_iff_eq, beq_iff_eq]; exact ⟨hr3l, by omega⟩
    rw [hb]
    repeat' ((fail_if_success (with_reducible show wpAny _ _ (call (Value.ref _) _) _ _ _)); (fail_if_success (with_reducible show wpAny _ _ (compareOp _ _ _) _ _ _)); walk_at "st")
    · rw [slice_one]
      have h5 : (wways (nn - 1) 8).2 = (frac (nn : Int)).1 := by rw [← pl5, if_neg (by omega)]
      k_dflt (refine fn_use (ways_c _ _ _ _ (nn - 1) _) (by assumption) (by assumption) (by assumption) (by assumption) (by assumption) rfl (by omega) (by decide) (by decide) ?_)
      rintro vz ownz hz kz ⟨rfl, tz, rfl⟩ - Fz Nz
      rw [List.nil_append] at Nz
      rw [h5]
      try k_fold
      repeat' ((fail_if_success (with_reducible show wpAny _ _ (call (Value.ref _) _) _ _ _)); walk_at "st")
      k_dflt (refine fn_use (ways_c _ _ _ _ nn _) (by assumption) (by assumption) (by assumption) (by assumption) (by assumption) rfl (by omega) (by decide) (by decide) ?_)
      rintro vy owny hy ky ⟨rfl, ty9, rfl⟩ - Fy Ny
      rw [List.nil_append] at Ny
      rw [pl6]
      try k_fold
      repeat' ((fail_if_success (with_reducible show wpAny _ _ (call (Value.ref _) _) _ _ _)); walk_at "st")
      k_dflt (refine fn_use (fraction_c _ _ _ _ (nn : Int) _) (by assumption) (by assumption) (by assumption) (by assumption) (by assumption) rfl ⟨by omega, by omega⟩ (by decide) (by decide) ?_)
      rintro vg owng hg9 kg ⟨Dg, tg1, tg2, rfl, rfl⟩ hapg Fg Ng
      rw [List.singleton_append] at Ng
      try k_fold
      repeat' ((fail_if_success (with_reducible show wpAny _ _ (compareOp _ _ _) _ _ _)); walk_at "st")
      walk_at "st"
      k_steps
    · have h5 : (0 : Int) = (frac (nn : Int)).1 := by rw [← pl5, if_pos (by omega)]
      k_dflt (refine fn_use (ways_c _ _ _ _ nn _) (by assumption) (by assumption) (by assumption) (by assumption) (by assumption) rfl (by omega) (by decide) (by decide) ?_)
      rintro vy owny hy ky ⟨rfl, ty9, rfl⟩ - Fy Ny
      rw [List.nil_append] at Ny
      rw [pl6]
      try k_fold
      repeat' ((fail_if_success (with_reducible show wpAny _ _ (call (Value.ref _) _) _ _ _)); walk_at "st")
      k_dflt (refine fn_use (fraction_c _ _ _ _ (nn : Int) _) (by assumption) (by assumption) (by assumption) (by assumption) (by assumption) rfl ⟨by omega, by omega⟩ (by decide) (by decide) ?_)
      rintro vg owng hg9 kg ⟨Dg, tg1, tg2, rfl, rfl⟩ hapg Fg Ng
      rw [List.singleton_append] at Ng
      try k_fold
      repeat' ((fail_if_success (with_reducible show wpAny _ _ (compareOp _ _ _) _ _ _)); walk_at "st")
      walk_at "st"
      have hb2 : ((0 : Int) == (frac (nn : Int)).1) = true := by rw [beq_iff_eq]; exact h5
      rw [hb2]
      k_steps)
end Mine
theorem PySem.Challenge.cw_pg0070_02_holds : PySem.Challenge.rw_pg0070_02.Holds :=
  Mine.t2
