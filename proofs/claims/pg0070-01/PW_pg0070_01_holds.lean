import PyProof.Rows.All
import Wide.All
import OpenK.AllK
import Wide.FinOn
import PySem.Challenge.RW_pg0070_01

open PySem PySem.W PyProof.Rows
set_option Elab.async false
namespace Mine
set_option maxRecDepth 100000
set_option maxHeartbeats 8000000
open_top hd for PySem.Challenge.rw_pg0070_01
end Mine
open PySem PySem.W PyProof.Rows
set_option Elab.async false
namespace Mine
/-- a text of these signs -/
abbrev S (l : List Nat) : Str := ⟨l.toArray⟩
theorem S_eta (x : Str) : x = S x.cps.toList := by cases x; simp [S]
theorem S_len (l : List Nat) : (S l).length = l.length := by simp [Str.length]
theorem S_inj {a b : List Nat} (h : S a = S b) : a = b := by
  have := congrArg (fun x : Str => x.cps.toList) h; simpa using this
theorem S_app (a b : List Nat) : S a ++ S b = S (a ++ b) := Str.ext' (by simp [Str.cps_append])
theorem S_beq (a b : List Nat) : (S a == S b) = (a == b) := by
  by_cases h : a = b
  · subst h; simp
  · rw [beq_eq_false_iff_ne.mpr h, beq_eq_false_iff_ne]; exact fun e => h (S_inj e)
theorem S_bne (a b : List Nat) : (S a != S b) = (a != b) := by unfold bne; rw [S_beq]
theorem S_lit (s : String) : Str.ofString s = S (s.toList.map Char.toNat) := by rw [Str.ofString_eq_toList]
theorem filterMap_range (l : List Nat) (a n : Nat) : ((List.range n).map (fun k => a + k)).filterMap (l[·]?) = (l.drop a).take n := by
  induction n generalizing a with
  | zero => simp
  | succ n ih =>
    rw [List.range_succ_eq_map, List.map_cons, List.filterMap_cons, Nat.add_zero]
    have e : List.map (fun k => a + k) (List.map Nat.succ (List.range n)) = List.map (fun k => (a + 1) + k) (List.range n) := by
      rw [List.map_map]; apply List.map_congr_left; intro k _; simp; omega
    rw [e, ih]
    rcases Nat.lt_or_ge a l.length with h1 | h1
    · rw [List.getElem?_eq_getElem h1, List.drop_eq_getElem_cons h1, List.take_succ_cons]
    · rw [List.getElem?_eq_none h1]; simp [List.drop_eq_nil_of_le h1, List.drop_eq_nil_of_le (Nat.le_succ_of_le h1)]
theorem sliceRange_nat (a b : Nat) : sliceRange (a : Int) (b : Int) 1 = (List.range (b - a)).map (fun k => a + k) := by
  unfold sliceRange
  simp only [show ((1 : Int) > 0) = True from by simp, if_true]
  by_cases h : (a : Int) < b
  · rw [if_pos h]
    have e3 : (((b : Int) - a + 1 - 1) / 1).toNat = b - a := by rw [Int.ediv_one]; omega
    rw [e3]
    refine List.map_congr_left fun k _ => ?_
    omega
  · have : b - a = 0 := by omega
    simp [h, this]
/-- a bound of a cut as it is clipped -/
def clipN (v : Option Int) (d len : Nat) : Nat := match v with
  | none => d
  | some i => (max 0 (min (if i < 0 then i + len else i) (len : Int))).toNat
theorem slice_idx (lo hi : Option Int) (len : Nat) : Builtin.Str.strSliceIndices lo hi 1 len = (List.range (clipN hi len len - clipN lo 0 len)).map (fun k => clipN lo 0 len + k) := by
  unfold Builtin.Str.strSliceIndices
  simp only [show ((1 : Int) > 0) = True from by simp, if_true]
  rw [← sliceRange_nat]
  congr 1
  · cases lo with
    | none => rfl
    | some i => simp only [clipN]; omega
  · cases hi with
    | none => rfl
    | some i => simp only [clipN]; omega
theorem S_slice (l : List Nat) (lo hi : Option Int) : Txt.slice (S l) lo hi = S ((l.drop (clipN lo 0 l.length)).take (clipN hi l.length l.length - clipN lo 0 l.length)) := by
  unfold Txt.slice
  rw [S_len, slice_idx]
  have e : (fun x : Nat => (S l).cps[x]?) = (fun x : Nat => l[x]?) := by funext x; simp
  rw [e, filterMap_range]
  split
  · rename_i h
    rw [List.length_map, List.length_range] at h
    have h2 : clipN hi l.length l.length - clipN lo 0 l.length = l.length := by simpa using h
    have hle : clipN hi l.length l.length ≤ l.length := by
      cases hi with
      | none => exact Nat.le_refl _
      | some i => simp only [clipN]; omega
    rw [h2]
    rcases Nat.eq_zero_or_pos (clipN lo 0 l.length) with h0 | h0
    · rw [h0]; simp
    · have : l.length = 0 := by omega
      have : l = [] := List.eq_nil_of_length_eq_zero this
      subst this; simp
  · rfl
theorem clip_nat (b d len : Nat) : clipN (some (b : Int)) d len = min b len := by simp only [clipN]; omega
theorem S_slice_nat (l : List Nat) (a b : Nat) : Txt.slice (S l) (some (a : Int)) (some (b : Int)) = S ((l.drop a).take (b - a)) := by
  rw [S_slice, clip_nat, clip_nat]
  refine congrArg S ?_
  rcases Nat.lt_or_ge a l.length with h | h
  · rw [Nat.min_eq_left (Nat.le_of_lt h)]
    rcases Nat.le_total b l.length with h2 | h2
    · rw [Nat.min_eq_left h2]
    · rw [Nat.min_eq_right h2, List.take_of_length_le (i := l.length - a) (by simp), List.take_of_length_le (i := b - a) (by simp; omega)]
  · rw [Nat.min_eq_right h]; simp [List.drop_eq_nil_of_le h]
theorem S_slice_to (l : List Nat) (b : Nat) : Txt.slice (S l) none (some (b : Int)) = S (l.take b) := by
  rw [S_slice, clip_nat]
  refine congrArg S ?_
  simp only [clipN, List.drop_zero, Nat.sub_zero]
  rcases Nat.le_total b l.length with h2 | h2
  · rw [Nat.min_eq_left h2]
  · rw [Nat.min_eq_right h2, List.take_of_length_le (Nat.le_refl _), List.take_of_length_le h2]
theorem S_slice_from (l : List Nat) (a : Nat) : Txt.slice (S l) (some (a : Int)) none = S (l.drop a) := by
  rw [S_slice, clip_nat]
  refine congrArg S ?_
  simp only [clipN]
  rcases Nat.le_total a l.length with h2 | h2
  · rw [Nat.min_eq_left h2, List.take_of_length_le (by simp)]
  · rw [Nat.min_eq_right h2]; simp [List.drop_eq_nil_of_le h2]
theorem S_item (l : List Nat) (i : Nat) (h : i < l.length) : Txt.item (S l) (i : Int) = S [l[i]] := by
  unfold Txt.item Txt.charAt
  rw [S_len, StrLaws.seqIndex_nonneg (by omega) (by omega)]
  simp [h]
end Mine
open PySem PySem.W PyProof.Rows
set_option Elab.async false
namespace Mine
section
variable {prog : Program} {w : World} {A : Around} {E : Value → Shared → Prop} {s : Shared} {value slice : PySem.Expr} {l l' : List Nat} {t u : Tok} {i : Int} {Q : Value → Shared → Prop}
theorem item_S (h0 : 0 ≤ i) (h1 : i < (l.length : Int)) (hn : l.length ≤ 16777216) (h : ∀ c tk tk', l[i.toNat]? = some c → Q (.str (S [c]) tk) { s with toks := tk' })
    (hs : subscripted slice false (.str (S l) t) (.int i u) = operate [.str (S l) t, .int i u] (getItem (.str (S l) t) (.int i u)) := by with_unfolding_all rfl)
    (ht : ∀ r, letTemporaryGo value (.str (S l) t) r = pure () := by intro _; with_unfolding_all rfl) :
    wpAny (model prog w) A (subscriptTail value slice (.str (S l) t) (.int i u)) Q E s := by
  refine KXi.item (n := l.length) (S_len l) (by omega) h1 hn (fun _ => ?_) hs ht
  have hi : i.toNat < l.length := by omega
  have e : Txt.item (S l) i = S [l[i.toNat]] := by rw [← S_item l i.toNat hi]; congr 1; omega
  rw [e]
  exact h _ _ _ (List.getElem?_eq_getElem hi)
theorem add_S (hsz : l.length + l'.length ≤ 16777216) (h : ∀ t' tk, Q (.str (S (l ++ l')) t') { s with toks := tk }) : wpAny (model prog w) A (binaryOp .Add (.str (S l) t) (.str (S l') u)) Q E s :=
  add_str (fun t' tk => by rw [S_app]; exact h t' tk) (by rw [S_len, S_len]; exact hsz)
theorem truthy_S {Q : Bool → Shared → Prop} (hl : l.length ≤ 16777216) (h : ∀ k, Q (!l.isEmpty) { s with toks := k }) : wpAny (model prog w) A (PySem.truthy (.str (S l) t)) Q E s :=
  KXt.truthy (b := !l.isEmpty) (by rw [S_len]; cases l <;> simp; omega) (by rw [S_len]; exact hl) h
end
end Mine
open PySem PySem.W PyProof.Rows
set_option Elab.async false
namespace Mine
section
variable {prog : Program} {w : World} {A : Around} {E : Value → Shared → Prop} {Q : Flow → Shared → Prop} {s : Shared} {env : Env} {h₀ : Heap} {L : Addr} {σ : Type} {x : Str} {body : List Stmt}
theorem bnd_fr {h : Heap} {ps : List (Str × Value)} {m : Str → Option Value} (h1 : ∀ p ∈ ps, m p.1 = some p.2) (F : Fr h₀ L h m) : Fr h₀ L h (kstB m ps) := by
  have em : kstB m ps = m := by
    funext y; exact kstB_eq h1 fun _ => rfl
  rw [em]; exact F
theorem bnd_fr1 {h : Heap} {ps : List (Str × Value)} {m : Str → Option Value} {v : Value} (h1 : ∀ p ∈ ps, m p.1 = some p.2) (F : Fr h₀ L h (fun y => if y = x then some v else m y)) :
    Fr h₀ L h (fun y => if y = x then some v else kstB m ps y) := by
  have em : kstB m ps = m := by
    funext y; exact kstB_eq h1 fun _ => rfl
  rw [em]; exact F
/-- a turn of a while has come to its end -/
def WEnd (h₀ : Heap) (L : Addr) (s : Shared) (Led : σ → List (Addr × Obj)) (ps : σ → List (Str × Value)) (P : σ → Prop) (μ : σ → Nat) (c : σ) (s₂ : Shared) : Prop :=
  ∃ (c' : σ) (h' : Heap) (tk : Nat) (m' : Str → Option Value), s₂ = { s with heap := h', toks := tk } ∧ Fr h₀ L h' m' ∧ News h₀ L h' (Led c') ∧ (∀ p ∈ ps c', m' p.1 = some p.2) ∧ P c' ∧ μ c' < μ c
def WPost (h₀ : Heap) (L : Addr) (s : Shared) (Led : σ → List (Addr × Obj)) (ps : σ → List (Str × Value)) (P : σ → Prop) (μ : σ → Nat) (Q : Flow → Shared → Prop) (c : σ) (f : Flow) (s₂ : Shared) : Prop :=
  match f with
  | .ret v => Q (.ret v) s₂
  | .brk => Q .next s₂
  | _ => WEnd h₀ L s Led ps P μ c s₂
theorem w_while {test : Expr} {pos : Pos} {m₀ : Str → Option Value} (Led : σ → List (Addr × Obj)) (ps : σ → List (Str × Value)) (P : σ → Prop) (μ : σ → Nat) (c₀ : σ)
    (F : Fr h₀ L s.heap m₀) (N : News h₀ L s.heap (Led c₀)) (hk : ∀ p ∈ ps c₀, m₀ p.1 = some p.2) (hp : P c₀)
    (turn : ∀ (c : σ) (u : Str → Option Value) h tk, P c → Fr h₀ L h (kstB u (ps c)) → News h₀ L h (Led c) →
      wpAny (model prog w) A (isTrue test env (eval test env)) (fun b s₂ =>
        if b = true then wpAny (model prog w) A (execs body env) (WPost h₀ L s Led ps P μ Q c) E s₂ else Q .next s₂) E { s with heap := h, toks := tk })
    (hE : PassesOwn (model prog w) A env E := by passes_own) :
    wpAny (model prog w) A (exec (.While test body [] pos) env) Q E s := by
  refine While_inv2 (fun n m nx => ∃ c : σ, nx = Led c ∧ μ c = n ∧ (∀ p ∈ ps c, m p.1 = some p.2) ∧ P c) F N ⟨c₀, rfl, rfl, hk, hp⟩ ?_ hE
  rintro n m₁ nx h tk F₁ N₁ ⟨c, hnx, hsz, h1, hp'⟩
  rw [hnx] at N₁
  rw [← hsz]
  refine wpAny_mono (turn c m₁ h tk hp' (bnd_fr h1 F₁) N₁) (fun b s₂ p => ?_) fun _ _ x => x
  cases b with
  | false => simpa using p
  | true =>
    simp only [if_true] at p ⊢
    refine wpAny_mono p (fun f s₃ q => ?_) fun _ _ x => x
    cases f with
    | ret v => exact q
    | brk => exact q
    | next =>
      obtain ⟨c', h', tk', m', rfl, F', N', hk9, hp9, hm9⟩ := q
      exact ⟨h', tk', m', Led c', μ c', rfl, F', N', hm9, c', rfl, rfl, hk9, hp9⟩
    | cont =>
      obtain ⟨c', h', tk', m', rfl, F', N', hk9, hp9, hm9⟩ := q
      exact ⟨h', tk', m', Led c', μ c', rfl, F', N', hm9, c', rfl, rfl, hk9, hp9⟩
/-- a turn of a for has come to its end -/
def FEnd (h₀ : Heap) (L : Addr) (s : Shared) (Led : σ → List (Addr × Obj)) (ps : σ → List (Str × Value)) (P : σ → Prop) (I : Addr) (oI : Obj) (s₂ : Shared) : Prop :=
  ∃ (c' : σ) (h' : Heap) (tk : Nat) (m' : Str → Option Value), s₂ = { s with heap := h', toks := tk } ∧ Fr h₀ L h' m' ∧ News h₀ L h' ((I, oI) :: Led c') ∧ (∀ p ∈ Led c', p.1 ≠ I) ∧ (∀ p ∈ ps c', m' p.1 = some p.2) ∧ P c'
def FPost (h₀ : Heap) (L : Addr) (s : Shared) (Led : σ → List (Addr × Obj)) (ps : σ → List (Str × Value)) (P : σ → Prop) (Q : Flow → Shared → Prop) (I : Addr) (oI : Obj) (f : Flow) (s₂ : Shared) : Prop :=
  match f with
  | .ret v => Q (.ret v) s₂
  | .brk => Q .next s₂
  | _ => FEnd h₀ L s Led ps P I oI s₂
theorem f_gen {m₀ : Str → Option Value} {I : Addr} {n : Nat} {Pv : Nat → Value → Prop} {St : Nat → Heap → Prop} {ax : List Addr} {fp : List Addr} (hfp : fp = I :: ax) (Led : σ → List (Addr × Obj)) (ps : σ → List (Str × Value)) (P : Nat → σ → Prop) (c₀ : σ)
    (W : Walks prog w A I fp [I] n Pv St) (hlive : ∀ i h, St i h → ∃ o, h.get? I = some o)
    (hax : ∀ b ∈ ax, ∀ c, (∃ o, h₀.get? b = some o) ∨ ∃ o, (b, o) ∈ Led c)
    (hLf : env.locals ∉ fp) (hI : h₀.get? I = none) (hst : St 0 s.heap) (F : Fr h₀ env.locals s.heap m₀) (N : News h₀ env.locals s.heap (Led c₀)) (hN : ∀ p ∈ Led c₀, p.1 ≠ I) (hk : ∀ p ∈ ps c₀, m₀ p.1 = some p.2) (hp : P 0 c₀)
    (hsame : ∀ b ∈ ax, ∀ c c' o o', (b, o) ∈ Led c → (b, o') ∈ Led c' → o = o')
    (turn : ∀ i v (c : σ) (u : Str → Option Value) h tk oI, i < n → Pv i v → P i c → (∀ p ∈ Led c, p.1 ≠ I) →
      Fr h₀ env.locals h (fun y => if y = x then some v else kstB u (ps c) y) → News h₀ env.locals h ((I, oI) :: Led c) →
      wpAny (model prog w) A (execs body env) (FPost h₀ env.locals s Led ps (P (i + 1)) Q I oI) E { s with heap := h, toks := tk })
    (done : ∀ (c : σ) (u : Str → Option Value) h tk, P n c → Fr h₀ env.locals h (kstB u (ps c)) → News h₀ env.locals h (Led c) → Q .next { s with heap := h, toks := tk }) :
    LoopAtV prog w A h₀ env x body Q E (.ref I) s := by
  subst hfp
  refine ⟨I, I :: ax, [I], n, Pv, St, m₀, Led c₀, fun i m nx => ∃ c, nx = Led c ∧ (∀ p ∈ ps c, m p.1 = some p.2) ∧ P i c, rfl, W, hLf, ?_, ?_, hst, F, N, ⟨c₀, rfl, hk, hp⟩, ?_, ?_⟩
  · intro b hb; rw [List.mem_singleton.mp hb]; exact hI
  · intro p hp hm; exact hN p hp (List.mem_singleton.mp hm)
  · rintro i v m₁ news₁ s₁ own ⟨h, tk, rfl⟩ hin hP ⟨c, rfl, hkc, hpc⟩ hoff hof hog hall hst₁ F₁ N₁
    obtain ⟨oI, hoI⟩ := hlive _ _ hst₁
    have hmem : (I, oI) ∈ own := hall I (List.mem_cons_self ..) hI oI hoI
    have hne : ∀ p ∈ Led c, p.1 ≠ I := fun p hp e => hoff p hp (List.mem_singleton.mpr e)
    have N₂ : News h₀ env.locals h ((I, oI) :: Led c) := fun p hp => by
      rcases List.mem_cons.mp hp with rfl | hp
      · exact N₁ _ (List.mem_append_left _ hmem)
      · exact N₁ _ (List.mem_append_right _ hp)
    refine wpAny_mono (turn i v c m₁ h tk oI hin hP hpc hne (bnd_fr1 hkc F₁) N₂) (fun f s₂ q => ?_) fun _ _ e => e
    have fin : FEnd h₀ env.locals s Led ps (P (i + 1)) I oI s₂ → LoopStepU h₀ env.locals [I] own (fun m nx => ∃ c, nx = Led c ∧ (∀ p ∈ ps c, m p.1 = some p.2) ∧ P (i + 1) c) { s with heap := h, toks := tk } .next s₂ := by
      rintro ⟨c', h', tk', m', rfl, F', N', hN', hk', hp'⟩
      refine ⟨rfl, h', tk', m', Led c', rfl, F', ?_, fun p hp hm => hN' p hp (List.mem_singleton.mp hm), c', rfl, hk', hp'⟩
      intro p hp
      rcases List.mem_append.mp hp with ho | ho
      · have h1 := hof p ho
        have h2 := hog p ho
        rcases List.mem_cons.mp h1 with e | e
        · have : p = (I, oI) := by
            obtain ⟨pa, po⟩ := p
            dsimp only at e h2; subst e
            dsimp only at hoI
            rw [hoI] at h2; cases h2; rfl
          rw [this]; exact N' _ (List.mem_cons_self ..)
        · have h0 := (N₁ p (List.mem_append_left _ ho)).2.2
          rcases hax p.1 e c with ⟨o, hh⟩ | ⟨o, hh⟩
          · rw [hh] at h0; cases h0
          · rcases hax p.1 e c' with ⟨o', hh'⟩ | ⟨o', hh'⟩
            · rw [hh'] at h0; cases h0
            · have eo := hsame p.1 e c c' o o' hh hh'
              subst eo
              have h3 := (N₁ _ (List.mem_append_right _ hh)).1
              have h4 : p.2 = o := by
                dsimp only at h2 h3
                rw [h2] at h3; cases h3; rfl
              have : p = (p.1, o) := by rw [← h4]
              rw [this]; exact N' _ (List.mem_cons_of_mem _ hh')
      · exact N' _ (List.mem_cons_of_mem _ ho)
    cases f with
    | ret v => exact .ret q
    | brk => exact .brk q
    | next => exact .next (fin q)
    | cont => exact .cont (fin q)
  · rintro h' tk m' news' F' N' _ ⟨c, rfl, hkc, hpc⟩
    exact done c m' h' tk hpc (bnd_fr hkc F') N'
theorem f_range {r : Addr} {a₀ b₀ st₀ : Int} {t₀ u₀ v₀ : Tok} {n : Nat} {m₀ : Str → Option Value} (Led : σ → List (Addr × Obj)) (ps : σ → List (Str × Value)) (P : Nat → σ → Prop) (c₀ : σ)
    (hh : A.handled = none) (hr : IsRange s.heap r a₀ b₀ st₀ t₀ u₀ v₀) (hsmall : Builtin.Range.small a₀ b₀ st₀ = true) (hn : Builtin.Range.rangeSize a₀ b₀ st₀ = (n : Int))
    (F : Fr h₀ env.locals s.heap m₀) (N : News h₀ env.locals s.heap (Led c₀)) (hk : ∀ p ∈ ps c₀, m₀ p.1 = some p.2) (hp : P 0 c₀)
    (turn : ∀ i t (c : σ) (u : Str → Option Value) h tk I oI, i < n → P i c → (∀ p ∈ Led c, p.1 ≠ I) →
      Fr h₀ env.locals h (fun y => if y = x then some (.int (a₀ + i * st₀) t) else kstB u (ps c) y) → News h₀ env.locals h ((I, oI) :: Led c) →
      wpAny (model prog w) A (execs body env) (FPost h₀ env.locals s Led ps (P (i + 1)) Q I oI) E { s with heap := h, toks := tk })
    (done : ∀ (c : σ) (u : Str → Option Value) h tk, P n c → Fr h₀ env.locals h (kstB u (ps c)) → News h₀ env.locals h (Led c) → Q .next { s with heap := h, toks := tk }) :
    wpAny (model prog w) A (pyIter (.ref r)) (fun it s₂ => LoopAtV prog w A h₀ env x body Q E it s₂) E s := by
  refine wpAny_pyIter_range hr hsmall ?_
  refine f_gen (ax := []) rfl Led ps P c₀ (Walks.range hh _ a₀ st₀ n) (fun i h st => ⟨_, st⟩) (fun b hb => nomatch hb) ?_ (next_is_new F) (by show IsRangeIter _ _ _ _ _; rw [hn]; simpa using Heap.get?_push_size _ rfl) (F.push _) (fun p hp => ⟨Heap.get?_push_of_some _ (N p hp).1, (N p hp).2⟩) ?_ hk hp (fun b hb => nomatch hb) ?_ ?_
  · intro hm; exact absurd F.ns.lt ((List.mem_singleton.mp hm) ▸ Nat.lt_irrefl _)
  · intro p hp e; exact absurd (Heap.lt_size (N p hp).1) (e ▸ Nat.lt_irrefl _)
  · rintro i v c u h tk oI hi ⟨t, rfl⟩ hpc hne F₁ N₁
    exact turn i t c u h tk _ oI hi hpc hne F₁ N₁
  · intro c u h tk hpc F₁ N₁
    exact done c u h tk hpc F₁ N₁
theorem f_list {l : Addr} {vs : List Value} {ol : Obj} {m₀ : Str → Option Value} (Led : σ → List (Addr × Obj)) (ps : σ → List (Str × Value)) (P : Nat → σ → Prop) (c₀ : σ)
    (hh : A.handled = none) (hcl : ol.cls = .type "list") (hda : ∃ k, ol.data = .seq vs.toArray k) (hl : ∀ c, (l, ol) ∈ Led c) (hu : ∀ c o, (l, o) ∈ Led c → o = ol)
    (F : Fr h₀ env.locals s.heap m₀) (N : News h₀ env.locals s.heap (Led c₀)) (hk : ∀ p ∈ ps c₀, m₀ p.1 = some p.2) (hp : P 0 c₀)
    (turn : ∀ i v (c : σ) (u : Str → Option Value) h tk I oI, vs[i]? = some v → P i c → (∀ p ∈ Led c, p.1 ≠ I) →
      Fr h₀ env.locals h (fun y => if y = x then some v else kstB u (ps c) y) → News h₀ env.locals h ((I, oI) :: Led c) →
      wpAny (model prog w) A (execs body env) (FPost h₀ env.locals s Led ps (P (i + 1)) Q I oI) E { s with heap := h, toks := tk })
    (done : ∀ (c : σ) (u : Str → Option Value) h tk, P vs.length c → Fr h₀ env.locals h (kstB u (ps c)) → News h₀ env.locals h (Led c) → Q .next { s with heap := h, toks := tk }) :
    wpAny (model prog w) A (pyIter (.ref l)) (fun it s₂ => LoopAtV prog w A h₀ env x body Q E it s₂) E s := by
  have hls : s.heap.IsList l vs.toArray := ⟨ol, (N _ (hl c₀)).1, hcl, hda⟩
  have hlt : l < s.heap.objs.size := Heap.lt_size (N _ (hl c₀)).1
  refine wpAny_pyIter_list hls ?_
  have W := Walks.list (prog := prog) (w := w) hh s.heap.objs.size l (Nat.ne_of_lt hlt) vs.toArray
  rw [List.size_toArray] at W
  refine f_gen (ax := [l]) rfl Led ps P c₀ W (fun i h st => let ⟨o, ho, _⟩ := st.1; ⟨o, ho⟩) (fun b hb c => by rw [List.mem_singleton.mp hb]; exact .inr ⟨_, hl c⟩) ?_ (next_is_new F) ⟨⟨_, Heap.get?_push_size _ rfl, rfl, rfl⟩, hls.push _⟩ (F.push _) (fun p hp => ⟨Heap.get?_push_of_some _ (N p hp).1, (N p hp).2⟩) ?_ hk hp ?_ ?_ ?_
  · intro hm
    rcases List.mem_cons.mp hm with e | hm
    · exact absurd F.ns.lt (e ▸ Nat.lt_irrefl _)
    · exact (N _ (hl c₀)).2.1 (List.mem_singleton.mp hm).symm
  · intro p hp e; exact absurd (Heap.lt_size (N p hp).1) (e ▸ Nat.lt_irrefl _)
  · intro b hb c c' o o' h1 h2
    rw [List.mem_singleton.mp hb] at h1 h2
    rw [hu c o h1, hu c' o' h2]
  · rintro i v c u h tk oI hi hv hpc hne F₁ N₁
    exact turn i v c u h tk _ oI (by simpa using hv) hpc hne F₁ N₁
  · intro c u h tk hpc F₁ N₁
    exact done c u h tk hpc F₁ N₁
end
end Mine
open PySem PySem.W PyProof.Rows
set_option Elab.async false
namespace Mine
/-- texts as values -/
def sv (q : List (List Nat × Tok)) : List Value := q.map fun p => Value.str (S p.1) p.2
theorem sv_len (q : List (List Nat × Tok)) : (sv q).length = q.length := by simp [sv]
theorem sv_cons (p : List Nat × Tok) (q : List (List Nat × Tok)) : sv (p :: q) = Value.str (S p.1) p.2 :: sv q := rfl
theorem sv_app (p q : List (List Nat × Tok)) : sv (p ++ q) = sv p ++ sv q := by simp [sv]
section
variable {prog : Program} {w : World} {A : Around} {E : Value → Shared → Prop} {s : Shared} {value slice : PySem.Expr} {h₀ : Heap} {L D : Addr} {m : Str → Option Value} {rest : List (Addr × Obj)} {vs : List Value} {v : Value} {n : Nat} {t u : Tok}
theorem led_isList {news : List (Addr × Obj)} {hh : Heap} (N : News h₀ L hh news) (hm : (D, listOf vs.toArray n) ∈ news) : hh.IsList D vs.toArray := ⟨_, (N _ hm).1, rfl, n, rfl⟩
theorem item_at {k : Int} {Q : Value → Shared → Prop} (hl : s.heap.IsList D vs.toArray) (h0 : 0 ≤ k) (hhi : k < 2 ^ 63) (hx : vs[k.toNat]? = some v) (h : Q v s)
    (hs : subscripted slice false (.ref D) (.int k u) = operate [.ref D, .int k u] (getItem (.ref D) (.int k u)) := by with_unfolding_all rfl) :
    wpAny (model prog w) A (subscriptTail value slice (.ref D) (.int k u)) Q E s :=
  tail_any hl.typeIs slot_list_getitem.lookup (wpAny_getItem_list hl h0 hhi (by simpa using hx) h) hs
theorem item_last {Q : Value → Shared → Prop} (hl : s.heap.IsList D (vs ++ [v]).toArray) (h : Q v s)
    (hs : subscripted slice false (.ref D) (.int (-1) u) = operate [.ref D, .int (-1) u] (getItem (.ref D) (.int (-1) u)) := by with_unfolding_all rfl) :
    wpAny (model prog w) A (subscriptTail value slice (.ref D) (.int (-1) u)) Q E s :=
  tail_any hl.typeIs slot_list_getitem.lookup (wpAny_getItem_list_neg hl (by decide) (by simp; omega) (by decide)
    (by have e : (-1 + (((vs ++ [v]).toArray.size : Nat) : Int)).toNat = vs.length := by simp; omega
        rw [e]; simp) h) hs
theorem del_first {Q : Unit → Shared → Prop} (F : Fr h₀ L s.heap m) (N : News h₀ L s.heap ((D, listOf (v :: vs).toArray n) :: rest)) (hap : ∀ p ∈ rest, p.1 ≠ D) (hsz : vs.length ≤ 16000000)
    (h : ∀ h', Fr h₀ L h' m → News h₀ L h' ((D, listOf vs.toArray (n + 1)) :: rest) → Q () { s with heap := h' }) :
    wpAny (model prog w) A (delItem (.ref D) (.int 0 u)) Q E s :=
  delItem_head F N hap (by decide) (k := 0) (by simp [seqIndex?]) (fun h' F' N' => h h' F' (by simpa using N')) (by simp [sizeLine]; omega)
theorem del_last {Q : Unit → Shared → Prop} (F : Fr h₀ L s.heap m) (N : News h₀ L s.heap ((D, listOf (vs ++ [v]).toArray n) :: rest)) (hap : ∀ p ∈ rest, p.1 ≠ D) (hsz : vs.length ≤ 16000000)
    (h : ∀ h', Fr h₀ L h' m → News h₀ L h' ((D, listOf vs.toArray (n + 1)) :: rest) → Q () { s with heap := h' }) :
    wpAny (model prog w) A (delItem (.ref D) (.int (-1) u)) Q E s :=
  delItem_head F N hap (by decide) (k := vs.length)
    (by rw [PySem.seqIndex_neg (by decide) (by simp; omega)]
        have e : (-1 + (((vs ++ [v]).toArray.size : Nat) : Int)).toNat = vs.length := by simp; omega
        rw [e])
    (fun h' F' N' => h h' F' (by
      have e : (vs ++ [v]).toArray.toList.eraseIdx vs.length = vs := by
        show (vs ++ [v]).eraseIdx vs.length = vs
        rw [List.eraseIdx_append_of_length_le (Nat.le_refl _)]; simp
      rw [e] at N'; exact N')) (by simp [sizeLine]; omega)
end
section
open Builtin Builtin.Str
theorem gives_find4 (x y : Str) (i j : Int) (t u v z : Tok) : Gives (Builtin.«str.find» ⟨[.str x t, .str y u, .int i v, .int j z], []⟩) (.int (match occurrences x y (fromIndex x.length i) (min (fromIndex x.length j) x.length) 1 with | k :: _ => (k : Int) | [] => -1)) := by
  show Gives (match occurrences x y (fromIndex x.length i) (min (fromIndex x.length j) x.length) 1 with | k :: _ => retInt k | [] => (do rule "str.find.not-found"; retInt (-1))) _
  cases occurrences x y (fromIndex x.length i) (min (fromIndex x.length j) x.length) 1 with
  | nil => exact .rule (.of_eq rfl)
  | cons k _ => exact .of_eq rfl
/-- the first place of w in g, wholly between lo and hi -/
def findAt (g w : List Nat) (lo hi : Nat) : Option Nat := (List.range' lo (hi + 1 - lo)).find? fun i => decide (i + w.length ≤ hi) && decide ((g.drop i).take w.length = w)
theorem occ_findAt (g w : List Nat) (lo hi : Nat) : (match occurrences (S g) (S w) lo hi 1 with | k :: _ => (k : Int) | [] => -1) = (match findAt g w lo hi with | some k => (k : Int) | none => -1) := by
  have hat : ∀ i, StrLaws.At (S g) (S w) hi i ↔ (decide (i + w.length ≤ hi) && decide ((g.drop i).take w.length = w)) = true := by
    intro i
    unfold StrLaws.At
    rw [StrLaws.subAt_eq, S_len]
    simp
  rw [StrLaws.occ_eq]
  unfold findAt
  rcases StrLaws.occ_first (S g) (S w) hi 1 (Nat.le_refl _) (List.range' lo (hi + 1 - lo)) lo (fun i hi => by rw [List.mem_range'_1] at hi; omega) with ⟨h1, h2⟩ | ⟨pre, a, post, h1, h2, h3, h4⟩
  · rw [h1]
    have : (List.range' lo (hi + 1 - lo)).find? (fun i => decide (i + w.length ≤ hi) && decide ((g.drop i).take w.length = w)) = none := by
      rw [List.find?_eq_none]
      intro i hi' hc
      exact h2 i hi' ((hat i).mpr hc)
    rw [this]
  · have hf : (List.range' lo (hi + 1 - lo)).find? (fun i => decide (i + w.length ≤ hi) && decide ((g.drop i).take w.length = w)) = some a := by
      rw [h1, List.find?_append]
      have : pre.find? (fun i => decide (i + w.length ≤ hi) && decide ((g.drop i).take w.length = w)) = none := by
        rw [List.find?_eq_none]
        intro i hi' hc
        exact h4 i hi' ((hat i).mpr hc)
      rw [this, Option.none_or, List.find?_cons, (hat a).mp h3]
    rw [hf]
    have h5 : ((forIn (List.range' lo (hi + 1 - lo)) (#[], lo) (StrLaws.occBody (S g) (S w) hi 1)).run.fst.toList)[0]? = some a := by simpa using h2
    cases hc : (forIn (List.range' lo (hi + 1 - lo)) (#[], lo) (StrLaws.occBody (S g) (S w) hi 1)).run.fst.toList with
    | nil => rw [hc] at h5; cases h5
    | cons b r => rw [hc] at h5; simp at h5; simp [h5]
theorem find4 {prog : Program} {w : World} {A : Around} {E : Value → Shared → Prop} {s : Shared} {g p : List Nat} {t u v z : Tok} {i j : Int} {Q : Value → Shared → Prop} (h0 : 0 ≤ i) (h1 : 0 ≤ j) (h2 : j ≤ (g.length : Int))
    (hq : ∀ tk tk', Q (.int (match findAt g p i.toNat j.toNat with | some k => (k : Int) | none => -1) tk) { s with toks := tk' }) : wpAny (model prog w) A (call (.builtin "str.find") [.str (S g) t, .str (S p) u, .int i v, .int j z]) Q E s := by
  refine call_gives F.slot_str_find (typeIs_str _ _ _) F.entry_str_find (F.args_str_find_4 _ _ _ _) (gives_find4 _ _ i j t u v z) ?_
  have e1 : fromIndex (S g).length i = i.toNat := by unfold fromIndex; rw [if_neg (by omega)]; omega
  have e2 : min (fromIndex (S g).length j) (S g).length = j.toNat := by unfold fromIndex; rw [if_neg (by omega), S_len]; omega
  rw [e1, e2, occ_findAt]
  exact hq _ _
/-- the pieces between the dots -/
def splitD : List Nat → List (List Nat)
  | 46 :: 46 :: 46 :: r => [] :: splitD r
  | c :: r => match splitD r with
    | p :: ps => (c :: p) :: ps
    | [] => [[c]]
  | [] => [[]]
def dots : List Nat := [46, 46, 46]
theorem splitD_ne (l : List Nat) : ∃ p ps, splitD l = p :: ps := by
  unfold splitD
  split
  · exact ⟨_, _, rfl⟩
  · split <;> exact ⟨_, _, rfl⟩
  · exact ⟨_, _, rfl⟩
theorem splitD_dots (r : List Nat) : splitD (46 :: 46 :: 46 :: r) = [] :: splitD r := by rw [splitD]
theorem splitD_step {c : Nat} {r p : List Nat} {ps : List (List Nat)} (h : ¬ (c :: r).take 3 = dots) (e : splitD r = p :: ps) : splitD (c :: r) = (c :: p) :: ps := by
  rw [splitD]
  · rw [e]
  · intro r' hc hr; subst hc; subst hr; exact h rfl
/-- the places found, from i on -/
def greedy (x y : Str) (hi : Nat) : Nat → Nat → Nat → List Nat
  | 0, _, _ => []
  | k + 1, i, free => if free ≤ i ∧ i + y.length ≤ hi ∧ subAt x y i = true then i :: greedy x y hi k (i + 1) (i + y.length) else greedy x y hi k (i + 1) free
theorem occ_greedy (x y : Str) (hi limit : Nat) : ∀ (k i free : Nat) (acc : Array Nat), acc.size + k ≤ limit → (forIn (List.range' i k) (acc, free) (StrLaws.occBody x y hi limit)).run.fst.toList = acc.toList ++ greedy x y hi k i free
  | 0, i, free, acc, _ => by simp [greedy]
  | k + 1, i, free, acc, h => by
    rw [List.range'_succ, List.forIn_cons, greedy]
    by_cases hc : free ≤ i ∧ i + y.length ≤ hi ∧ subAt x y i = true
    · rw [if_pos hc]
      have e : StrLaws.occBody x y hi limit i (acc, free) = pure (ForInStep.yield (acc.push i, i + y.length)) := by
        unfold StrLaws.occBody
        rw [if_pos ⟨⟨⟨by show acc.size < limit; omega, hc.1⟩, hc.2.1⟩, hc.2.2⟩]
      rw [e]
      have := occ_greedy x y hi limit k (i + 1) (i + y.length) (acc.push i) (by rw [Array.size_push]; omega)
      simp only [pure_bind]
      rw [this]; simp
    · rw [if_neg hc]
      have e : StrLaws.occBody x y hi limit i (acc, free) = pure (ForInStep.yield (acc, free)) := by
        unfold StrLaws.occBody
        rw [if_neg (fun q => hc ⟨q.1.1.2, q.1.2, q.2⟩)]
      rw [e]
      simp only [pure_bind]
      exact occ_greedy x y hi limit k (i + 1) free acc (by omega)
theorem occ_all (x y : Str) : occurrences x y 0 x.length (x.length + 1) = greedy x y x.length (x.length + 1) 0 0 := by
  rw [StrLaws.occ_eq]
  have := occ_greedy x y x.length (x.length + 1) (x.length + 1) 0 0 #[] (by simp)
  simpa using this
theorem greedy_free (x y : Str) (hi : Nat) : ∀ k i free free', free ≤ i → free' ≤ i → greedy x y hi k i free = greedy x y hi k i free'
  | 0, _, _, _, _, _ => rfl
  | k + 1, i, free, free', h, h' => by
    rw [greedy, greedy, greedy_free x y hi k (i + 1) free free' (by omega) (by omega)]
    simp [h, h']
theorem greedy_skip (x y : Str) (hi k i d : Nat) : greedy x y hi (k + d) i (i + d) = greedy x y hi k (i + d) (i + d) := by
  induction d generalizing i with
  | zero => rfl
  | succ d ih =>
    rw [show k + (d + 1) = (k + d) + 1 by omega, greedy, if_neg (by omega)]
    have := ih (i + 1)
    rw [show i + 1 + d = i + (d + 1) by omega] at this
    exact this
theorem greedy_over (x y : Str) (hi : Nat) : ∀ k i free, hi < i + y.length → greedy x y hi k i free = []
  | 0, _, _, _ => rfl
  | k + 1, i, free, h => by rw [greedy, if_neg (by omega)]; exact greedy_over x y hi k (i + 1) free (by omega)
theorem strSub_S (a : List Nat) (i j : Nat) : strSub (S a) i j = S ((a.drop i).take (j - i)) := by
  have h := StrLaws.strSub_toList (S a) i j
  rw [S_eta (strSub (S a) i j), h]
theorem parts_split (a : List Nat) : ∀ k i st, k + i = a.length + 1 → st ≤ i → ∃ p ps, splitD (a.drop i) = p :: ps ∧
    StrLaws.partsFrom (S a) 3 st (greedy (S a) (S dots) a.length k i i) = (((a.drop st).take (i - st) ++ p) :: ps).map S := by
  intro k
  induction k using Nat.strongRecOn with
  | ind k ih =>
    intro i st hk hst
    rcases Nat.lt_or_ge i a.length with hlt | hge
    · obtain ⟨k', rfl⟩ : ∃ k', k = k' + 1 := ⟨k - 1, by omega⟩
      by_cases hd : (a.drop i).take 3 = dots
      · have hle : i + 3 ≤ a.length := by
          have := congrArg List.length hd
          simp [dots] at this; omega
        obtain ⟨k'', rfl⟩ : ∃ k'', k' = k'' + 2 := ⟨k' - 2, by omega⟩
        have h1 : greedy (S a) (S dots) a.length (k'' + 2 + 1) i i = i :: greedy (S a) (S dots) a.length k'' (i + 3) (i + 3) := by
          rw [greedy, if_pos ⟨Nat.le_refl _, hle, by rw [StrLaws.subAt_eq]; simpa [dots, Str.length] using hd⟩]
          have := greedy_skip (S a) (S dots) a.length k'' (i + 1) 2
          rw [show i + 1 + 2 = i + 3 by omega] at this
          rw [show i + (S dots).length = i + 3 from rfl, this]
        have h2 : a.drop i = 46 :: 46 :: 46 :: a.drop (i + 3) := by
          have := List.take_append_drop 3 (a.drop i)
          rw [hd, List.drop_drop] at this
          exact this.symm
        obtain ⟨p, ps, e1, e2⟩ := ih k'' (by omega) (i + 3) (i + 3) (by omega) (Nat.le_refl _)
        refine ⟨[], splitD (a.drop (i + 3)), by rw [h2, splitD_dots], ?_⟩
        rw [h1, StrLaws.partsFrom, e2, strSub_S, e1]
        simp
      · have h1 : greedy (S a) (S dots) a.length (k' + 1) i i = greedy (S a) (S dots) a.length k' (i + 1) (i + 1) := by
          rw [greedy, if_neg (fun q => hd (by have := q.2.2; rw [StrLaws.subAt_eq] at this; simpa [dots, Str.length] using this))]
          exact greedy_free _ _ _ _ _ _ _ (by omega) (by omega)
        obtain ⟨p, ps, e1, e2⟩ := ih k' (by omega) (i + 1) st (by omega) (by omega)
        have h2 : a.drop i = a[i] :: a.drop (i + 1) := List.drop_eq_getElem_cons hlt
        refine ⟨a[i] :: p, ps, ?_, ?_⟩
        · rw [h2]; exact splitD_step (by rw [← h2]; exact hd) e1
        · rw [h1, e2]
          have : (a.drop st).take (i + 1 - st) = (a.drop st).take (i - st) ++ [a[i]] := by
            rw [show i + 1 - st = (i - st) + 1 by omega, List.take_add_one, List.getElem?_drop, show st + (i - st) = i by omega, List.getElem?_eq_getElem hlt]; rfl
          rw [this]; simp
    · refine ⟨[], [], by rw [List.drop_eq_nil_of_le hge, splitD], ?_⟩
      rw [greedy_over _ _ _ _ _ _ (by simp [dots, Str.length]; omega), StrLaws.partsFrom, strSub_S, S_len]
      have e : (a.drop st).take (a.length - st) = (a.drop st).take (i - st) := by
        rw [List.take_of_length_le (by simp), List.take_of_length_le (by simp; omega)]
      rw [e]; simp
theorem kind_dots (x : Str) : ¬ strKind x < strKind (S dots) := by
  have : strKind (S dots) = 1 := by decide +kernel
  rw [this]
  unfold Builtin.Str.strKind
  repeat' split
  all_goals omega
theorem S_split (a : List Nat) : Txt.split (S a) (S dots) = (splitD a).map S := by
  obtain ⟨p, ps, e1, e2⟩ := parts_split a (a.length + 1) 0 0 (by omega) (Nat.le_refl _)
  have e3 : (splitD a).map S = StrLaws.partsFrom (S a) 3 0 (greedy (S a) (S dots) a.length (a.length + 1) 0 0) := by
    rw [e2, ← List.drop_zero (l := a), e1]; simp
  rw [e3]
  unfold Txt.split
  have e4 : occurrences (S a) (S dots) 0 (S a).length ((S a).length + 1) = greedy (S a) (S dots) a.length (a.length + 1) 0 0 := by
    rw [occ_all, S_len]
  have hnil : greedy (S a) (S dots) a.length (a.length + 1) 0 0 = [] → [S a] = StrLaws.partsFrom (S a) 3 0 (greedy (S a) (S dots) a.length (a.length + 1) 0 0) := by
    intro h; rw [h, StrLaws.partsFrom, strSub_S, S_len]; simp
  split
  · rename_i h
    refine hnil (greedy_over _ _ _ _ _ _ ?_)
    rcases Bool.or_eq_true_iff.mp h with h | h
    · have := of_decide_eq_true h; rw [S_len, S_len] at this; rw [S_len]; omega
    · exact absurd (of_decide_eq_true h) (kind_dots _)
  · rw [e4]
    split
    · rename_i h; exact hnil (by simpa using h)
    · rw [StrLaws.partsBetween_eq]; rfl
theorem S_starts (g p : List Nat) : Txt.startswith (S g) (S p) = decide (g.take p.length = p) := by
  unfold Txt.startswith
  rw [StrLaws.subAt_eq, S_len, S_len]
  by_cases h : g.take p.length = p
  · have : p.length ≤ g.length := by have := congrArg List.length h; simp at this; omega
    simp [h, this]
  · simp [h]
theorem S_ends (g p : List Nat) : Txt.endswith (S g) (S p) = (decide (p.length ≤ g.length) && decide (g.drop (g.length - p.length) = p)) := by
  unfold Txt.endswith
  rw [StrLaws.subAt_eq, S_len, S_len]
  by_cases h : p.length ≤ g.length
  · simp only [Nat.zero_add, h, decide_true, Bool.true_and]
    rw [List.take_of_length_le (by simp; omega)]
    exact Bool.eq_iff_iff.mpr (by simp)
  · simp [h]
theorem S_has (a : List Nat) : (occurrences (S a) (S dots) 0 (S a).length 1).isEmpty = decide ((splitD a).length = 1) := by
  have hs := congrArg List.length (S_split a)
  rw [List.length_map] at hs
  rcases StrLaws.occ_head (S a) (S dots) 1 (Nat.le_refl _) with ⟨h1, h2⟩ | ⟨i, r, h1, h2, h3⟩
  · rw [h1]
    rcases StrLaws.occ_head (S a) (S dots) ((S a).length + 1) (by omega) with ⟨h4, _⟩ | ⟨j, _, _, h5, _⟩
    · have : (Txt.split (S a) (S dots)).length = 1 := by
        unfold Txt.split
        split
        · rfl
        · rw [h4]; rfl
      rw [this] at hs
      simp [← hs]
    · exact absurd h5 (h2 j)
  · rw [h1]
    rcases StrLaws.occ_head (S a) (S dots) ((S a).length + 1) (by omega) with ⟨h4, h6⟩ | ⟨j, r', h5, _, _⟩
    · exact absurd h2 (h6 i)
    · have : 2 ≤ (Txt.split (S a) (S dots)).length := by
        unfold Txt.split
        split
        · rename_i h
          rcases Bool.or_eq_true_iff.mp h with h | h
          · have h7 := of_decide_eq_true h
            have h8 := h2.1
            omega
          · exact absurd (of_decide_eq_true h) (kind_dots _)
        · rw [h5]
          simp only [List.isEmpty_cons, Bool.false_eq_true, if_false]
          unfold partsBetween; simp
      rw [hs] at this
      simp; omega
end
end Mine
open PySem PySem.W PyProof.Rows
set_option Elab.async false
namespace Mine
set_option maxRecDepth 100000
set_option maxHeartbeats 8000000
/-- what parse257 reads behind the opening mark -/
def unq : List Nat → List Nat
  | [] => []
  | c :: r => if c = 34 then (match r with | [] => [] | d :: r' => if d = 34 then 34 :: unq r' else []) else c :: unq r
def head5 : List Nat := [50, 53, 55, 32, 34]
theorem drop_at {l : List Nat} {i c : Nat} (h : l[i]? = some c) : l.drop i = c :: l.drop (i + 1) := by
  have hi : i < l.length := by
    rcases Nat.lt_or_ge i l.length with h1 | h1
    · exact h1
    · rw [List.getElem?_eq_none h1] at h; cases h
  rw [List.drop_eq_getElem_cons hi]
  rw [List.getElem?_eq_getElem hi] at h; cases h; rfl
theorem unq_end {l : List Nat} {i : Nat} (h : l.length ≤ i) : unq (l.drop i) = [] := by rw [List.drop_eq_nil_of_le h, unq]
theorem unq_brk1 {l : List Nat} {i : Nat} (h : l[i]? = some 34) (h2 : l.length ≤ i + 1) : unq (l.drop i) = [] := by
  rw [drop_at h, List.drop_eq_nil_of_le h2, unq]; simp
theorem unq_brk2 {l : List Nat} {i c : Nat} (h : l[i]? = some 34) (h2 : l[i + 1]? = some c) (hc : c ≠ 34) : unq (l.drop i) = [] := by
  rw [drop_at h, drop_at h2, unq]; simp [hc]
theorem unq_two {l : List Nat} {i : Nat} (h : l[i]? = some 34) (h2 : l[i + 1]? = some 34) : unq (l.drop i) = 34 :: unq (l.drop (i + 2)) := by
  rw [drop_at h, drop_at h2, unq]; simp
theorem unq_one {l : List Nat} {i c : Nat} (h : l[i]? = some c) (hc : c ≠ 34) : unq (l.drop i) = c :: unq (l.drop (i + 1)) := by
  rw [drop_at h, unq.eq_def]; simp [hc]
theorem mark_eq (c : Nat) : (S [c] == Str.ofString "\"") = true ↔ c = 34 := by
  rw [show Str.ofString "\"" = S [34] from by decide, S_beq]; simp
theorem mark_ne (c : Nat) : (S [c] != Str.ofString "\"") = true ↔ c ≠ 34 := by
  rw [show Str.ofString "\"" = S [34] from by decide, S_bne]; simp
section
variable {l d r : List Nat} {i : Int} {c c' : Nat}
theorem pw_end (hd : d ++ unq (l.drop i.toNat) = unq r) (h : ¬ i < (l.length : Int)) : S d = S (unq r) := by
  rw [unq_end (by omega), List.append_nil] at hd; rw [hd]
theorem pw_brk1 (hd : d ++ unq (l.drop i.toNat) = unq r) (hc : l[i.toNat]? = some c) (hm : (S [c] == Str.ofString "\"") = true) (hb : (l.length : Int) ≤ i + 1) (h0 : 5 ≤ i) : S d = S (unq r) := by
  rw [(mark_eq c).mp hm] at hc
  rw [unq_brk1 hc (by omega), List.append_nil] at hd; rw [hd]
theorem pw_brk2 (hd : d ++ unq (l.drop i.toNat) = unq r) (hc : l[i.toNat]? = some c) (hm : (S [c] == Str.ofString "\"") = true) (hc' : l[(i + 1).toNat]? = some c') (hm' : (S [c'] != Str.ofString "\"") = true) (h0 : 5 ≤ i) : S d = S (unq r) := by
  rw [(mark_eq c).mp hm] at hc
  rw [show (i + 1).toNat = i.toNat + 1 by omega] at hc'
  rw [unq_brk2 hc hc' ((mark_ne c').mp hm'), List.append_nil] at hd; rw [hd]
theorem pw_two (hd : d ++ unq (l.drop i.toNat) = unq r) (hc : l[i.toNat]? = some c) (hm : (S [c] == Str.ofString "\"") = true) (hc' : l[(i + 1).toNat]? = some c') (hm' : (S [c'] != Str.ofString "\"") = false) (h0 : 5 ≤ i) : (d ++ [c]) ++ unq (l.drop (i + 1 + 1).toNat) = unq r := by
  have e := (mark_eq c).mp hm
  have e' : c' = 34 := by
    rcases Nat.decEq c' 34 with h | h
    · rw [(mark_ne c').mpr h] at hm'; cases hm'
    · exact h
  subst e; subst e'
  rw [show (i + 1).toNat = i.toNat + 1 by omega] at hc'
  rw [unq_two hc hc'] at hd
  rw [show (i + 1 + 1).toNat = i.toNat + 2 by omega, ← hd]; simp
theorem pw_one (hd : d ++ unq (l.drop i.toNat) = unq r) (hc : l[i.toNat]? = some c) (hm : (S [c] == Str.ofString "\"") = false) (h0 : 5 ≤ i) : (d ++ [c]) ++ unq (l.drop (i + 1).toNat) = unq r := by
  have e : c ≠ 34 := fun h => by rw [(mark_eq c).mpr h] at hm; cases hm
  rw [unq_one hc e] at hd
  rw [show (i + 1).toNat = i.toNat + 1 by omega, ← hd]; simp
end
local macro_rules | `(tactic| walk_at "subscriptTail Name Name str int") => `(tactic| (k_here; (with_reducible show wpAny _ _ (subscriptTail _ _ (Value.str (S _) _) (Value.int _ _)) _ _ _); (refine item_S (by omega) (by omega) (by omega) ?_); intro c9 _ _ hc9))
local macro_rules | `(tactic| walk_at "binaryOp Add str str") => `(tactic| (k_here; (with_reducible show wpAny _ _ (binaryOp _ (Value.str (S _) _) (Value.str (S _) _)) _ _ _); (refine add_S (by simp only [List.length_cons, List.length_nil]; omega) ?_); intro _ _))
local macro_rules | `(tactic| walk_at "WPost") => `(tactic| (dsimp only [WPost]))
theorem parse_c (w : World) (mean : ExcName → Option Value) (mg mb : Str → Option Value) (news : List (Addr × Obj)) (r : List Nat) (t : Tok) :
    CbClaim PySem.Challenge.rw_pg0070_01.row.prog w (hd.heap_39 w.params) hd.view_39 (looseW hd.view_39 []) mean mg mb 53 news [] (r.length ≤ 1000) [Value.str (S (head5 ++ r)) t] (fun t => Value.str (S (unq r)) t) := by
  k_fill
  w_top off
  dsimp only [CbClaim, CbLists, CbRet]; intros; rename_i hp _ _ hret
  have h3 : (Txt.slice (S (head5 ++ r)) none (some 3) != Str.ofString "257") = false := by
    rw [show (3 : Int) = ((3 : Nat) : Int) from rfl, S_slice_to, S_lit, S_bne]; simp [head5]
  have h5 : (Txt.slice (S (head5 ++ r)) (some 3) (some 5) != Str.ofString " \"") = false := by
    rw [show (3 : Int) = ((3 : Nat) : Int) from rfl, show (5 : Int) = ((5 : Nat) : Int) from rfl, S_slice_nat, S_lit, S_bne]; simp [head5]
  have hr : (head5 ++ r).drop 5 = r := by simp [head5]
  have hl : (head5 ++ r).length = r.length + 5 := by simp [head5]
  generalize head5 ++ r = l at *
  have hl2 : (S l).length = l.length := S_len l
  have hl3 : (S l).length ≤ 1005 := by omega
  refine wpAny_call ?_
  k_dflt cell_enter
  repeat' ((fail_if_success (with_reducible show wpAny _ _ (exec (Stmt.While _ _ _ _) _) _ _ _));  first | (k_unfold; (try dsimp only)) | walk1 | (dsimp only; walk1) | (leave1; try dsimp only))
  rw [hl2] at *
  (rename Fr _ _ _ _ => lF'); (rename News _ _ _ _ => lN')
  refine w_while (σ := Int × List Nat × Tok × Tok) (fun _ => news) (fun c => [(Str.ofString "i", Value.int c.1 c.2.2.1), (Str.ofString "dirname", Value.str (S c.2.1) c.2.2.2), (Str.ofString "resp", Value.str (S l) t), (Str.ofString "n", Value.int l.length _)])
    (fun c => 5 ≤ c.1 ∧ c.1 ≤ l.length ∧ c.2.1 ++ unq (l.drop c.1.toNat) = unq r ∧ c.2.1.length ≤ c.1) (fun c => (l.length - c.1).toNat) (5, [], _, _) lF' lN' (List.forall_mem_cons.mpr ⟨rfl, List.forall_mem_cons.mpr ⟨rfl, List.forall_mem_cons.mpr ⟨rfl, List.forall_mem_cons.mpr ⟨rfl, List.forall_mem_nil _⟩⟩⟩⟩) ⟨by omega, by omega, by simp [hr], by simp⟩ ?turn
  clear lF' lN'
  rintro ⟨i, d, ti, td⟩ u h tk ⟨h1, h2, hd, hdl⟩ F9 N9
  dsimp only at h1 h2 hd hdl F9
  try k_fold
  repeat' ( first | (k_unfold; (try dsimp only)) | walk1 | (dsimp only; walk1) | (leave1; try dsimp only))
  · exact cb_retS hret (pw_brk1 hd (by assumption) (by assumption) (by assumption) h1) (by assumption) (by assumption)
  · exact cb_retS hret (pw_brk2 hd (by assumption) (by assumption) (by assumption) (by assumption) h1) (by assumption) (by assumption)
  · (rename Fr _ _ _ _ => lF'); (rename News _ _ _ _ => lN')
    exact ⟨(i + 1 + 1, d ++ [_], _, _), _, _, _, rfl, lF', lN', (List.forall_mem_cons.mpr ⟨rfl, List.forall_mem_cons.mpr ⟨rfl, List.forall_mem_cons.mpr ⟨rfl, List.forall_mem_cons.mpr ⟨rfl, List.forall_mem_nil _⟩⟩⟩⟩),
      ⟨by dsimp only; omega, by dsimp only; omega, pw_two hd (by assumption) (by assumption) (by assumption) (by assumption) h1, by simp only [List.length_append, List.length_cons, List.length_nil]; omega⟩, (by dsimp only; omega)⟩
  · (rename Fr _ _ _ _ => lF'); (rename News _ _ _ _ => lN')
    exact ⟨(i + 1, d ++ [_], _, _), _, _, _, rfl, lF', lN', (List.forall_mem_cons.mpr ⟨rfl, List.forall_mem_cons.mpr ⟨rfl, List.forall_mem_cons.mpr ⟨rfl, List.forall_mem_cons.mpr ⟨rfl, List.forall_mem_nil _⟩⟩⟩⟩),
      ⟨by dsimp only; omega, by dsimp only; omega, pw_one hd (by assumption) (by assumption) h1, by simp only [List.length_append, List.length_cons, List.length_nil]; omega⟩, (by dsimp only; omega)⟩
  · exact cb_retS hret (pw_end hd (by assumption)) (by assumption) (by assumption)
end Mine
open PySem PySem.W PyProof.Rows
set_option Elab.async false
namespace Mine
set_option maxRecDepth 100000
set_option maxHeartbeats 8000000
/-- the pieces one behind the other -/
def runW (g : List Nat) (ep : Nat) : List (List Nat) → Nat → Bool
  | [], _ => true
  | w :: ws, sp => match findAt g w sp ep with
    | none => false
    | some k => runW g ep ws (k + w.length)
def ematch (a b : List Nat) : Bool := match splitD a with
  | [] => false
  | [_] => a == b
  | p :: q :: r =>
    let l := (q :: r).getLast (by simp)
    let mid := (q :: r).dropLast
    if !p.isEmpty && !decide (b.take p.length = p) then false
    else if !l.isEmpty && !(decide (l.length ≤ b.length) && decide (b.drop (b.length - l.length) = l)) then false
    else if b.length < p.length + l.length then false
    else runW b (b.length - l.length) ((if p.isEmpty then [[]] else []) ++ mid ++ (if l.isEmpty then [[]] else [])) p.length
theorem splitD_le (a : List Nat) : ∀ x ∈ splitD a, x.length ≤ a.length := by
  induction a using splitD.induct with
  | case1 r ih =>
    intro x hx; rw [splitD_dots] at hx
    rcases List.mem_cons.mp hx with rfl | hx
    · simp
    · have := ih x hx; simp; omega
  | case2 c r hn p ps e ih =>
    intro x hx
    rw [splitD_step (fun q => by
      cases r with
      | nil => cases q
      | cons d r => cases r with
        | nil => cases q
        | cons f r => simp [dots] at q; exact hn r q.1 (by rw [q.2.1, q.2.2])) e] at hx
    rcases List.mem_cons.mp hx with rfl | hx
    · have := ih p (by rw [e]; exact List.mem_cons_self ..); simp; omega
    · have := ih x (by rw [e]; exact List.mem_cons_of_mem _ hx); simp; omega
  | case3 c r hn e ih => obtain ⟨p, ps, e'⟩ := splitD_ne r; rw [e'] at e; cases e
  | case4 => intro x hx; rw [splitD] at hx; simp at hx; simp [hx]
theorem splitD_count (a : List Nat) : (splitD a).length ≤ a.length + 1 := by
  induction a using splitD.induct with
  | case1 r ih => rw [splitD_dots]; simp; omega
  | case2 c r hn p ps e ih =>
    rw [splitD_step (fun q => by
      cases r with
      | nil => cases q
      | cons d r => cases r with
        | nil => cases q
        | cons f r => simp [dots] at q; exact hn r q.1 (by rw [q.2.1, q.2.2])) e]
    rw [e] at ih; simp at ih ⊢; omega
  | case3 c r hn e ih => obtain ⟨p, ps, e'⟩ := splitD_ne r; rw [e'] at e; cases e
  | case4 => rw [splitD]; simp
/-- what split has given, told by the pieces -/
theorem told_split {a : List Nat} {l : List (Str × Tok)} (h : l.map (fun x => x.1) = Txt.split (S a) (Str.ofString "...")) (h2 : (Builtin.Str.occurrences (S a) (Str.ofString "...") 0 (S a).length 1).isEmpty = false) :
    ∃ (p : List Nat × Tok) (ps : List (List Nat × Tok)) (pl : List Nat × Tok), strValues l = sv (p :: (ps ++ [pl])) ∧ splitD a = p.1 :: (ps.map (·.1) ++ [pl.1]) ∧ ∀ x ∈ p :: (ps ++ [pl]), x.1.length ≤ a.length := by
  have hl : l.map (fun x => x.1) = (splitD a).map S := by rw [h, show Str.ofString "..." = S dots from by decide, S_split]
  rw [show Str.ofString "..." = S dots from by decide, S_has] at h2
  have h3 : (splitD a).length ≠ 1 := by simpa using h2
  obtain ⟨p0, ps0, e0⟩ := splitD_ne a
  let q : List (List Nat × Tok) := l.map fun x => (x.1.cps.toList, x.2)
  have hq1 : strValues l = sv q := by
    simp only [strValues, sv, q, List.map_map]
    apply List.map_congr_left
    intro x _
    show Value.str x.1 x.2 = Value.str (S x.1.cps.toList) x.2
    rw [← S_eta]
  have hq2 : q.map (·.1) = splitD a := by
    have := congrArg (List.map fun x : Str => x.cps.toList) hl
    rw [List.map_map, List.map_map] at this
    have e : (splitD a).map ((fun x : Str => x.cps.toList) ∘ S) = splitD a := by
      rw [show ((fun x : Str => x.cps.toList) ∘ S) = id from by funext x; simp]; simp
    rw [e] at this
    rw [← this]; simp [q, List.map_map]
  have hqlen : q.length = (splitD a).length := by have := congrArg List.length hq2; rwa [List.length_map] at this
  rcases hqq : q with _ | ⟨p, qs⟩
  · rw [hqq] at hq2; rw [e0] at hq2; cases hq2
  · rcases List.eq_nil_or_concat qs with e | ⟨ps, pl, e⟩
    · rw [hqq, e] at hqlen; simp at hqlen; omega
    · rw [List.concat_eq_append] at e
      refine ⟨p, ps, pl, by rw [hq1, hqq, e], by rw [← hq2, hqq, e]; simp, ?_⟩
      intro x hx
      have hx' : x.1 ∈ splitD a := by rw [← hq2, hqq, e]; exact List.mem_map_of_mem hx
      exact splitD_le a x.1 hx'
/-- the first piece is behind: what is left to be asked -/
def EmAt (a b : List Nat) (qs : List (List Nat × Tok)) (pl : List Nat × Tok) (SP : Int) : Prop :=
  0 ≤ SP ∧ SP ≤ b.length ∧ ematch a b = (if !pl.1.isEmpty && !(decide (pl.1.length ≤ b.length) && decide (b.drop (b.length - pl.1.length) = pl.1)) then false
    else if b.length < SP.toNat + pl.1.length then false
    else runW b (b.length - pl.1.length) (qs.map (·.1) ++ (if pl.1.isEmpty then [[]] else [])) SP.toNat)
theorem ematch_split {a b : List Nat} {p pl : List Nat × Tok} {ps : List (List Nat × Tok)} (e : splitD a = p.1 :: (ps.map (·.1) ++ [pl.1])) : ematch a b =
    (if !p.1.isEmpty && !decide (b.take p.1.length = p.1) then false
    else if !pl.1.isEmpty && !(decide (pl.1.length ≤ b.length) && decide (b.drop (b.length - pl.1.length) = pl.1)) then false
    else if b.length < p.1.length + pl.1.length then false
    else runW b (b.length - pl.1.length) ((if p.1.isEmpty then [[]] else []) ++ ps.map (·.1) ++ (if pl.1.isEmpty then [[]] else [])) p.1.length) := by
  unfold ematch
  rw [e]
  cases ps with
  | nil => rfl
  | cons q r =>
    have h1 : (q.1 :: (List.map (·.1) r ++ [pl.1])).getLast (by simp) = pl.1 := by
      rw [List.getLast_cons (by simp)]; simp
    have h2 : (q.1 :: (List.map (·.1) r ++ [pl.1])).dropLast = q.1 :: List.map (·.1) r := by
      rw [← List.cons_append, List.dropLast_concat]
    simp only [List.map_cons, List.cons_append]
    simp only [h1, h2]
theorem em_no1 {a b : List Nat} {p pl : List Nat × Tok} {ps : List (List Nat × Tok)} (e : splitD a = p.1 :: (ps.map (·.1) ++ [pl.1])) (h1 : p.1.isEmpty = false) (h2 : Txt.startswith (S b) (S p.1) = false) : false = ematch a b := by
  rw [ematch_split e, h1]
  rw [S_starts] at h2
  rw [h2]; rfl
theorem em_at1 {a b : List Nat} {p pl : List Nat × Tok} {ps qs : List (List Nat × Tok)} {SP : Int} (e : splitD a = p.1 :: (ps.map (·.1) ++ [pl.1])) (hq : qs = ps) (hs : SP = (p.1.length : Int)) (h1 : p.1.isEmpty = false) (h2 : Txt.startswith (S b) (S p.1) = true) : EmAt a b qs pl SP := by
  subst hq; subst hs
  rw [S_starts] at h2
  have h3 : b.take p.1.length = p.1 := by simpa using h2
  have h4 : p.1.length ≤ b.length := by have := congrArg List.length h3; simp at this; omega
  refine ⟨by omega, by omega, ?_⟩
  rw [ematch_split e, h1, h2]
  simp
theorem em_at0 {a b : List Nat} {p pl : List Nat × Tok} {ps qs : List (List Nat × Tok)} {SP : Int} (e : splitD a = p.1 :: (ps.map (·.1) ++ [pl.1])) (hq : qs = p :: ps) (hs : SP = 0) (h1 : p.1.isEmpty = true) : EmAt a b qs pl SP := by
  subst hq; subst hs
  have h3 : p.1 = [] := by simpa using h1
  refine ⟨by omega, by omega, ?_⟩
  rw [ematch_split e, List.map_cons, h3]
  simp
theorem em_no2 {a b : List Nat} {qs : List (List Nat × Tok)} {pl : List Nat × Tok} {SP : Int}
    (h : ematch a b = (if !pl.1.isEmpty && !(decide (pl.1.length ≤ b.length) && decide (b.drop (b.length - pl.1.length) = pl.1)) then false
    else if b.length < SP.toNat + pl.1.length then false
    else runW b (b.length - pl.1.length) (qs.map (·.1) ++ (if pl.1.isEmpty then [[]] else [])) SP.toNat)) (h1 : pl.1.isEmpty = false) (h2 : Txt.endswith (S b) (S pl.1) = false) : false = ematch a b := by
  rw [S_ends] at h2
  rw [h, h1, h2]; rfl
theorem em_le {b l : List Nat} (h : Txt.endswith (S b) (S l) = true) : l.length ≤ b.length := by
  rw [S_ends, Bool.and_eq_true] at h
  exact of_decide_eq_true h.1
theorem em_no3 {a b : List Nat} {qs : List (List Nat × Tok)} {pl : List Nat × Tok} {SP : Int}
    (h : ematch a b = (if !pl.1.isEmpty && !(decide (pl.1.length ≤ b.length) && decide (b.drop (b.length - pl.1.length) = pl.1)) then false
    else if b.length < SP.toNat + pl.1.length then false
    else runW b (b.length - pl.1.length) (qs.map (·.1) ++ (if pl.1.isEmpty then [[]] else [])) SP.toNat)) (h0 : 0 ≤ SP) (h1 : pl.1.isEmpty = false) (h2 : Txt.endswith (S b) (S pl.1) = true) (h3 : (b.length : Int) - (pl.1.length : Int) < SP) : false = ematch a b := by
  rw [S_ends] at h2
  rw [h, h1, h2, if_neg (by simp), if_pos (by omega)]
/-- at the loop -/
structure EmFor (a b : List Nat) (ws : List (List Nat × Tok)) (SP EP : Int) : Prop where
  s0 : 0 ≤ SP
  s1 : SP ≤ EP
  s2 : EP ≤ b.length
  eq : ematch a b = runW b EP.toNat (ws.map (·.1)) SP.toNat
theorem em_for0 {a b : List Nat} {qs : List (List Nat × Tok)} {pl : List Nat × Tok} {SP : Int}
    (h : ematch a b = (if !pl.1.isEmpty && !(decide (pl.1.length ≤ b.length) && decide (b.drop (b.length - pl.1.length) = pl.1)) then false
    else if b.length < SP.toNat + pl.1.length then false
    else runW b (b.length - pl.1.length) (qs.map (·.1) ++ (if pl.1.isEmpty then [[]] else [])) SP.toNat)) (h0 : 0 ≤ SP) (h1 : pl.1.isEmpty = true) (h3 : SP ≤ b.length) : EmFor a b (qs ++ [pl]) SP b.length := by
  refine ⟨h0, h3, Int.le_refl _, ?_⟩
  have e : pl.1 = [] := by simpa using h1
  rw [h, e, if_neg (by simp), if_neg (by simp; omega)]
  simp [e]
theorem em_for1 {a b : List Nat} {qs : List (List Nat × Tok)} {pl : List Nat × Tok} {SP : Int}
    (h : ematch a b = (if !pl.1.isEmpty && !(decide (pl.1.length ≤ b.length) && decide (b.drop (b.length - pl.1.length) = pl.1)) then false
    else if b.length < SP.toNat + pl.1.length then false
    else runW b (b.length - pl.1.length) (qs.map (·.1) ++ (if pl.1.isEmpty then [[]] else [])) SP.toNat)) (h0 : 0 ≤ SP) (h1 : pl.1.isEmpty = false) (h2 : Txt.endswith (S b) (S pl.1) = true) (h3 : ¬ (b.length : Int) - (pl.1.length : Int) < SP) : EmFor a b qs SP ((b.length : Int) - (pl.1.length : Int)) := by
  have hle := em_le h2
  refine ⟨h0, by omega, by omega, ?_⟩
  rw [S_ends] at h2
  rw [h, h1, h2, if_neg (by simp), if_neg (by omega)]
  rw [show ((b.length : Int) - (pl.1.length : Int)).toNat = b.length - pl.1.length by omega]
  simp
theorem w_for {prog : Program} {w : World} {A : Around} {E : Value → Shared → Prop} {Q : Flow → Shared → Prop} {s : Shared} {env : Env} {h₀ h : Heap} {L : Addr} {m : Str → Option Value} {x : Str} {px pos : Pos} {iter : Expr} {body : List Stmt} (_F : Fr h₀ L h m)
    (hx : env.kindOf x = some .local)
    (hp : (env.scope.kind == .class || (env.scope.kind == .module && env.locals != env.globals)) = false)
    (h : wpAny (model prog w) A (eval iter env) (fun xv s₁ => wpAny (model prog w) A (pyIter xv) (fun it s₂ => LoopAtV prog w A h₀ env x body Q E it s₂) E s₁) E s)
    (hs : ∀ x, foldedSetIterable iter env x = pure x := by intro _; rfl)
    (hE : PassesOwn (model prog w) A env E := by passes_own) :
    wpAny (model prog w) A (exec (.For (.Name x px) iter body [] pos) env) Q E s := For_invV h₀ hx hp h hs hE
theorem sv_snoc (qs : List (List Nat × Tok)) (pl : List Nat × Tok) : sv (qs ++ [pl]) = sv qs ++ [Value.str (S pl.1) pl.2] := by simp [sv]
theorem sv_get {ws : List (List Nat × Tok)} {i : Nat} {v : Value} (h : (sv ws)[i]? = some v) : ∃ p, ws[i]? = some p ∧ v = Value.str (S p.1) p.2 := by
  simp only [sv, List.getElem?_map, Option.map_eq_some_iff] at h
  obtain ⟨p, h1, h2⟩ := h
  exact ⟨p, h1, h2.symm⟩
theorem findAt_some {g w : List Nat} {lo hi k : Nat} (h : findAt g w lo hi = some k) : lo ≤ k ∧ k + w.length ≤ hi := by
  unfold findAt at h
  have h1 := List.find?_some h
  have h2 := List.mem_of_find?_eq_some h
  rw [List.mem_range'_1] at h2
  rw [Bool.and_eq_true] at h1
  exact ⟨by omega, of_decide_eq_true h1.1⟩
theorem drop_map_at {ws : List (List Nat × Tok)} {i : Nat} {w : List Nat} {wt : Tok} (h : ws[i]? = some (w, wt)) : (ws.map (·.1)).drop i = w :: (ws.map (·.1)).drop (i + 1) := by
  have hi : i < ws.length := by
    rcases Nat.lt_or_ge i ws.length with h1 | h1
    · exact h1
    · rw [List.getElem?_eq_none h1] at h; cases h
  rw [List.drop_eq_getElem_cons (by simpa using hi)]
  rw [List.getElem?_eq_getElem hi] at h
  simp [Option.some.inj h]
theorem em_none {a b : List Nat} {EP z : Int} {ws : List (List Nat × Tok)} {i : Nat} {w : List Nat} {wt : Tok} (g : ematch a b = runW b EP.toNat ((ws.map (·.1)).drop i) z.toNat) (h : ws[i]? = some (w, wt)) (hf : findAt b w z.toNat EP.toNat = none) : false = ematch a b := by
  rw [g, drop_map_at h, runW, hf]
theorem em_some {a b : List Nat} {EP z : Int} {ws : List (List Nat × Tok)} {i k : Nat} {w : List Nat} {wt : Tok} (g : ematch a b = runW b EP.toNat ((ws.map (·.1)).drop i) z.toNat) (h : ws[i]? = some (w, wt)) (hf : findAt b w z.toNat EP.toNat = some k) :
    ematch a b = runW b EP.toNat ((ws.map (·.1)).drop (i + 1)) ((k : Int) + (w.length : Int)).toNat := by
  rw [g, drop_map_at h, runW, hf]
  rw [show ((k : Int) + (w.length : Int)).toNat = k + w.length by omega]
theorem em_done {a b : List Nat} {EP z : Int} {ws : List (List Nat × Tok)} (g : ematch a b = runW b EP.toNat ((ws.map (·.1)).drop (sv ws).length) z.toNat) : true = ematch a b := by
  rw [g, sv_len, List.drop_eq_nil_of_le (by simp), runW]
/-- all that the loop asks of the frame -/
def EmPack (h₀ : Heap) (L : Addr) (h : Heap) (D : Addr) (news : List (Addr × Obj)) (a b : List Nat) (u : Tok) : Prop :=
  ∃ (ws : List (List Nat × Tok)) (EP : Int) (te ts : Tok) (n : Nat) (m : Str → Option Value), Fr h₀ L h m ∧ News h₀ L h ((D, listOf (sv ws).toArray n) :: news) ∧
    (∃ SP, EmFor a b ws SP EP ∧ m (Str.ofString "startpos") = some (.int SP ts)) ∧ m (Str.ofString "endpos") = some (.int EP te) ∧ m (Str.ofString "got") = some (.str (S b) u)
theorem ell_pack {h₀ : Heap} {L : Addr} {h : Heap} {D : Addr} {news : List (Addr × Obj)} {a b : List Nat} {u te ts : Tok} {ws : List (List Nat × Tok)} {SP EP : Int} {n : Nat} {m : Str → Option Value}
    (F : Fr h₀ L h m) (N : News h₀ L h ((D, listOf (sv ws).toArray n) :: news)) (e : EmFor a b ws SP EP) (h1 : m (Str.ofString "endpos") = some (.int EP te)) (h2 : m (Str.ofString "startpos") = some (.int SP ts)) (h3 : m (Str.ofString "got") = some (.str (S b) u)) :
    EmPack h₀ L h D news a b u := ⟨ws, EP, te, ts, n, m, F, N, ⟨SP, e, h2⟩, h1, h3⟩
theorem ell_uniq {D : Addr} {news : List (Addr × Obj)} {ol : Obj} (hap : ∀ q ∈ news, q.1 ≠ D) : ∀ (_ : Int × Tok) o, (D, o) ∈ (D, ol) :: news → o = ol := by
  intro _ o h
  rcases List.mem_cons.mp h with e | e
  · cases e; rfl
  · exact absurd rfl (hap _ e)
theorem split_S {prog : Program} {w : World} {A : Around} {E : Value → Shared → Prop} {s : Shared} {h₀ : Heap} {L : Addr} {m : Str → Option Value} {news : List (Addr × Obj)} {a : List Nat} {t u : Tok} {Q : Value → Shared → Prop}
    (F : Fr h₀ L s.heap m) (N : News h₀ L s.heap news) (hc : (Builtin.Str.occurrences (S a) (Str.ofString "...") 0 (S a).length 1).isEmpty = false) (ha : a.length ≤ 1000000)
    (h : ∀ p ps pl D h' k, splitD a = p.1 :: (ps.map (·.1) ++ [pl.1]) → (∀ x ∈ p :: (ps ++ [pl]), x.1.length ≤ a.length) → ps.length ≤ a.length → (∀ q ∈ news, q.1 ≠ D) → Fr h₀ L h' m → News h₀ L h' ((D, listOf (sv (p :: (ps ++ [pl]))).toArray 0) :: news) → Q (.ref D) { s with heap := h', toks := k }) :
    wpAny (model prog w) A (call (.builtin "str.split") [.str (S a) t, .str (Str.ofString "...") u]) Q E s := by
  refine splitN1 F N (by decide) (fun l h' k e F' N' => ?_) (by rw [S_len]; simp [sizeLine]; omega)
  obtain ⟨p, ps, pl, e1, e2, e3⟩ := told_split e hc
  rw [e1] at N'
  refine h p ps pl _ h' k e2 e3 ?_ (News.apart N) F' N'
  have := splitD_count a
  rw [e2] at this; simp at this; omega
theorem len_S {prog : Program} {w : World} {A : Around} {E : Value → Shared → Prop} {s : Shared} {l : List Nat} {t : Tok} {Q : Value → Shared → Prop} (hl : l.length ≤ 16777216) (h : ∀ tk tk', Q (.int (l.length : Int) tk) { s with toks := tk' }) : wpAny (model prog w) A (call (.builtin "len") [.str (S l) t]) Q E s :=
  len_str (by rw [S_len]; omega) (by rw [S_len]; exact h _ _)
local macro_rules | `(tactic| walk_at "truthy str") => `(tactic| (k_here; (with_reducible show wpAny _ _ (PySem.truthy (Value.str (S _) _)) _ _ _); (refine truthy_S (by omega) ?_); intro _))
local macro_rules | `(tactic| walk_at "call builtin:len") => `(tactic| (k_here; (with_reducible show wpAny _ _ (call (Value.builtin "len") [Value.ref _]) _ _ _); k_dflt (refine' kst_len ?k1 ?k2 ?k3 ?k4 ?_; (case k1 => k_asm); (case k2 => k_mem); (case k3 => (rw [sv_len, List.length_cons, List.length_append, List.length_singleton])); (case k4 => omega)); k_whole))
local macro_rules | `(tactic| walk_at "call builtin:len") => `(tactic| (k_here; (with_reducible show wpAny _ _ (call (Value.builtin "len") [Value.str (S _) _]) _ _ _); (refine len_S (by omega) ?_); intro _ _))
local macro_rules | `(tactic| walk_at "st") => `(tactic| first | (k_unfold; (try dsimp only)) | walk1 | (dsimp only; walk1) | (leave1; try dsimp only))
local macro_rules | `(tactic| walk_at "FPost") => `(tactic| (dsimp only [FPost]))
theorem ell_c (w : World) (mean : ExcName → Option Value) (mg mb : Str → Option Value) (news : List (Addr × Obj)) (a b : List Nat) (t u : Tok) :
    CbClaim PySem.Challenge.rw_pg0070_01.row.prog w (hd.heap_39 w.params) hd.view_39 (looseW hd.view_39 []) mean mg mb 21 news [] (a.length ≤ 1000 ∧ b.length ≤ 1000) [Value.str (S a) t, Value.str (S b) u] (fun t => Value.bool (ematch a b)) := by
  k_fill
  w_top off
  dsimp only [CbClaim, CbLists, CbRet]; intros; rename_i hp _ _ hret; obtain ⟨hx, hy⟩ := hp
  have hx2 : (S a).length ≤ 1000 := by rw [S_len]; exact hx
  have hy2 : (S b).length ≤ 1000 := by rw [S_len]; exact hy
  refine wpAny_call ?_
  k_dflt cell_enter
  repeat' ((fail_if_success (with_reducible show wpAny _ _ (call (Value.builtin "str.split") _) _ _ _));  walk_at "st")
  · refine cb_retB hret ?_ (by assumption) (by assumption)
    (rename List.isEmpty _ = true => hno)
    rw [show Str.ofString "..." = S dots from by decide, S_has] at hno
    rw [S_beq, ematch]
    obtain ⟨p0, ps0, e0⟩ := splitD_ne a
    rw [e0] at hno ⊢
    cases ps0 with
    | nil => rfl
    | cons _ _ => simp at hno
  refine split_S (by assumption) (by assumption) (by assumption) (by omega) ?_
  intro p ps pl D h8 k8 e2 e3 e4 hap F8 N8
  have hp1 := e3 p (List.mem_cons_self ..)
  have hp2 := e3 pl (by simp)
  repeat' ((fail_if_success (with_reducible show wpAny _ _ (subscriptTail _ _ (Value.ref _) _) _ _ _));  walk_at "st")
  (rename News _ _ _ _ => N9)
  replace N9 := cb_drop (news := (D, listOf (sv (p :: (ps ++ [pl]))).toArray 0) :: news) N9 (fun p hp => List.mem_cons_of_mem _ hp)
  refine item_at (led_isList N9 (List.mem_cons_self ..)) (by decide) (by decide) rfl ?_
  repeat' ((fail_if_success (with_reducible show wpAny _ _ (delItem _ _) _ _ _)); (fail_if_success (with_reducible show wpAny _ _ (subscriptTail _ _ (Value.ref _) _) _ _ _));  walk_at "st")
  rotate_left 2
  · exact cb_retB hret (em_no1 e2 (by assumption) (by assumption)) (by assumption) (cb_drop (by assumption) (fun _ h => List.mem_cons_of_mem _ h))
  rotate_left 1
  (rename News _ _ _ _ => N9)
  refine del_first (vs := sv (ps ++ [pl])) (by assumption) N9 hap (by rw [sv_len]; simp; omega) ?_
  clear N9
  intro h7 F7 N7
  repeat' ((fail_if_success (with_reducible show wpAny _ _ (subscriptTail _ _ (Value.ref _) _) _ _ _));  walk_at "st")
  (rename Fr _ _ _ _ => F9); (rename News _ _ _ _ => N9)
  obtain ⟨qs, hqs⟩ : ∃ qs, qs = ps := ⟨_, rfl⟩
  obtain ⟨SP, hSP⟩ : ∃ z : Int, z = (p.1.length : Int) := ⟨_, rfl⟩
  rw [← hqs] at N9
  rw [← hSP] at F9
  have hql : qs.length ≤ 1001 := by rw [hqs]; omega
  have e5 : EmAt a b qs pl SP := em_at1 e2 hqs hSP (by assumption) (by assumption)
  clear hqs hSP e2 e3 hp1
  rotate_left 1
  (rename Fr _ _ _ _ => F9); (rename News _ _ _ _ => N9)
  obtain ⟨qs, hqs⟩ : ∃ qs, qs = p :: ps := ⟨_, rfl⟩
  obtain ⟨SP, hSP⟩ : ∃ z : Int, z = 0 := ⟨_, rfl⟩
  rw [show sv (p :: (ps ++ [pl])) = sv (qs ++ [pl]) by rw [hqs]; rfl] at N9
  rw [show Value.int 0 = Value.int SP by rw [hSP]] at F9
  have hql : qs.length ≤ 1001 := by rw [hqs, List.length_cons]; omega
  have e5 : EmAt a b qs pl SP := em_at0 e2 hqs hSP (by assumption)
  clear hqs hSP e2 e3 hp1
  all_goals (
    obtain ⟨hs0, hs1, hem⟩ := e5
    have hil := led_isList N9 (List.mem_cons_self ..)
    rw [show sv (qs ++ [pl]) = sv qs ++ [Value.str (S pl.1) pl.2] from by simp [sv]] at hil N9
    refine item_last hil ?_
    clear hil
    repeat' ((fail_if_success (with_reducible show wpAny _ _ (pyIter _) _ _ _)); (fail_if_success (with_reducible show wpAny _ _ (delItem _ _) _ _ _)); walk_at "st"))
  all_goals first
    | exact cb_retB hret (em_no2 hem (by assumption) (by assumption)) (by assumption) (cb_drop (by assumption) (fun _ h => List.mem_cons_of_mem _ h))
    | ((with_reducible show wpAny _ _ (delItem _ _) _ _ _)
       (rename News _ _ _ _ => N9)
       refine del_last (by assumption) N9 hap (by rw [sv_len]; omega) ?_
       clear N9
       intro h6 F6 N6
       have hpl : pl.1.length ≤ b.length := em_le (by assumption)
       repeat' ((fail_if_success (with_reducible show wpAny _ _ (exec (Stmt.For _ _ _ _ _) _) _ _ _)); walk_at "st"))
    | skip
  all_goals first
    | exact cb_retB hret (em_no3 hem hs0 (by assumption) (by assumption) (by assumption)) (by assumption) (cb_drop (by assumption) (fun _ h => List.mem_cons_of_mem _ h))
    | skip
  all_goals (
    (rename Fr _ _ _ _ => F9); (rename News _ _ _ _ => N9)
    refine w_for F9 (by rfl) (by rfl) ?_
    walk1)
  all_goals (
    obtain ⟨ws, EP, te, ts, n9, m9, F8, N8, ⟨SP, e6, h2⟩, h1, h3⟩ : EmPack _ _ _ D news a b u := by
      first
        | exact ell_pack F9 (by rw [← sv_snoc] at N9; exact N9) (em_for0 hem hs0 (by assumption) hs1) rfl rfl rfl
        | exact ell_pack F9 N9 (em_for1 hem hs0 (by assumption) (by assumption) (by assumption)) rfl rfl rfl
    clear F9 N9 hem hs0 hs1
    obtain ⟨hs0, hs1, hs2, hem⟩ := e6
    refine f_list (σ := Int × Tok) (fun _ => (D, listOf (sv ws).toArray n9) :: news) (fun c => [(Str.ofString "startpos", Value.int c.1 c.2), (Str.ofString "got", Value.str (S b) u), (Str.ofString "endpos", Value.int EP te)])
      (fun i c => 0 ≤ c.1 ∧ c.1 ≤ EP ∧ ematch a b = runW b EP.toNat ((ws.map (·.1)).drop i) c.1.toNat) (_, ts) rfl rfl ⟨_, rfl⟩ (fun _ => List.mem_cons_self ..) (ell_uniq hap) F8 N8
      (List.forall_mem_cons.mpr ⟨h2, List.forall_mem_cons.mpr ⟨h3, List.forall_mem_cons.mpr ⟨h1, List.forall_mem_nil _⟩⟩⟩) ⟨hs0, hs1, hem⟩ ?_ ?_
    · rintro i v ⟨z, tz⟩ u9 h9 tk9 I oI hv ⟨g1, g2, g3⟩ hne F9 N9
      dsimp only at g1 g2 g3 F9
      obtain ⟨wt, hwt, rfl⟩ := sv_get hv
      obtain ⟨wd, wt⟩ := wt
      dsimp only at F9
      try k_fold
      repeat' ((fail_if_success (with_reducible show wpAny _ _ (call (Value.builtin "str.find") _) _ _ _)); walk_at "st")
      refine find4 g1 (by omega) hs2 ?_
      intro tk1 tk2
      cases hf : findAt b wd z.toNat EP.toNat with
      | none =>
        dsimp only
        repeat' (walk_at "st")
        exact cb_retB hret (em_none g3 hwt hf) (by assumption) (cb_drop (by assumption) (fun _ h => List.mem_cons_of_mem _ (List.mem_cons_of_mem _ h)))
      | some k =>
        have hk := findAt_some hf
        dsimp only
        repeat' (walk_at "st")
        (rename Fr _ _ _ _ => lF'); (rename News _ _ _ _ => lN')
        exact ⟨(_, _), _, _, _, rfl, lF', lN', hne, (List.forall_mem_cons.mpr ⟨rfl, List.forall_mem_cons.mpr ⟨rfl, List.forall_mem_cons.mpr ⟨rfl, List.forall_mem_nil _⟩⟩⟩), ⟨by dsimp only; omega, by dsimp only; omega, em_some g3 hwt hf⟩⟩
    · rintro ⟨z, tz⟩ u9 h9 tk9 ⟨g1, g2, g3⟩ F9 N9
      dsimp only at g1 g2 g3 F9
      try k_fold
      repeat' (walk_at "st")
      exact cb_retB hret (em_done g3) (by assumption) (cb_drop (by assumption) (fun _ h => List.mem_cons_of_mem _ h)))
end Mine
open PySem PySem.W PyProof.Rows
set_option Elab.async false
namespace Mine
/-- what a call of a def of the text comes to -/
def FnC (lv : Nat) (prog : Program) (w : World) (K : Frag) (p : Program) (loose : List Str) (mean : ExcName → Option Value) (mg mb : Str → Option Value) (f : Addr) (pre : Prop) (vs : List Value) (Post : Value → List (Addr × Obj) → Prop) : Prop :=
  ∀ (dp un : Nat) (gd : Option (List Code)) (cn : Str) (cs : Scope) (a : Addr) (ccd : Value) (cl : List (Str × Addr)) (outer : List Env) (A₀ : Around) (base h₀ : Heap) (L : Addr) (m : Str → Option Value) (news : List (Addr × Obj)) (s : Shared) (Q E : Value → Shared → Prop),
    Below A₀ base outer h₀ → Fr h₀ L s.heap m → K.In h₀ → News h₀ L s.heap news → Top p loose mean mg mb h₀ → cs.kind = .function → pre → dp + lv < recursionLimit → un + 10 * lv < cLine →
    (∀ v own h' tk', Post v own → (∀ p ∈ news, ∀ q ∈ own, p.1 ≠ q.1) → Fr h₀ L h' m → News h₀ L h' (own ++ news) → Q v { s with heap := h', toks := tk' }) →
    wpAny (model prog w) (ktrTop dp un gd cn cs L a ccd cl outer) (call (.ref f) vs) Q E s
section
variable {prog : Program} {w : World} {K : Frag} {p : Program} {loose : List Str} {mean : ExcName → Option Value} {mg mb : Str → Option Value} {f : Addr} {pre : Prop} {vs : List Value}
variable {dp un : Nat} {gd : Option (List Code)} {cn : Str} {cs : Scope} {a : Addr} {ccd : Value} {cl : List (Str × Addr)} {outer : List Env} {A₀ : Around} {base h₀ : Heap} {L : Addr} {m : Str → Option Value} {news : List (Addr × Obj)} {s : Shared} {Q E : Value → Shared → Prop}
theorem cb_use {R : Tok → Value} (C : CbClaim prog w K p loose mean mg mb f news [] pre vs R) (B : Below A₀ base outer h₀) (F : Fr h₀ L s.heap m) (X : K.In h₀) (N : News h₀ L s.heap news) (T : Top p loose mean mg mb h₀) (hk : cs.kind = .function) (hp : pre)
    (hd : dp + 1 < recursionLimit) (hu : un + 8 < cLine) (ret : CbRet h₀ L m news s Q R) : wpAny (model prog w) (ktrTop dp un gd cn cs L a ccd cl outer) (call (.ref f) vs) Q E s :=
  C dp un gd cn cs a ccd cl outer A₀ base h₀ L m s Q E B F X N T hk hp hd hu ret
theorem fn_use {lv : Nat} {Post : Value → List (Addr × Obj) → Prop} (C : FnC lv prog w K p loose mean mg mb f pre vs Post) (B : Below A₀ base outer h₀) (F : Fr h₀ L s.heap m) (X : K.In h₀) (N : News h₀ L s.heap news) (T : Top p loose mean mg mb h₀) (hk : cs.kind = .function) (hp : pre)
    (hd : dp + lv < recursionLimit) (hu : un + 10 * lv < cLine)
    (ret : ∀ v own h' tk', Post v own → (∀ p ∈ news, ∀ q ∈ own, p.1 ≠ q.1) → Fr h₀ L h' m → News h₀ L h' (own ++ news) → Q v { s with heap := h', toks := tk' }) : wpAny (model prog w) (ktrTop dp un gd cn cs L a ccd cl outer) (call (.ref f) vs) Q E s :=
  C dp un gd cn cs a ccd cl outer A₀ base h₀ L m news s Q E B F X N T hk hp hd hu ret
end
abbrev tupOf (vs : List Value) : Obj := { cls := .type "tuple", data := .seq vs.toArray }
end Mine
open PySem PySem.W PyProof.Rows
set_option Elab.async false
namespace Mine
theorem findAt_nil (g : List Nat) {lo hi : Nat} (h : lo ≤ hi) : findAt g [] lo hi = some lo := by
  unfold findAt
  rw [show hi + 1 - lo = (hi - lo) + 1 by omega, List.range'_succ, List.find?_cons]
  simp [h]
theorem runW_nil {g : List Nat} {ep sp : Nat} {ws : List (List Nat)} (h : sp ≤ ep) : runW g ep ([] :: ws) sp = runW g ep ws sp := by
  rw [runW, findAt_nil g h]; rfl
theorem runW_snoc {g : List Nat} {ep : Nat} : ∀ {ws : List (List Nat)} {sp : Nat}, sp ≤ ep → runW g ep (ws ++ [[]]) sp = runW g ep ws sp
  | [], sp, h => by rw [List.nil_append, runW_nil h]
  | w :: ws, sp, h => by
    rw [List.cons_append, runW, runW]
    cases hf : findAt g w sp ep with
    | none => rfl
    | some k => exact runW_snoc (findAt_some hf).2
theorem ematch_clean {a b p l : List Nat} {mid : List (List Nat)} (e : splitD a = p :: (mid ++ [l])) : ematch a b =
    (decide (b.take p.length = p) && decide (b.drop (b.length - l.length) = l) && decide (p.length + l.length ≤ b.length) && runW b (b.length - l.length) mid p.length) := by
  have e' : splitD a = (p, 0).1 :: ((mid.map fun x => (x, 0)).map (·.1) ++ [(l, (0 : Tok)).1]) := by rw [e]; simp [List.map_map, Function.comp_def]
  rw [ematch_split (p := (p, (0 : Tok))) (pl := (l, 0)) e']
  have hm : (mid.map fun x => (x, (0 : Tok))).map (·.1) = mid := by simp [List.map_map, Function.comp_def]
  simp only [hm]
  by_cases h1 : b.take p.length = p
  · by_cases h2 : b.drop (b.length - l.length) = l
    · by_cases h3 : p.length + l.length ≤ b.length
      · rw [if_neg (by simp [h1]), if_neg (by simp [h2]; omega), if_neg (by omega)]
        simp only [h1, h2, h3, decide_true, Bool.true_and, Bool.and_true]
        have hsp : p.length ≤ b.length - l.length := by omega
        cases hp : p.isEmpty with
        | true =>
          have hp' : p = [] := by simpa using hp
          subst hp'
          simp only [if_true, List.singleton_append, List.cons_append, List.nil_append]
          rw [runW_nil hsp]
          cases hl : l.isEmpty with
          | true => rw [if_pos rfl, runW_snoc hsp]
          | false => rw [if_neg (by simp), List.append_nil]
        | false =>
          simp only [Bool.false_eq_true, if_false, List.nil_append]
          cases hl : l.isEmpty with
          | true => rw [if_pos rfl, runW_snoc hsp]
          | false => rw [if_neg (by simp), List.append_nil]
      · rw [if_neg (by simp [h1])]
        simp only [h3, decide_false, Bool.and_false, Bool.false_and]
        split
        · rfl
        · rw [if_pos (by omega)]
    · rw [if_neg (by simp [h1])]
      simp only [h2, decide_false, Bool.and_false, Bool.false_and]
      have hl : l.isEmpty = false := by
        cases l with
        | nil => exfalso; apply h2; simp
        | cons _ _ => rfl
      rw [if_pos (by simp [hl])]
  · have hp : p.isEmpty = false := by
      cases p with
      | nil => exfalso; apply h1; simp
      | cons _ _ => rfl
    rw [if_pos (by simp [hp, h1])]
    simp only [h1, decide_false, Bool.false_and]
theorem splitD_free {l : List Nat} (h : ∀ c ∈ l, c ≠ 46) : splitD l = [l] := by
  induction l with
  | nil => rw [splitD]
  | cons c r ih =>
    have := ih (fun c hc => h c (List.mem_cons_of_mem _ hc))
    exact splitD_step (fun q => h c (List.mem_cons_self ..) (by cases r with
      | nil => simp [dots] at q
      | cons d r => simp [dots] at q; exact q.1)) this
theorem splitD_app {l r : List Nat} (h : ∀ c ∈ l, c ≠ 46) : splitD (l ++ 46 :: 46 :: 46 :: r) = l :: splitD r := by
  induction l with
  | nil => rw [List.nil_append, splitD_dots]
  | cons c l ih =>
    have := ih (fun c hc => h c (List.mem_cons_of_mem _ hc))
    exact splitD_step (fun q => h c (List.mem_cons_self ..) (by
      have := congrArg (fun z : List Nat => z.head?) q
      simpa [dots] using this)) this
end Mine
open PySem PySem.W PyProof.Rows
set_option Elab.async false
namespace Mine
/-- the signs with sep between them -/
def jn (sep : List Nat) : List (List Nat) → List Nat
  | [] => []
  | [x] => x
  | x :: r => x ++ sep ++ jn sep r
theorem S_join (sep : List Nat) : ∀ ts : List (List Nat), Txt.join (S sep) (ts.map S) = S (jn sep ts) := by
  intro ts
  show Builtin.Str.glued (S sep) (ts.map S) = _
  rw [StrLaws.glued_eq_join]
  induction ts with
  | nil => rfl
  | cons x r ih =>
    cases r with
    | nil => rfl
    | cons y r =>
      show S x ++ S sep ++ Str.join (S sep) (List.map S (y :: r)) = _
      rw [ih, S_app, S_app]; rfl
theorem jn_len (sep : List Nat) (n : Nat) : ∀ ts : List (List Nat), (∀ x ∈ ts, x.length ≤ n) → (jn sep ts).length ≤ ts.length * (n + sep.length)
  | [], _ => by simp [jn]
  | [x], h => by have := h x (by simp); simp [jn]; omega
  | x :: y :: r, h => by
    have h1 := h x (by simp)
    have h2 := jn_len sep n (y :: r) (fun z hz => h z (List.mem_cons_of_mem _ hz))
    rw [jn, List.length_append, List.length_append, List.length_cons, Nat.add_mul]
    · omega
    · simp
open Builtin Builtin.Str in
theorem join_tree_str (sep x : Str) (t u : Tok) : «str.join» ⟨[.str sep t, .str x u], []⟩ = (do
    let ty ← typeOf (.str x u)
    if (ty == .type "list" || ty == .type "tuple") = true then (do
      match ← seqItems? (.str x u) with
      | some xs => joinTail sep xs.toList
      | none => unsupported "internal:str.join")
    else (do
      let it ← (pyIter (.str x u)).tryCatch fun e => do
        if ← isInstance e (.type "TypeError") then rule "str.join.not-iterable"; raiseError "TypeError" "can only join an iterable" else throw e
      let items ← collect it
      joinTail sep items)) := rfl
section
variable {prog : Program} {w : World} {A : Around} {E : Value → Shared → Prop} {s : Shared} {sep l : List Nat} {t u : Tok} {Q : Value → Shared → Prop}
theorem signs_items {x : List Nat} {acc : Array Value} (h : ItemsOf (SignAt (S x)) acc x.length) : ∃ q : List (Str × Tok), strValues q = acc.toList ∧ q.map (·.1) = x.map (fun c => S [c]) := by
  obtain ⟨q, hq⟩ := exists_strValues acc.toList fun v hv => by
    obtain ⟨j, hj, rfl⟩ := Array.mem_iff_getElem.mp (Array.mem_toList_iff.mp hv)
    obtain ⟨c, u, _, e⟩ := h.2 j _ (Array.getElem?_eq_getElem hj)
    exact ⟨_, _, e⟩
  refine ⟨q, hq, ?_⟩
  have hlen : q.length = x.length := by
    have := congrArg List.length hq
    simp [strValues] at this
    rw [this, h.1]
  apply List.ext_getElem?
  intro j
  rw [List.getElem?_map, List.getElem?_map]
  rcases Nat.lt_or_ge j q.length with hj | hj
  · have e1 : acc[j]? = some (Value.str q[j].1 q[j].2) := by
      have : acc.toList[j]? = some (Value.str q[j].1 q[j].2) := by
        rw [← hq]; simp [strValues, hj]
      simpa using this
    obtain ⟨c, u, h1, h2⟩ := h.2 j _ e1
    have h3 : x[j]? = some c := by simpa using h1
    rw [List.getElem?_eq_getElem hj, h3]
    have : q[j].1 = S [c] := by injection h2
    simp [this]
  · rw [List.getElem?_eq_none hj, List.getElem?_eq_none (by omega)]; rfl
theorem join_strS (hh : A.handled = none) (hl : l.length ≤ 1000) (hs : sep.length ≤ 1000)
    (hq : ∀ t' h' k, (∀ b o, s.heap.get? b = some o → h'.get? b = some o) → Q (.str (S (jn sep (l.map fun c => [c]))) t') { s with heap := h', toks := k }) :
    wpAny (model prog w) A (call (.builtin "str.join") [.str (S sep) t, .str (S l) u]) Q E s := by
  refine wpAny_call (codeAny_call_builtin F.slot_str_join.plain F.entry_str_join (F.slot_str_join.check _ _ _ _ _ _ _ _ (typeIs_str _ _ _) (F.args_str_join_2 _ _) ?_))
  rw [join_tree_str]
  refine wpAny_bind (wpAny_typeOf (typeIs_str _ _ _) ?_)
  show wpAny _ A.in1 ((pyIter (.str (S l) u)).tryCatch _ >>= fun it => collect it >>= fun items => joinTail (S sep) items) _ _ s
  have fin : ∀ (s' : Shared) (acc : Array Value) , (∀ b o, s.heap.get? b = some o → s'.heap.get? b = some o) → s'.gens = s.gens → s'.drawn = s.drawn → s'.os = s.os → ItemsOf (SignAt (S l)) acc (S l).cps.size →
      wpAny (model prog w) A.in1 (joinTail (S sep) acc.toList) (fun fin s' => match fin with | .done f => wants Q E (.ok f) s' | .again c' => c'.quiet = true ∧ codeAny (model prog w) A c' (wants Q E) s') (fun e s' => wants Q E (.error e) s') s' := by
    intro s' acc hk hg hd ho hacc
    rw [show (S l).cps.size = l.length from by simp] at hacc
    obtain ⟨q, hq1, hq2⟩ := signs_items hacc
    rw [← hq1]
    have e : Txt.join (S sep) (q.map (·.1)) = S (jn sep (l.map fun c => [c])) := by
      rw [hq2, ← S_join, List.map_map]; rfl
    have hok := StrLaws.joinFits (sep := S sep) (texts := q.map (·.1)) (B := 1) (by
        intro y hy; rw [hq2] at hy
        obtain ⟨c, _, rfl⟩ := List.mem_map.mp hy
        simp [Str.length]) (by
        rw [hq2, List.length_map, S_len]
        have : l.length * sep.length ≤ 1000 * 1000 := Nat.mul_le_mul hl hs
        omega)
    have g : Gives (joinTail (S sep) (strValues q)) (joinMade (S sep) q) := by
      have g0 := gives_joinTail (S sep) q hok
      cases q with
      | nil => exact g0
      | cons p r => cases r with
        | nil => exact g0
        | cons q r' => exact g0
    refine g prog w A (wants Q E) s' (post_join q ⟨joinFit_length hok, fun t' k => ?_⟩)
    rw [e]
    have := hq t' s'.heap k hk
    show Q _ _
    have es : ({ s' with toks := k } : Shared) = { s with heap := s'.heap, toks := k } := by rw [hg, hd, ho]
    rw [es]; exact this
  have hn : (S l).cps.size ≤ sizeLine := by simp [sizeLine]; omega
  cases ha : (S l).cps.all (· < 128)
  · refine wpAny_bind (wpAny_tryCatch (wpAny_pyIter_wide ha ?_))
    refine wpAny_bind (wpAny_collect_strIter (I := s.heap.objs.size) (x := S l) (t := u) hh (Or.inr rfl) ⟨_, Heap.get?_push_size _ rfl, rfl, rfl⟩ ?_ hn)
    intro s' acc hk hg hd ho hacc
    exact fin s' acc (fun b o e => hk b o (Nat.ne_of_lt (Heap.lt_size e)) (Heap.get?_push_of_some _ e)) hg hd ho hacc
  · refine wpAny_bind (wpAny_tryCatch (wpAny_pyIter_ascii ha ?_))
    refine wpAny_bind (wpAny_collect_strIter (I := s.heap.objs.size) (x := S l) (t := u) hh (Or.inl rfl) ⟨_, Heap.get?_push_size _ rfl, rfl, rfl⟩ ?_ hn)
    intro s' acc hk hg hd ho hacc
    exact fin s' acc (fun b o e => hk b o (Nat.ne_of_lt (Heap.lt_size e)) (Heap.get?_push_of_some _ e)) hg hd ho hacc
end
end Mine
open PySem PySem.W PyProof.Rows
set_option Elab.async false
namespace Mine
section
variable {prog : Program} {w : World} {A : Around} {E : Value → Shared → Prop} {s : Shared} {h₀ : Heap} {L C D : Addr} {m : Str → Option Value} {news : List (Addr × Obj)}
/-- a part of a comprehension's turn has come to its end -/
def CEnd (h₀ : Heap) (L : Addr) (m : Str → Option Value) (led : List (Addr × Obj)) (C : Addr) (s s' : Shared) : Prop :=
  ∃ h' tk' mC, s' = { s with heap := h', toks := tk' } ∧ Fr h₀ L h' m ∧ News h₀ L h' led ∧ h'.Ns C mC
/-- a turn: the target, the tests, the element -/
def CTurn (prog : Program) (w : World) (A : Around) (h₀ : Heap) (L : Addr) (m : Str → Option Value) (led : List (Addr × Obj)) (target elt : PySem.Expr) (ifs : List PySem.Expr) (cenv : Env) (J₁ : List Value → Prop) (ys : List Value) (v : Value) (E' : Value → Shared → Prop) (s : Shared) : Prop :=
  wpAny (model prog w) A (assign target cenv v) (fun _ s₂ =>
    wpAny (model prog w) A (forIn ifs true fun c r => if r = true then do let ok ← isTrue c cenv (eval c cenv); pure (ForInStep.yield ok) else pure (ForInStep.yield r)) (fun ok s₃ =>
      if ok = true then wpAny (model prog w) A (eval elt cenv) (fun y s₄ => CEnd h₀ L m led cenv.locals s s₄ ∧ J₁ (ys ++ [y])) E' s₃ else CEnd h₀ L m led cenv.locals s s₃ ∧ J₁ ys) E' s₂) E' s
theorem cm_loop {R : Result → Shared → Prop} {elt target iter : PySem.Expr} {ifs : List PySem.Expr} {scope : Scope} {pos : Pos} {I : Addr} {fp wr : List Addr} {n : Nat} {P : Nat → Value → Prop} {St : Nat → Heap → Prop} {cenv : Env} {mC : Str → Option Value}
    (W : Walks prog w A I fp wr n P St) (hLf : L ∉ fp) (hCf : cenv.locals ∉ fp) (hDf : D ∉ fp) (hCL : cenv.locals ≠ L) (hDL : D ≠ L) (hDC : D ≠ cenv.locals) (hD0 : h₀.get? D = none)
    (hwr0 : ∀ b ∈ wr, h₀.get? b = none) (hnw : ∀ p ∈ news, p.1 ∉ wr) (hnD : ∀ p ∈ news, p.1 ≠ D)
    (hst : St 0 s.heap) (F : Fr h₀ L s.heap m) (N : News h₀ L s.heap news) (hD : s.heap.PlainList D #[]) (hC : s.heap.Ns cenv.locals mC)
    (J : Nat → List Value → Prop) (h0 : J 0 [])
    (turn : ∀ i v ys h tk mC own k E', i < n → P i v → J i ys → ys.length ≤ i → h.Ns cenv.locals mC → Fr h₀ L h m → News h₀ L h ((D, listOf ys.toArray k) :: (news ++ own)) → (∀ p ∈ own, p.1 ∈ fp) →
      CTurn prog w A h₀ L m ((D, listOf ys.toArray k) :: (news ++ own)) target elt ifs cenv (J (i + 1)) ys v E' { s with heap := h, toks := tk })
    (hR : ∀ ys h tk k mC, J n ys → Fr h₀ L h m → News h₀ L h ((D, listOf ys.toArray k) :: news) → h.Ns cenv.locals mC → R (.ok .next) { s with heap := h, toks := tk })
    (hsz : n ≤ sizeLine) (ht : ∀ v, letOwnedTupleGo target (.ref I) v = pure ()) :
    codeAny (model prog w) A (.compLoop (.ListComp elt [⟨target, iter, ifs, 0⟩] scope pos) 0 (.ref I) (.ref D) cenv) R s := by
  refine codeAny_compLoop_tests
    (fun k s' => ∃ h' tk mC i, ∃ ys : List Value, s' = { s with heap := h', toks := tk } ∧ St i h' ∧ h'.PlainList D ys.toArray ∧ h'.Ns cenv.locals mC ∧ Fr h₀ L h' m ∧ News h₀ L h' news ∧ J i ys ∧ ys.length ≤ i ∧ i ≤ n ∧ k = n + 1 - i) ?_ (n + 1)
    ⟨s.heap, s.toks, mC, 0, [], rfl, hst, hD, hC, F, N, h0, Nat.le_refl _, Nat.zero_le _, rfl⟩ ht
  rintro k s' ⟨H, tk, mC', i, ys, rfl, hst', hacc', hn', F', N', hJ, hyl, hi, rfl⟩
  have hCw : cenv.locals ∉ wr := fun h => hCf (W.sub _ h)
  have hDw : D ∉ wr := fun h => hDf (W.sub _ h)
  have hLw : L ∉ wr := fun h => hLf (W.sub _ h)
  have old : ∀ b o, h₀.get? b = some o → b ∉ wr := fun b o e hb => by rw [hwr0 b hb] at e; cases e
  have next : ∀ h₁ : Heap, (∀ b o, b ∉ wr → H.get? b = some o → h₁.get? b = some o) → Fr h₀ L h₁ m ∧ News h₀ L h₁ news := fun h₁ hk₁ =>
    ⟨⟨F'.ns.at' fun o e => hk₁ _ o hLw e, fun b o e => hk₁ b o (old b o e) (F'.keep b o e), F'.above⟩, fun p hp => ⟨hk₁ _ _ (hnw p hp) (N' p hp).1, (N' p hp).2⟩⟩
  by_cases hlt : i < n
  · refine W.item i _ _ _ hlt hst' fun v h₁ tk₁ hPv hst₁ hk₁ => ?_
    obtain ⟨F₁, N₁⟩ := next h₁ hk₁
    obtain ⟨kk, hD₁⟩ := hacc'
    have hD₁' : h₁.get? D = some (listOf ys.toArray kk) := hk₁ D _ hDw hD₁
    have Nown : News h₀ L h₁ (ownOf h₀ fp h₁) := news_ownOf hLf
    have Nall : News h₀ L h₁ ((D, listOf ys.toArray kk) :: (news ++ ownOf h₀ fp h₁)) := fun p hp => by
      rcases List.mem_cons.mp hp with rfl | hp
      · exact ⟨hD₁', hDL, hD0⟩
      · exact N₁.append Nown p hp
    have tend : ∀ s₄, CEnd h₀ L m ((D, listOf ys.toArray kk) :: (news ++ ownOf h₀ fp h₁)) cenv.locals { s with heap := h₁, toks := tk₁ } s₄ →
        ∃ h₄ tk₄ m₄, s₄ = { s with heap := h₄, toks := tk₄ } ∧ St (i + 1) h₄ ∧ h₄.PlainList D ys.toArray ∧ h₄.Ns cenv.locals m₄ ∧ Fr h₀ L h₄ m ∧ News h₀ L h₄ ((D, listOf ys.toArray kk) :: (news ++ ownOf h₀ fp h₁)) := by
      rintro s₄ ⟨h₄, tk₄, m₄, rfl, F₄, N₄, C₄⟩
      refine ⟨h₄, tk₄, m₄, rfl, W.frame _ _ _ hst₁ (fun b hb o e => ?_), ⟨kk, (N₄ _ (List.mem_cons_self ..)).1⟩, C₄, F₄, N₄⟩
      cases hn : h₀.get? b with
      | some o₀ =>
        have : o₀ = o := by have := F₁.keep b o₀ hn; rw [e] at this; exact (Option.some.inj this).symm
        exact this ▸ F₄.keep b o₀ hn
      | none => exact (N₄ _ (List.mem_cons_of_mem _ (List.mem_append_right _ (mem_ownOf hb hn e)))).1
    refine wpAny_mono (turn i v ys h₁ tk₁ mC' (ownOf h₀ fp h₁) kk _ hlt hPv hJ hyl (hn'.at' fun o e => hk₁ _ o hCw e) F₁ Nall ownOf_sub) (fun _ s₂ h₂ => wpAny_mono h₂ (fun ok s₃ h₃ => ?_) fun _ _ e => e) fun _ _ e => e
    cases ok with
    | false =>
      simp only [Bool.false_eq_true, if_false] at h₃ ⊢
      obtain ⟨h₄, tk₄, m₄, rfl, a1, a2, a3, a4, a5⟩ := tend _ h₃.1
      exact ⟨n + 1 - (i + 1), by omega, h₄, tk₄, m₄, i + 1, ys, rfl, a1, a2, a3, a4, fun p hp => a5 p (List.mem_cons_of_mem _ (List.mem_append_left _ hp)), h₃.2, Nat.le_succ_of_le hyl, hlt, rfl⟩
    | true =>
      simp only [if_true] at h₃ ⊢
      refine wpAny_mono h₃ (fun y s₄ h₄ => ?_) fun _ _ e => e
      obtain ⟨h₄', tk₄, m₄, rfl, a1, a2, a3, a4, a5⟩ := tend _ h₄.1
      refine wpAny_list_append_plain (hsz := by rw [List.size_toArray]; omega) a2 fun h₅ hl₅ hs₅ => ?_
      refine ⟨n + 1 - (i + 1), by omega, h₅, tk₄, m₄, i + 1, ys ++ [y], rfl, W.frame _ _ h₅ a1 (fun b hb o e => hs₅.extBut b o (fun h => hDf (h ▸ hb)) e), by simpa using hl₅, a3.sameBut hs₅ (Ne.symm hDC), a4.change hs₅ hDL hD0, ?_, h₄.2, by simp; omega, hlt, rfl⟩
      intro p hp
      have z := a5 p (List.mem_cons_of_mem _ (List.mem_append_left _ hp))
      exact ⟨(hs₅.2 _ (hnD p hp)).trans z.1, z.2⟩
  · have hin : i = n := by omega
    subst hin
    refine W.done _ _ _ hst' fun h₁ tk₁ hk₁ => ?_
    obtain ⟨F₁, N₁⟩ := next h₁ hk₁
    obtain ⟨kk, hD₁⟩ := hacc'
    refine hR ys h₁ tk₁ kk mC' hJ F₁ ?_ (hn'.at' fun o e => hk₁ _ o hCw e)
    intro p hp
    rcases List.mem_cons.mp hp with rfl | hp
    · exact ⟨hk₁ D _ hDw hD₁, hDL, hD0⟩
    · exact N₁ p hp
end
section
variable {prog : Program} {w : World} {A : Around} {E : Value → Shared → Prop} {h₀ : Heap} {L : Addr} {m : Str → Option Value} {news : List (Addr × Obj)} {env : Env}
/-- a comprehension's source is at hand -/
def CompAt (prog : Program) (w : World) (A : Around) (h₀ : Heap) (L : Addr) (env : Env) (scope : Scope) (cl : List (Str × Addr)) (target elt : PySem.Expr) (ifs : List PySem.Expr) (m : Str → Option Value) (news : List (Addr × Obj)) (upd : Addr → Str → Option Value) (Q : Value → Shared → Prop) (it : Value) (s₂ : Shared) : Prop :=
  ∃ (I : Addr) (fp wr : List Addr) (n : Nat) (P : Nat → Value → Prop) (St : Nat → Heap → Prop) (J : Nat → List Value → Prop), it = .ref I ∧ Walks prog w A I fp wr n P St ∧ n ≤ sizeLine ∧ St 0 s₂.heap ∧ (∀ b ∈ fp, b < s₂.heap.objs.size) ∧ L ∉ fp ∧ (∀ b ∈ wr, h₀.get? b = none) ∧ (∀ p ∈ news, p.1 ∉ wr) ∧
    Fr h₀ L s₂.heap m ∧ News h₀ L s₂.heap news ∧ J 0 [] ∧ (∀ v, letOwnedTupleGo target (.ref I) v = pure ()) ∧
    (∀ C D i v ys h tk mC own k E', i < n → P i v → J i ys → ys.length ≤ i → C ≠ L → h₀.get? C = none → (∀ p ∈ news, p.1 ≠ C) → (∀ p ∈ own, p.1 ≠ C) → D ≠ C → h.Ns C mC → Fr h₀ L h m → News h₀ L h ((D, listOf ys.toArray k) :: (news ++ own)) →
      CTurn prog w A h₀ L m ((D, listOf ys.toArray k) :: (news ++ own)) target elt ifs (compEnvC scope cl C env) (J (i + 1)) ys v E' { s₂ with heap := h, toks := tk }) ∧
    (∀ ys D h tk k, J n ys → (∀ p ∈ news, p.1 < D) → Fr h₀ L h (upd D) → News h₀ L h ((D, listOf ys.toArray k) :: news) → Q (.ref D) { s₂ with heap := h, toks := tk })
theorem cm_block {elt iter target : PySem.Expr} {ifs : List PySem.Expr} {scope : Scope} {cl : List (Str × Addr)} {pos : Pos} {s₂ : Shared} {it : Value} {upd : Addr → Str → Option Value} {Q : Value → Shared → Prop} {RR : Value → Addr → Result → Shared → Prop}
    (hcell : ∀ y ∈ scope.names, y.2 ≠ .cell) (hkind : scope.kind = .function)
    (hat : CompAt prog w A h₀ L env scope cl target elt ifs m news upd Q it s₂)
    (hRR : ∀ D C h' tk m' led, (∀ h'' tk, Fr h₀ L h'' (upd D) → News h₀ L h'' led → Q (.ref D) { s₂ with heap := h'', toks := tk }) → Fr h₀ L h' m → News h₀ L h' led → (∀ p ∈ led, p.1 ≠ C) → h₀.get? C = none → h'.Ns C m' → L ≠ C → RR (.ref D) C (.ok .next) { s₂ with heap := h', toks := tk }) :
    wpAny (model prog w) A (newList []) (fun acc s₃ => wpAny (model prog w) A (newFunctionEnv scope env.globals cl [] env.qual none .none (some env)) (fun cenv s₄ =>
      codeAny (model prog w) A (.compStart (.ListComp elt [⟨target, iter, ifs, 0⟩] scope pos) 0 it acc { cenv with scope := relabel scope env }) (RR acc cenv.locals) s₄) E s₃) E s₂ := by
  obtain ⟨I, fp, wr, n, P, St, J, rfl, W, hsz, hst, hfp, hLf, hwr, hnw, F, N, h0, ht, turn, fin⟩ := hat
  refine wpAny_newObj_type (wpAny_newFunctionEnv hcell (by intro y hy; simp at hy) (fun h₁ hns₁ hsb₁ => ?_) hkind)
  dsimp only at hns₁ hsb₁ ⊢
  generalize hH2 : s₂.heap.push { cls := .type "list", dict := none, data := .seq ([] : List Value).toArray } = H2 at hns₁ hsb₁ ⊢
  have hC : H2.objs.size = s₂.heap.objs.size + 1 := by rw [← hH2, Heap.size_push]
  have hDC : s₂.heap.objs.size ≠ H2.objs.size := by rw [hC]; exact Nat.ne_of_lt (Nat.lt_succ_self _)
  have below : ∀ b, b < s₂.heap.objs.size → b ≠ H2.objs.size ∧ b ≠ s₂.heap.objs.size := fun b hb => ⟨by rw [hC]; exact Nat.ne_of_lt (Nat.lt_succ_of_lt hb), Nat.ne_of_lt hb⟩
  have hDf : s₂.heap.objs.size ∉ fp := fun hm => Nat.lt_irrefl _ (hfp _ hm)
  have hCf : H2.objs.size ∉ fp := fun hm => by have := hfp _ hm; rw [hC] at this; exact Nat.lt_irrefl _ (Nat.lt_of_succ_lt this)
  have old : ∀ b o, s₂.heap.get? b = some o → h₁.get? b = some o := fun b o e => hsb₁.extBut b o (below b (Heap.lt_size e)).1 (Heap.get?_push_of_some _ (hH2 ▸ Heap.get?_push_of_some _ e))
  have hacc : h₁.PlainList s₂.heap.objs.size #[] := ⟨_, hsb₁.extBut _ _ hDC (Heap.get?_push_of_some _ (hH2 ▸ Heap.get?_push_size _ rfl))⟩
  have hst₁ : St 0 h₁ := W.frame _ _ _ hst fun b _ o e => old b o e
  have hL2 : L < s₂.heap.objs.size := F.ns.lt
  have hnew : ∀ a, s₂.heap.objs.size ≤ a → h₀.get? a = none := fun a ha => by
    cases e : h₀.get? a with
    | none => rfl
    | some o' => exact absurd (Heap.lt_size (F.keep _ _ e)) (Nat.not_lt.mpr ha)
  have hns : ∀ p ∈ news, p.1 < s₂.heap.objs.size := fun p hp => Heap.lt_size (N p hp).1
  have hCge : s₂.heap.objs.size ≤ H2.objs.size := by rw [hC]; exact Nat.le_succ _
  have loop : ∀ s₃ : Shared, s₃ = { s₂ with heap := h₁, toks := s₂.toks + ([] : List (Str × Value)).length } →
      codeAny (model prog w) A (.compLoop (.ListComp elt [⟨target, iter, ifs, 0⟩] scope pos) 0 (.ref I) (.ref s₂.heap.objs.size) (compEnvC scope cl H2.objs.size env))
        (RR (.ref s₂.heap.objs.size) H2.objs.size) s₃ := by
    rintro s₃ rfl
    refine cm_loop (cenv := compEnvC scope cl H2.objs.size env) W hLf hCf hDf (below L hL2).1.symm (below L hL2).2.symm hDC (hnew _ (Nat.le_refl _)) hwr hnw (fun p hp => (below _ (hns p hp)).2) hst₁ (F.keeps old) (News.keepsAll N old) hacc hns₁ J h0 ?_ ?_ hsz ht
    · intro i v ys h tk mC own k E' hi hP hJ hyl hC' F' N' hown
      refine turn H2.objs.size s₂.heap.objs.size i v ys h tk mC own k E' hi hP hJ hyl (below L hL2).1.symm (hnew _ hCge) (fun p hp => (below _ (hns p hp)).1) (fun p hp e => ?_) hDC hC' F' N'
      exact hCf (e ▸ hown p hp)
    · intro ys h tk k mC hJ F' N' hC'
      refine hRR _ _ h tk mC _ (fun h'' tk' F'' N'' => fin ys _ h'' tk' k hJ hns F'' N'') F' N' ?_ (hnew _ hCge) hC' (below L hL2).1
      intro p hp
      rcases List.mem_cons.mp hp with rfl | hp
      · exact hDC
      · exact (below _ (hns p hp)).1
  exact codeAny_compStart_list (loop _ rfl) (W.self 0 _ _ _ hst₁ (loop _ rfl))
theorem fr_but {h h' : Heap} (F : Fr h₀ L h m) {C : Addr} (hC : h₀.get? C = none) (hL : L ≠ C) (hs : Heap.SameBut C h h') : Fr h₀ L h' m :=
  ⟨F.ns.sameBut hs hL, fun b o e => (hs.2 b (fun q => by rw [q, hC] at e; cases e)).trans (F.keep b o e), F.above⟩
theorem news_but {h h' : Heap} (N : News h₀ L h news) {C : Addr} (hC : ∀ p ∈ news, p.1 ≠ C) (hs : Heap.SameBut C h h') : News h₀ L h' news :=
  fun p hp => ⟨(hs.2 _ (hC p hp)).trans (N p hp).1, (N p hp).2⟩
/-- a comprehension as a value -/
theorem cm_eval {s : Shared} {elt iter target : PySem.Expr} {ifs : List PySem.Expr} {scope : Scope} {cl : List (Str × Addr)} {pos : Pos} {Q : Value → Shared → Prop}
    (hclos : closureFor scope env = pure cl) (hcell : ∀ y ∈ scope.names, y.2 ≠ .cell) (hkind : scope.kind = .function)
    (hnames : ∀ y ∈ scope.names, y.2 = .local → scope.names.lookup y.1 = some .local)
    (h : wpAny (model prog w) A (eval iter env) (fun xv s₁ => wpAny (model prog w) A (pyIter xv) (fun it s₂ => ∃ h₀ L m news, CompAt prog w A h₀ L env scope cl target elt ifs m news (fun _ => m) Q it s₂) E s₁) E s)
    (hs : ∀ x, foldedSetIterable iter env x = pure x := by intro _; rfl) :
    wpAny (model prog w) A (eval (.ListComp elt [⟨target, iter, ifs, 0⟩] scope pos) env) Q E s := by
  rw [eval_ListComp]
  refine wpAny_comprehension_free (use := none) rfl hs hclos hkind hnames (wpAny_mono h (fun xv s₁ h₁ => wpAny_mono h₁ (fun it s₂ h₂ => ?_) fun _ _ e => e) fun _ _ e => e)
  obtain ⟨h₀, L, m, news, h₂⟩ := h₂
  refine cm_block (RR := fun acc C => compPost (model prog w) A E none Q acc C) hcell hkind h₂ ?_
  intro D C h' tk m' led hQ F N hC hC0 hn hLC
  exact ⟨m', hn, fun h'' hs'' => hQ h'' _ (fr_but F hC0 hLC hs'') (news_but N hC hs'')⟩
/-- a comprehension stored under a local name -/
theorem cm_assign {s : Shared} {elt iter target : PySem.Expr} {ifs : List PySem.Expr} {y : Str} {py : Pos} {scope : Scope} {cl : List (Str × Addr)} {pos spos : Pos} {Q : Flow → Shared → Prop}
    (hsw : swapsWith (.ListComp elt [⟨target, iter, ifs, 0⟩] scope pos) (some (.Name y py)) spos.line env = pure true)
    (hclos : closureFor scope env = pure cl) (hcell : ∀ z ∈ scope.names, z.2 ≠ .cell) (hkind : scope.kind = .function)
    (hnames : ∀ z ∈ scope.names, z.2 = .local → scope.names.lookup z.1 = some .local)
    (hy : env.kindOf y = some .local) (hp : (env.scope.kind == .class || (env.scope.kind == .module && env.locals != env.globals)) = false)
    (h : wpAny (model prog w) A (eval iter env) (fun xv s₁ => wpAny (model prog w) A (pyIter xv) (fun it s₂ => ∃ h₀ m news, CompAt prog w A h₀ env.locals env scope cl target elt ifs m news
        (fun D z => if z = y then some (.ref D) else m z) (fun _ s' => Q .next s') it s₂) E s₁) E s)
    (hs : ∀ x, foldedSetIterable iter env x = pure x := by intro _; rfl) :
    wpAny (model prog w) A (exec (.Assign [.Name y py] (.ListComp elt [⟨target, iter, ifs, 0⟩] scope pos) spos) env) Q E s := by
  rw [exec_Assign_Name_used _ _ _ _ hsw]
  refine wpAny_bind (wpAny_standAt (wpAny_bind ?_))
  show wpAny _ A (do let _ ← comprehension (.ListComp elt [⟨target, iter, ifs, 0⟩] scope pos) scope env _ (newList []) false (eval iter env) (some (assign (.Name y py) env))) _ _ s
  refine wpAny_bind (wpAny_mono (wpAny_comprehension_free (use := some (assign (.Name y py) env)) (Q := fun _ s' => Q .next s') rfl hs hclos hkind hnames
    (wpAny_mono h (fun xv s₁ h₁ => wpAny_mono h₁ (fun it s₂ h₂ => ?_) fun _ _ e => e) fun _ _ e => e)) (fun _ s' hq => wpAny_pure (wpAny_pure hq)) fun _ _ e => e)
  obtain ⟨h₀, m, news, h₂⟩ := h₂
  refine cm_block (RR := fun acc C => compPost (model prog w) A E (some (assign (.Name y py) env)) (fun _ s' => Q .next s') acc C) hcell hkind h₂ ?_
  intro D C h' tk m' led hQ F N hC hC0 hn hLC
  refine wpAny_assign_Name (wpAny_storeName_local hy F.ns (fun h₂ hn₂ hs₂ => ?_) hp)
  refine ⟨m', hn.sameBut hs₂ (Ne.symm hLC), fun h₃ hs₃ => ?_⟩
  exact hQ h₃ _ (fr_but (F.set hn₂ hs₂) hC0 hLC hs₃) (news_but (N.set hs₂) hC hs₃)
end
end Mine
open PySem PySem.W PyProof.Rows
set_option Elab.async false
namespace Mine
/-- an object that holds names -/
def NsObj (o : Obj) (m : Str → Option Value) : Prop := ∃ es ep, o.data = .dict es ep ∧ StrKeys es ∧ ∀ name, nsFind es name = m name
theorem NsObj.ns {o : Obj} {m : Str → Option Value} {h : Heap} {a : Addr} (x : NsObj o m) (e : h.get? a = some o) : h.Ns a m := let ⟨es, ep, r⟩ := x; ⟨o, es, ep, e, r⟩
/-- the frame and the ledger stand -/
def CGo (h₀ : Heap) (L : Addr) (m : Str → Option Value) (led : List (Addr × Obj)) (s s' : Shared) : Prop := ∃ h' tk', s' = { s with heap := h', toks := tk' } ∧ Fr h₀ L h' m ∧ News h₀ L h' led
section
variable {prog : Program} {w : World} {A : Around} {E : Value → Shared → Prop} {s : Shared} {h₀ : Heap} {L C D : Addr} {m mC : Str → Option Value} {news led : List (Addr × Obj)} {env : Env} {scope : Scope} {cl : List (Str × Addr)} {elt : PySem.Expr} {x : Str} {px : Pos} {v : Value} {ys : List Value} {J₁ : List Value → Prop} {E' : Value → Shared → Prop}
theorem cgo_end {s₀ s₄ : Shared} {oC : Obj} {h : Heap} {tk : Nat} (ho : NsObj oC mC) (e : s₀ = { s with heap := h, toks := tk }) (g : CGo h₀ L m ((C, oC) :: led) s s₄) : CEnd h₀ L m led C s₀ s₄ := by
  obtain ⟨h', tk', rfl, F, N⟩ := g
  subst e
  exact ⟨h', tk', mC, rfl, F, fun p hp => N p (List.mem_cons_of_mem _ hp), ho.ns (N _ (List.mem_cons_self ..)).1⟩
theorem cturn0 {h : Heap} {tk : Nat} {s₀ : Shared} (e : s₀ = { s with heap := h, toks := tk }) (hx : (compEnvC scope cl C env).kindOf x = some .local) (hkind : scope.kind = .function)
    (hCL : C ≠ L) (hC0 : h₀.get? C = none) (hCl : ∀ p ∈ led, p.1 ≠ C) (hC : h.Ns C mC) (F : Fr h₀ L h m) (N : News h₀ L h led)
    (go : ∀ oC h' tk', NsObj oC (fun z => if z = x then some v else mC z) → Fr h₀ L h' m → News h₀ L h' ((C, oC) :: led) →
      wpAny (model prog w) A (eval elt (compEnvC scope cl C env)) (fun y s₄ => CGo h₀ L m ((C, oC) :: led) s s₄ ∧ J₁ (ys ++ [y])) E' { s with heap := h', toks := tk' }) :
    CTurn prog w A h₀ L m led (.Name x px) elt [] (compEnvC scope cl C env) J₁ ys v E' s₀ := by
  subst e
  unfold CTurn
  refine wpAny_assign_Name (wpAny_storeName_local hx hC (fun h₂ hn₂ hs₂ => ?_) (by simp [compEnvC, relabel, hkind]))
  simp only [List.forIn_nil]
  refine wpAny_pure ?_
  simp only [if_true]
  obtain ⟨oC, es, ep, ho, hr⟩ := hn₂
  have hoC : NsObj oC (fun z => if z = x then some v else mC z) := ⟨es, ep, hr⟩
  have F₂ := fr_but F hC0 hCL.symm hs₂
  have N₂ : News h₀ L h₂ ((C, oC) :: led) := fun p hp => by
    rcases List.mem_cons.mp hp with rfl | hp
    · exact ⟨ho, hCL, hC0⟩
    · exact news_but N hCl hs₂ p hp
  exact wpAny_mono (go oC h₂ _ hoC F₂ N₂) (fun y s₄ g => ⟨cgo_end hoC rfl g.1, g.2⟩) fun _ _ e => e
theorem cturn1 {h : Heap} {tk : Nat} {s₀ : Shared} {c : PySem.Expr} (e : s₀ = { s with heap := h, toks := tk }) (hx : (compEnvC scope cl C env).kindOf x = some .local) (hkind : scope.kind = .function)
    (hCL : C ≠ L) (hC0 : h₀.get? C = none) (hCl : ∀ p ∈ led, p.1 ≠ C) (hC : h.Ns C mC) (F : Fr h₀ L h m) (N : News h₀ L h led)
    (go : ∀ oC h' tk', NsObj oC (fun z => if z = x then some v else mC z) → Fr h₀ L h' m → News h₀ L h' ((C, oC) :: led) →
      wpAny (model prog w) A (isTrue c (compEnvC scope cl C env) (eval c (compEnvC scope cl C env))) (fun b s₃ => if b = true then wpAny (model prog w) A (eval elt (compEnvC scope cl C env)) (fun y s₄ => CGo h₀ L m ((C, oC) :: led) s s₄ ∧ J₁ (ys ++ [y])) E' s₃ else CGo h₀ L m ((C, oC) :: led) s s₃ ∧ J₁ ys) E' { s with heap := h', toks := tk' }) :
    CTurn prog w A h₀ L m led (.Name x px) elt [c] (compEnvC scope cl C env) J₁ ys v E' s₀ := by
  subst e
  unfold CTurn
  refine wpAny_assign_Name (wpAny_storeName_local hx hC (fun h₂ hn₂ hs₂ => ?_) (by simp [compEnvC, relabel, hkind]))
  refine wpAny_tests_one ?_
  obtain ⟨oC, es, ep, ho, hr⟩ := hn₂
  have hoC : NsObj oC (fun z => if z = x then some v else mC z) := ⟨es, ep, hr⟩
  have F₂ := fr_but F hC0 hCL.symm hs₂
  have N₂ : News h₀ L h₂ ((C, oC) :: led) := fun p hp => by
    rcases List.mem_cons.mp hp with rfl | hp
    · exact ⟨ho, hCL, hC0⟩
    · exact news_but N hCl hs₂ p hp
  refine wpAny_mono (go oC h₂ _ hoC F₂ N₂) (fun b s₃ g => ?_) fun _ _ e => e
  cases b with
  | true =>
    simp only [if_true] at g ⊢
    exact wpAny_mono g (fun y s₄ g => ⟨cgo_end hoC rfl g.1, g.2⟩) fun _ _ e => e
  | false =>
    simp only [Bool.false_eq_true, if_false] at g ⊢
    exact ⟨cgo_end hoC rfl g.1, g.2⟩
end
/-- what a turn with one name and no test must show -/
def Turn0 (prog : Program) (w : World) (A : Around) (h₀ : Heap) (L : Addr) (env : Env) (scope : Scope) (cl : List (Str × Addr)) (x : Str) (elt : PySem.Expr) (m : Str → Option Value) (news : List (Addr × Obj)) (n : Nat) (P : Nat → Value → Prop) (J : Nat → List Value → Prop) (s : Shared) : Prop :=
  ∀ i v ys C oC D h tk own k E' mC, i < n → P i v → J i ys → ys.length ≤ i → mC x = some v → NsObj oC mC → Fr h₀ L h m → News h₀ L h ((C, oC) :: (D, listOf ys.toArray k) :: (news ++ own)) →
    wpAny (model prog w) A (eval elt (compEnvC scope cl C env)) (fun y s₄ => CGo h₀ L m ((C, oC) :: (D, listOf ys.toArray k) :: (news ++ own)) s s₄ ∧ J (i + 1) (ys ++ [y])) E' { s with heap := h, toks := tk }
def Turn1 (prog : Program) (w : World) (A : Around) (h₀ : Heap) (L : Addr) (env : Env) (scope : Scope) (cl : List (Str × Addr)) (x : Str) (c elt : PySem.Expr) (m : Str → Option Value) (news : List (Addr × Obj)) (n : Nat) (P : Nat → Value → Prop) (J : Nat → List Value → Prop) (s : Shared) : Prop :=
  ∀ i v ys C oC D h tk own k E' mC, i < n → P i v → J i ys → ys.length ≤ i → mC x = some v → NsObj oC mC → Fr h₀ L h m → News h₀ L h ((C, oC) :: (D, listOf ys.toArray k) :: (news ++ own)) →
    wpAny (model prog w) A (isTrue c (compEnvC scope cl C env) (eval c (compEnvC scope cl C env))) (fun b s₃ => if b = true then wpAny (model prog w) A (eval elt (compEnvC scope cl C env)) (fun y s₄ => CGo h₀ L m ((C, oC) :: (D, listOf ys.toArray k) :: (news ++ own)) s s₄ ∧ J (i + 1) (ys ++ [y])) E' s₃
      else CGo h₀ L m ((C, oC) :: (D, listOf ys.toArray k) :: (news ++ own)) s s₃ ∧ J (i + 1) ys) E' { s with heap := h, toks := tk }
/-- the tests and the turn that they ask -/
def TurnOf (prog : Program) (w : World) (A : Around) (h₀ : Heap) (L : Addr) (env : Env) (scope : Scope) (cl : List (Str × Addr)) (x : Str) (elt : PySem.Expr) (m : Str → Option Value) (news : List (Addr × Obj)) (n : Nat) (P : Nat → Value → Prop) (J : Nat → List Value → Prop) (s : Shared) : List PySem.Expr → Prop
  | [] => Turn0 prog w A h₀ L env scope cl x elt m news n P J s
  | [c] => Turn1 prog w A h₀ L env scope cl x c elt m news n P J s
  | _ => False
section
variable {prog : Program} {w : World} {A : Around} {E : Value → Shared → Prop} {s : Shared} {h₀ : Heap} {L : Addr} {m : Str → Option Value} {news : List (Addr × Obj)} {env : Env} {scope : Scope} {cl : List (Str × Addr)} {elt : PySem.Expr} {ifs : List PySem.Expr} {x : Str} {px : Pos} {upd : Addr → Str → Option Value} {Q : Value → Shared → Prop}
theorem ca_gen {I : Addr} {fp : List Addr} {n : Nat} {P : Nat → Value → Prop} {St : Nat → Heap → Prop} {o : Obj} (J : Nat → List Value → Prop) (hI : I = s.heap.objs.size) (W : Walks prog w A I fp [I] n P St) (hsz : n ≤ sizeLine) (hst : St 0 (s.heap.push o)) (hfp : ∀ b ∈ fp, b ≤ s.heap.objs.size) (hLf : L ∉ fp)
    (F : Fr h₀ L s.heap m) (N : News h₀ L s.heap news) (h0 : J 0 []) (hx : scope.names.lookup x = some .local) (hkind : scope.kind = .function)
    (turn : TurnOf prog w A h₀ L env scope cl x elt m news n P J s ifs)
    (fin : ∀ ys D h tk k, J n ys → (∀ p ∈ news, p.1 < D) → Fr h₀ L h (upd D) → News h₀ L h ((D, listOf ys.toArray k) :: news) → Q (.ref D) { s with heap := h, toks := tk }) :
    CompAt prog w A h₀ L env scope cl (.Name x px) elt ifs m news upd Q (.ref I) { s with heap := s.heap.push o } := by
  refine ⟨I, fp, [I], n, P, St, J, rfl, W, hsz, hst, fun b hb => by show b < (s.heap.push o).objs.size; rw [Heap.size_push]; exact Nat.lt_succ_of_le (hfp b hb), hLf, ?_, ?_, F.push _, (fun p hp => ⟨Heap.get?_push_of_some _ (N p hp).1, (N p hp).2⟩), h0, (by intro _; rfl), ?_, ?_⟩
  · intro b hb; rw [List.mem_singleton.mp hb, hI]; exact next_is_new F
  · intro p hp hm
    have e : p.1 = s.heap.objs.size := (List.mem_singleton.mp hm).trans hI
    exact absurd (Heap.lt_size (N p hp).1) (by rw [e]; exact Nat.lt_irrefl _)
  · intro C D i v ys h tk mC own k E' hi hP hJ hyl hCL hC0 hnC hoC hDC hC F' N'
    have hl : ∀ p ∈ (D, listOf ys.toArray k) :: (news ++ own), p.1 ≠ C := fun p hp => by
      rcases List.mem_cons.mp hp with rfl | hp
      · exact hDC
      · rcases List.mem_append.mp hp with hp | hp
        · exact hnC p hp
        · exact hoC p hp
    match ifs, turn with
    | [], turn => exact cturn0 (s := s) rfl (lookup_relabel_local hx) hkind hCL hC0 hl hC F' N' fun oC h' tk' ho F'' N'' => turn i v ys C oC D h' tk' own k E' _ hi hP hJ hyl (by simp) ho F'' N''
    | [c], turn => exact cturn1 (s := s) rfl (lookup_relabel_local hx) hkind hCL hC0 hl hC F' N' fun oC h' tk' ho F'' N'' => turn i v ys C oC D h' tk' own k E' _ hi hP hJ hyl (by simp) ho F'' N''
    | _ :: _ :: _, turn => exact turn.elim
  · intro ys D h tk k hJ hlt F' N'
    exact fin ys D h tk k hJ hlt F' N'
theorem ca_range {r : Addr} {a₀ b₀ st₀ : Int} {t₀ u₀ v₀ : Tok} {n : Nat} {Post : Value → Shared → Prop} (J : Nat → List Value → Prop) (hh : A.handled = none) (hr : IsRange s.heap r a₀ b₀ st₀ t₀ u₀ v₀) (hsmall : Builtin.Range.small a₀ b₀ st₀ = true) (hn : Builtin.Range.rangeSize a₀ b₀ st₀ = (n : Int)) (hsz : n ≤ 1000000)
    (F : Fr h₀ L s.heap m) (N : News h₀ L s.heap news) (h0 : J 0 []) (hx : scope.names.lookup x = some .local) (hkind : scope.kind = .function)
    (turn : TurnOf prog w A h₀ L env scope cl x elt m news n (fun i v => ∃ t, v = .int (a₀ + i * st₀) t) J s ifs)
    (fin : ∀ ys D h tk k, J n ys → (∀ p ∈ news, p.1 < D) → Fr h₀ L h (upd D) → News h₀ L h ((D, listOf ys.toArray k) :: news) → Q (.ref D) { s with heap := h, toks := tk })
    (post : ∀ it s₂, CompAt prog w A h₀ L env scope cl (.Name x px) elt ifs m news upd Q it s₂ → Post it s₂) :
    wpAny (model prog w) A (pyIter (.ref r)) Post E s := by
  refine wpAny_pyIter_range hr hsmall (post _ _ ?_)
  refine ca_gen J rfl (Walks.range hh _ a₀ st₀ n) (by simp [sizeLine]; omega) (by show IsRangeIter _ _ _ _ _; rw [hn]; simpa using Heap.get?_push_size _ rfl) (fun b hb => by rw [List.mem_singleton.mp hb]; exact Nat.le_refl _) ?_ F N h0 hx hkind turn fin
  intro hm; exact absurd F.ns.lt ((List.mem_singleton.mp hm) ▸ Nat.lt_irrefl _)
theorem ca_list {l : Addr} {vs : List Value} {Post : Value → Shared → Prop} (J : Nat → List Value → Prop) (hh : A.handled = none) (hl : s.heap.IsList l vs.toArray) (hlL : l ≠ L) (hsz : vs.length ≤ 1000000)
    (F : Fr h₀ L s.heap m) (N : News h₀ L s.heap news) (h0 : J 0 []) (hx : scope.names.lookup x = some .local) (hkind : scope.kind = .function)
    (turn : TurnOf prog w A h₀ L env scope cl x elt m news vs.length (fun i v => vs[i]? = some v) J s ifs)
    (fin : ∀ ys D h tk k, J vs.length ys → (∀ p ∈ news, p.1 < D) → Fr h₀ L h (upd D) → News h₀ L h ((D, listOf ys.toArray k) :: news) → Q (.ref D) { s with heap := h, toks := tk })
    (post : ∀ it s₂, CompAt prog w A h₀ L env scope cl (.Name x px) elt ifs m news upd Q it s₂ → Post it s₂) :
    wpAny (model prog w) A (pyIter (.ref l)) Post E s := by
  have hlt : l < s.heap.objs.size := by obtain ⟨o, ho, _⟩ := hl; exact Heap.lt_size ho
  refine wpAny_pyIter_list hl (post _ _ ?_)
  have W := Walks.list (prog := prog) (w := w) hh s.heap.objs.size l (Nat.ne_of_lt hlt) vs.toArray
  rw [List.size_toArray] at W
  have e : (fun (i : Nat) (v : Value) => vs.toArray[i]? = some v) = fun (i : Nat) (v : Value) => vs[i]? = some v := by funext i v; simp
  rw [e] at W
  refine ca_gen J rfl W (by simp [sizeLine]; omega) ⟨⟨_, Heap.get?_push_size _ rfl, rfl, rfl⟩, hl.push _⟩ (fun b hb => ?_) ?_ F N h0 hx hkind turn fin
  · rcases List.mem_cons.mp hb with rfl | hb
    · exact Nat.le_refl _
    · rw [List.mem_singleton.mp hb]; exact Nat.le_of_lt hlt
  · intro hm
    rcases List.mem_cons.mp hm with e | hm
    · exact absurd F.ns.lt (e ▸ Nat.lt_irrefl _)
    · exact hlL (List.mem_singleton.mp hm).symm
theorem ca_str {l : List Nat} {t : Tok} {Post : Value → Shared → Prop} (J : Nat → List Value → Prop) (hh : A.handled = none) (hsz : l.length ≤ 1000000)
    (F : Fr h₀ L s.heap m) (N : News h₀ L s.heap news) (h0 : J 0 []) (hx : scope.names.lookup x = some .local) (hkind : scope.kind = .function)
    (turn : TurnOf prog w A h₀ L env scope cl x elt m news l.length (fun i v => ∃ c u, l[i]? = some c ∧ v = .str (S [c]) u) J s ifs)
    (fin : ∀ ys D h tk k, J l.length ys → (∀ p ∈ news, p.1 < D) → Fr h₀ L h (upd D) → News h₀ L h ((D, listOf ys.toArray k) :: news) → Q (.ref D) { s with heap := h, toks := tk })
    (post : ∀ it s₂, CompAt prog w A h₀ L env scope cl (.Name x px) elt ifs m news upd Q it s₂ → Post it s₂) :
    wpAny (model prog w) A (pyIter (.str (S l) t)) Post E s := by
  refine wpAny_pyIter_str fun o St W hst => post _ _ ?_
  have W := W A hh
  have e1 : (S l).cps.size = l.length := by simp
  have e : SignAt (S l) = fun (i : Nat) (v : Value) => ∃ c u, l[i]? = some c ∧ v = .str (S [c]) u := by
    funext i v; unfold SignAt; simp
  rw [e1, e] at W
  refine ca_gen J rfl W (by simp [sizeLine]; omega) hst (fun b hb => by rw [List.mem_singleton.mp hb]; exact Nat.le_refl _) ?_ F N h0 hx hkind turn fin
  intro hm; exact absurd F.ns.lt ((List.mem_singleton.mp hm) ▸ Nat.lt_irrefl _)
end
section
variable {prog : Program} {w : World} {A : Around} {M : Model} {E : Value → Shared → Prop} {s : Shared} {h₀ : Heap} {L C : Addr} {m mC : Str → Option Value} {led : List (Addr × Obj)} {env : Env} {scope : Scope} {cl : List (Str × Addr)} {x : Str} {pos : Pos} {v : Value} {Q : Value → Shared → Prop} {oC : Obj} {K : Frag} {p : Program} {loose : List Str} {mg mb : Str → Option Value}
theorem cn_L (N : News h₀ L s.heap led) (hm : (C, oC) ∈ led) (ho : NsObj oC mC) (hv : mC x = some v) (h : Q v s) (hk : (compEnvC scope cl C env).scope.kind = .function) (hl : (compEnvC scope cl C env).kindOf x = some .local) (hd : (x == ("__debug__" : Str)) = false) :
    wpAny M A (eval (.Name x pos) (compEnvC scope cl C env)) Q E s := wpAny_Name (wpAny_loadName_local hk hl (ho.ns (N _ hm).1) hv h) hd
theorem cn_C {c : Addr} {o : Obj} (N : News h₀ L s.heap led) (hc : cl.lookup x = some c) (hm : (c, o) ∈ led) (hd : o.data = .cell (some v)) (h : Q v s) (hk : (compEnvC scope cl C env).scope.kind = .function) (hl : (compEnvC scope cl C env).kindOf x = some .cell) (hb : (x == ("__debug__" : Str)) = false) :
    wpAny M A (eval (.Name x pos) (compEnvC scope cl C env)) Q E s := wpAny_Name (wpAny_loadName_cell hk hl hc ⟨o, N.get hm, hd⟩ h) hb
theorem cn_K (hg : env.globals = mainGlobals) (F : Fr h₀ L s.heap m) (X : K.In h₀) (T : TopRead p loose mg mb h₀) (e : nsIn K mainGlobals x = some (some v)) (h : Q v s)
    (hk : (compEnvC scope cl C env).scope.kind = .function) (hx : (compEnvC scope cl C env).kindOf x = some .globalImplicit) (hd : (x == ("__debug__" : Str)) = false) :
    wpAny M A (eval (.Name x pos) (compEnvC scope cl C env)) Q E s := PySem.Calls.Name_function_global hk hx (PySem.Calls.loadGlobal_global (env := compEnvC scope cl C env) (by show s.heap.Ns env.globals mg; rw [hg]; exact T.g.keeps F.keep) (mg_of X T.g e) h) hd
theorem cn_B (hg : env.globals = mainGlobals) (hb : env.builtins = builtinsNs) (F : Fr h₀ L s.heap m) (X : K.In h₀) (T : TopRead p loose mg mb h₀) (e : nsIn K mainGlobals x = some none) (hv : bootBuiltins x = some v) (hn : x ≠ "__name__") (h : Q v s)
    (hk : (compEnvC scope cl C env).scope.kind = .function) (hx : (compEnvC scope cl C env).kindOf x = some .globalImplicit) (hd : (x == ("__debug__" : Str)) = false) :
    wpAny M A (eval (.Name x pos) (compEnvC scope cl C env)) Q E s :=
  PySem.Calls.Name_function_global hk hx (PySem.Calls.loadGlobal_builtin (env := compEnvC scope cl C env) (by show s.heap.Ns env.globals mg; rw [hg]; exact T.g.keeps F.keep) (mg_none_of X T.g e) (by show s.heap.Ns env.builtins mb; rw [hb]; exact T.b.keeps F.keep) ((T.builtins x hn).trans hv) h) hd
end
end Mine
open PySem PySem.W PyProof.Rows
set_option Elab.async false
namespace Mine
/-- sep.join(a list of texts) -/
theorem join_listS {prog : Program} {w : World} {A : Around} {E : Value → Shared → Prop} {s : Shared} {sep : List Nat} {t : Tok} {Q : Value → Shared → Prop} {D : Addr} {q : List (List Nat × Tok)} {B : Nat} (hl : s.heap.IsList D (sv q).toArray) (hs : sep.length ≤ 1000) (hB : ∀ x ∈ q, x.1.length ≤ B) (hB2 : B ≤ 1000) (hn : q.length ≤ 1000)
    (hq : ∀ t' k, Q (.str (S (jn sep (q.map (·.1)))) t') { s with toks := k }) :
    wpAny (model prog w) A (call (.builtin "str.join") [.str (S sep) t, .ref D]) Q E s := by
  have e0 : sv q = strValues (q.map fun p => (S p.1, p.2)) := by
    simp [sv, strValues, List.map_map, Function.comp_def]
  rw [e0] at hl
  refine SC.join hl (texts := (q.map (·.1)).map S) (by simp [List.map_map, Function.comp_def]) ?_ ?_
  · unfold JoinOk
    rw [Bool.not_eq_true']
    refine StrLaws.joinFits (B := B) ?_ ?_
    · intro y hy
      simp only [List.map_map, List.mem_map, Function.comp_def] at hy
      obtain ⟨p, hp, rfl⟩ := hy
      rw [S_len]; exact hB p hp
    · rw [List.length_map, List.length_map, S_len]
      have h1 : q.length * sep.length ≤ 1000 * 1000 := Nat.mul_le_mul hn hs
      have h2 : q.length * B ≤ 1000 * 1000 := Nat.mul_le_mul hn hB2
      first
      | omega
      | (rw [Nat.mul_add]; omega)
  · intro t' k
    rw [S_join]; exact hq t' k
end Mine
open PySem PySem.W PyProof.Rows
set_option Elab.async false
namespace Mine
/-- each mark twice -/
def dbl : List Nat → List Nat
  | [] => []
  | c :: r => if c = 34 then 34 :: 34 :: dbl r else c :: dbl r
theorem dbl_mark (r : List Nat) : dbl (34 :: r) = 34 :: 34 :: dbl r := by rw [dbl, if_pos rfl]
theorem dbl_one {c : Nat} (h : c ≠ 34) (r : List Nat) : dbl (c :: r) = c :: dbl r := by rw [dbl, if_neg h]
theorem dbl_app : ∀ a b : List Nat, dbl (a ++ b) = dbl a ++ dbl b
  | [], b => rfl
  | c :: a, b => by
    rw [List.cons_append]
    by_cases h : c = 34
    · subst h; rw [dbl_mark, dbl_mark, dbl_app a b]; rfl
    · rw [dbl_one h, dbl_one h, dbl_app a b]; rfl
theorem dbl_len : ∀ a : List Nat, (dbl a).length ≤ 2 * a.length
  | [] => by simp [dbl]
  | c :: a => by
    have := dbl_len a
    by_cases h : c = 34
    · subst h; rw [dbl_mark]; simp only [List.length_cons]; omega
    · rw [dbl_one h]; simp only [List.length_cons]; omega
theorem unq_dbl : ∀ (a r : List Nat), (∀ r', r ≠ 34 :: r') → unq (dbl a ++ 34 :: r) = a
  | [], r, h => by
    show unq (34 :: r) = []
    cases r with
    | nil => simp [unq]
    | cons d r =>
      have hd : d ≠ 34 := fun e => h r (by rw [e])
      rw [unq.eq_def]; simp [hd]
  | c :: a, r, h => by
    by_cases hc : c = 34
    · subst hc; rw [dbl_mark, List.cons_append, List.cons_append, unq.eq_def]
      simp only [if_true]
      rw [unq_dbl a r h]
    · rw [dbl_one hc, List.cons_append, unq.eq_def]
      simp only [if_neg hc]
      rw [unq_dbl a r h]
/-- the pieces one behind the other, with anything between them -/
def Mid : List (List Nat) → List Nat → Prop
  | [], _ => True
  | w :: ws, t => ∃ x u, t = x ++ w ++ u ∧ Mid ws u
def MP : List (List Nat) → List Nat → Prop
  | [], _ => False
  | [p], t => t = p
  | p :: q :: ps, t => ∃ x u, t = p ++ x ++ u ∧ MP (q :: ps) u
theorem Mid_pre {ws : List (List Nat)} {u : List Nat} (z : List Nat) (h : Mid ws u) : Mid ws (z ++ u) := by
  cases ws with
  | nil => trivial
  | cons w ws => obtain ⟨x, v, rfl, hv⟩ := h; exact ⟨z ++ x, v, by simp, hv⟩
theorem MP_mid : ∀ (mid : List (List Nat)) (p l t : List Nat), MP (p :: (mid ++ [l])) t ↔ ∃ t', t = p ++ t' ++ l ∧ Mid mid t'
  | [], p, l, t => by
    constructor
    · rintro ⟨x, u, rfl, rfl⟩; exact ⟨x, rfl, trivial⟩
    · rintro ⟨t', rfl, -⟩; exact ⟨t', l, rfl, rfl⟩
  | m :: mid, p, l, t => by
    constructor
    · rintro ⟨x, u, rfl, h⟩
      obtain ⟨t', rfl, h'⟩ := (MP_mid mid m l u).mp h
      exact ⟨x ++ m ++ t', by simp, x, t', rfl, h'⟩
    · rintro ⟨_, rfl, x, u, rfl, h⟩
      exact ⟨x, m ++ u ++ l, by simp, (MP_mid mid m l _).mpr ⟨u, rfl, h⟩⟩
theorem MP_app : ∀ (h p t : List Nat) (ps : List (List Nat)), MP ((h ++ p) :: ps) t ↔ ∃ t', t = h ++ t' ∧ MP (p :: ps) t'
  | h, p, t, [] => by
    constructor
    · intro e; exact ⟨p, e, rfl⟩
    · rintro ⟨t', rfl, e⟩; show _ = _; rw [show t' = p from e]
  | h, p, t, q :: ps => by
    constructor
    · rintro ⟨x, u, rfl, hu⟩; exact ⟨p ++ x ++ u, by simp, x, u, rfl, hu⟩
    · rintro ⟨_, rfl, x, u, rfl, hu⟩; exact ⟨x, u, by simp, hu⟩
theorem MP_snoc : ∀ (init : List (List Nat)) (l e t : List Nat), MP (init ++ [l ++ e]) t ↔ ∃ t', t = t' ++ e ∧ MP (init ++ [l]) t'
  | [], l, e, t => by
    constructor
    · intro h; exact ⟨l, h, rfl⟩
    · rintro ⟨t', rfl, h⟩; show _ = _; rw [show t' = l from h]
  | i :: init, l, e, t => by
    rw [List.cons_append, List.cons_append, MP_mid]
    simp only [MP_mid]
    constructor
    · rintro ⟨t', rfl, h⟩; exact ⟨i ++ t' ++ l, by simp, t', rfl, h⟩
    · rintro ⟨_, rfl, t', rfl, h⟩; exact ⟨t', by simp, h⟩
theorem MP_open : ∀ (ps : List (List Nat)) (t : List Nat), ps ≠ [] → (MP (ps ++ [[]]) t ↔ ∃ t1 t2, t = t1 ++ t2 ∧ MP ps t1)
  | [], t, h => absurd rfl h
  | [p], t, _ => by
    constructor
    · rintro ⟨x, u, rfl, hu⟩
      exact ⟨p, x ++ u, by simp, rfl⟩
    · rintro ⟨t1, t2, rfl, h⟩
      have h : t1 = p := h
      exact ⟨t2, [], by rw [h]; simp, rfl⟩
  | p :: q :: ps, t, _ => by
    constructor
    · rintro ⟨x, u, rfl, hu⟩
      obtain ⟨t1, t2, rfl, h1⟩ := (MP_open (q :: ps) u (by simp)).mp hu
      exact ⟨p ++ x ++ t1, t2, by simp, x, t1, rfl, h1⟩
    · rintro ⟨_, t2, rfl, x, u, rfl, hu⟩
      exact ⟨x, u ++ t2, by simp, (MP_open (q :: ps) _ (by simp)).mpr ⟨u, t2, rfl, hu⟩⟩
theorem findAt_step (g w : List Nat) {lo hi : Nat} (h : lo ≤ hi) : findAt g w lo hi = if (decide (lo + w.length ≤ hi) && decide ((g.drop lo).take w.length = w)) = true then some lo else findAt g w (lo + 1) hi := by
  unfold findAt
  rw [show hi + 1 - lo = (hi - lo) + 1 by omega, List.range'_succ, List.find?_cons, show hi + 1 - (lo + 1) = hi - lo by omega]
  split <;> simp_all
theorem findAt_is {g w : List Nat} {lo hi k : Nat} (h : findAt g w lo hi = some k) : lo ≤ k ∧ k + w.length ≤ hi ∧ (g.drop k).take w.length = w := by
  unfold findAt at h
  have h1 := List.find?_some h
  have h2 := List.mem_of_find?_eq_some h
  rw [List.mem_range'_1] at h2
  rw [Bool.and_eq_true] at h1
  exact ⟨by omega, of_decide_eq_true h1.1, of_decide_eq_true h1.2⟩
theorem findAt_le {g w : List Nat} {hi i : Nat} (h1 : i + w.length ≤ hi) (h2 : (g.drop i).take w.length = w) : ∀ (d lo : Nat), lo + d = i → ∃ k, findAt g w lo hi = some k ∧ k ≤ i
  | 0, lo, e => by
    rw [Nat.add_zero] at e; subst e
    refine ⟨lo, ?_, Nat.le_refl _⟩
    rw [findAt_step _ _ (by omega), if_pos (by simp [h1, h2])]
  | d + 1, lo, e => by
    rw [findAt_step _ _ (by omega)]
    split
    · exact ⟨lo, rfl, by omega⟩
    · exact findAt_le h1 h2 d (lo + 1) (by omega)
theorem seg_split (G : List Nat) {sp k n : Nat} (h : sp ≤ k) : G.drop sp = (G.drop sp).take (k - sp) ++ (G.drop k).take n ++ G.drop (k + n) := by
  have e1 : G.drop k = (G.drop sp).drop (k - sp) := by rw [List.drop_drop]; congr 1; omega
  rw [← List.drop_drop, List.append_assoc, List.take_append_drop, e1, List.take_append_drop]
theorem take_drop_in {g : List Nat} {k n ep : Nat} (h : k + n ≤ ep) : ((g.take ep).drop k).take n = (g.drop k).take n := by
  rw [List.drop_take, List.take_take, Nat.min_eq_left (by omega)]
theorem runW_iff (g : List Nat) (ep : Nat) (hep : ep ≤ g.length) : ∀ (ws : List (List Nat)) (sp : Nat), sp ≤ ep → (runW g ep ws sp = true ↔ Mid ws ((g.take ep).drop sp))
  | [], sp, _ => by simp [runW, Mid]
  | w :: ws, sp, hsp => by
    rw [runW]
    constructor
    · intro h
      cases hf : findAt g w sp ep with
      | none => rw [hf] at h; cases h
      | some k =>
        rw [hf] at h
        obtain ⟨h1, h2, h3⟩ := findAt_is hf
        refine ⟨((g.take ep).drop sp).take (k - sp), (g.take ep).drop (k + w.length), ?_, (runW_iff g ep hep ws _ h2).mp h⟩
        have := seg_split (g.take ep) (n := w.length) h1
        rwa [take_drop_in h2, h3] at this
    · rintro ⟨x, u, e, hu⟩
      have hl : x.length + w.length + u.length = ep - sp := by
        have := congrArg List.length e
        simp [Nat.min_eq_left hep] at this; omega
      have h2 : (g.drop (sp + x.length)).take w.length = w := by
        rw [← take_drop_in (ep := ep) (by omega), ← List.drop_drop, e]
        simp
      obtain ⟨k, hk, hle⟩ := findAt_le (hi := ep) (by omega) h2 x.length sp rfl
      rw [hk]
      obtain ⟨h3, h4, -⟩ := findAt_is hk
      refine (runW_iff g ep hep ws _ h4).mpr ?_
      have e2 : u = (g.take ep).drop (sp + (x.length + w.length)) := by
        rw [← List.drop_drop, e, List.append_assoc, ← List.drop_drop]; simp
      have e3 : (g.take ep).drop (k + w.length) = ((g.take ep).drop (k + w.length)).take (sp + x.length - k) ++ u := by
        rw [e2]
        have : sp + (x.length + w.length) = (k + w.length) + (sp + x.length - k) := by omega
        rw [this, ← List.drop_drop (i := sp + x.length - k), List.take_append_drop]
      rw [e3]; exact Mid_pre _ hu
theorem splitD_one {a p : List Nat} (h : splitD a = [p]) : p = a := by
  induction a using splitD.induct generalizing p with
  | case1 r ih =>
    rw [splitD_dots] at h
    obtain ⟨q, qs, e⟩ := splitD_ne r
    rw [e] at h; cases h
  | case2 c r hn q qs e ih =>
    rw [splitD_step (fun z => by
      cases r with
      | nil => cases z
      | cons d r => cases r with
        | nil => cases z
        | cons f r => simp [dots] at z; exact hn r z.1 (by rw [z.2.1, z.2.2])) e] at h
    cases h
    rw [ih e]
  | case3 c r hn e ih => obtain ⟨p, ps, e'⟩ := splitD_ne r; rw [e'] at e; cases e
  | case4 => rw [splitD] at h; cases h; rfl
theorem splitD_shape (a : List Nat) : splitD a = [a] ∨ ∃ p mid l, splitD a = p :: (mid ++ [l]) := by
  obtain ⟨p, ps, e⟩ := splitD_ne a
  rcases List.eq_nil_or_concat ps with e2 | ⟨mid, l, e2⟩
  · rw [e2] at e; left; rw [e, splitD_one e]
  · right; exact ⟨p, mid, l, by rw [e, e2, List.concat_eq_append]⟩
theorem ematch_iff (a b : List Nat) : ematch a b = true ↔ MP (splitD a) b := by
  rcases splitD_shape a with e | ⟨p, mid, l, e⟩
  · rw [e]
    have : ematch a b = (a == b) := by unfold ematch; rw [e]
    rw [this, beq_iff_eq]
    exact ⟨fun h => h.symm, fun h => Eq.symm h⟩
  · rw [ematch_clean e, e, MP_mid]
    simp only [Bool.and_eq_true, decide_eq_true_eq]
    constructor
    · rintro ⟨⟨⟨h1, h2⟩, h3⟩, h4⟩
      rw [runW_iff b _ (by omega) mid _ (by omega)] at h4
      refine ⟨_, ?_, h4⟩
      have e1 : b = b.take (b.length - l.length) ++ l := by
        have := (List.take_append_drop (b.length - l.length) b).symm
        rwa [h2] at this
      have e2 : b.take (b.length - l.length) = p ++ (b.take (b.length - l.length)).drop p.length := by
        have := (List.take_append_drop p.length (b.take (b.length - l.length))).symm
        rwa [List.take_take, Nat.min_eq_left (by omega), h1] at this
      rw [← e2, ← e1]
    · rintro ⟨t', rfl, h⟩
      have hl : (p ++ t' ++ l).length - l.length = (p ++ t').length := by simp; omega
      refine ⟨⟨⟨by simp, by rw [hl, List.drop_left]⟩, by simp⟩, ?_⟩
      rw [hl, runW_iff _ _ (by simp) _ _ (by simp)]
      rw [List.take_left, List.drop_left]; exact h
end Mine
open PySem PySem.W PyProof.Rows
set_option Elab.async false
namespace Mine
theorem nodots_of {c : Nat} {r : List Nat} (hn : ∀ r', c = 46 → r = 46 :: 46 :: r' → False) : ¬ (c :: r).take 3 = dots := fun z => by
  cases r with
  | nil => cases z
  | cons d r => cases r with
    | nil => cases z
    | cons f r => simp [dots] at z; exact hn r z.1 (by rw [z.2.1, z.2.2])
theorem dbl_two {r : List Nat} (h : (dbl r).take 2 = [46, 46]) : r.take 2 = [46, 46] := by
  cases r with
  | nil => cases h
  | cons d r =>
    by_cases hd : d = 34
    · subst hd; rw [dbl_mark] at h; simp at h
    · rw [dbl_one hd] at h
      cases r with
      | nil => simp [dbl] at h
      | cons e r =>
        by_cases he : e = 34
        · subst he; rw [dbl_mark] at h; simp at h
        · rw [dbl_one he] at h; simpa using h
theorem splitD_dbl (a : List Nat) : splitD (dbl a) = (splitD a).map dbl := by
  induction a using splitD.induct with
  | case1 r ih =>
    rw [dbl_one (by decide), dbl_one (by decide), dbl_one (by decide), splitD_dots, splitD_dots, ih]; rfl
  | case2 c r hn p ps e ih =>
    have hnd := nodots_of hn
    rw [splitD_step hnd e]
    rw [e, List.map_cons] at ih
    by_cases hc : c = 34
    · subst hc
      rw [dbl_mark, List.map_cons, dbl_mark]
      refine splitD_step (by simp [dots]) (splitD_step (by simp [dots]) ih)
    · rw [dbl_one hc, List.map_cons, dbl_one hc]
      refine splitD_step (fun z => hnd ?_) ih
      have h1 : c = 46 := by have := congrArg (fun l : List Nat => l.head?) z; simpa [dots] using this
      have h2 : (dbl r).take 2 = [46, 46] := by
        have := congrArg (fun l : List Nat => l.tail) z
        simpa [dots] using this
      have h3 := dbl_two h2
      rw [List.take_succ_cons, h3, h1]; rfl
  | case3 c r hn e ih => obtain ⟨p, ps, e'⟩ := splitD_ne r; rw [e'] at e; cases e
  | case4 => show splitD [] = _; rw [splitD]; rfl
theorem splitD_pre {x p : List Nat} {ps : List (List Nat)} (e : splitD x = p :: ps) : ∀ l : List Nat, (∀ c ∈ l, c ≠ 46) → splitD (l ++ x) = (l ++ p) :: ps
  | [], _ => e
  | c :: l, h => by
    have := splitD_pre e l (fun c hc => h c (List.mem_cons_of_mem _ hc))
    exact splitD_step (fun q => h c (List.mem_cons_self ..) (by
      have := congrArg (fun z : List Nat => z.head?) q
      simpa [dots] using this)) this
theorem splitD_mark {y q : List Nat} {qs : List (List Nat)} (e : splitD y = q :: qs) (x : List Nat) : ∀ init l, splitD x = init ++ [l] → splitD (x ++ 34 :: y) = init ++ (l ++ 34 :: q) :: qs := by
  induction x using splitD.induct with
  | case1 r ih =>
    intro init l h
    rw [splitD_dots] at h
    cases init with
    | nil =>
      obtain ⟨p, ps, e'⟩ := splitD_ne r
      rw [e'] at h; cases h
    | cons i init =>
      rw [List.cons_append] at h
      injection h with h1 h2
      subst h1
      rw [List.cons_append, List.cons_append, List.cons_append, splitD_dots, ih init l h2]; rfl
  | case2 c r hn p ps e' ih =>
    intro init l h
    have hnd := nodots_of hn
    rw [splitD_step hnd e'] at h
    have hnd' : ¬ (c :: (r ++ 34 :: y)).take 3 = dots := by
      intro z
      match r, hnd, z with
      | [], _, z => simp [dots] at z
      | [d], _, z => simp [dots] at z
      | d :: f :: r, hnd, z => exact hnd (by simpa [dots] using z)
    cases init with
    | nil =>
      rw [List.nil_append] at h
      injection h with h1 h2
      subst h2; subst h1
      have := ih [] p e'
      exact splitD_step hnd' this
    | cons i init =>
      rw [List.cons_append] at h
      injection h with h1 h2
      subst h1
      have := ih (p :: init) l (by rw [e', h2]; rfl)
      exact splitD_step hnd' this
  | case3 c r hn e' ih => obtain ⟨p, ps, e''⟩ := splitD_ne r; rw [e''] at e'; cases e'
  | case4 =>
    intro init l h
    rw [splitD] at h
    have h2 : init = [] ∧ l = [] := by
      cases init with
      | nil => simp at h; exact ⟨rfl, h⟩
      | cons i init => simp at h
    obtain ⟨rfl, rfl⟩ := h2
    exact splitD_step (by simp [dots]) e
theorem dbl_ne_nil {c : Nat} {r : List Nat} : dbl (c :: r) ≠ [] := by
  by_cases h : c = 34
  · subst h; rw [dbl_mark]; simp
  · rw [dbl_one h]; simp
theorem dbl_head34 {b u : List Nat} (h : dbl b = 34 :: u) : ∃ b', b = 34 :: b' ∧ u = 34 :: dbl b' := by
  cases b with
  | nil => cases h
  | cons c b =>
    by_cases hc : c = 34
    · subst hc; rw [dbl_mark] at h; injection h with _ h; exact ⟨b, rfl, h.symm⟩
    · rw [dbl_one hc] at h; injection h with h1 _; exact absurd h1 hc
theorem dbl_headN {b u : List Nat} {c : Nat} (hc : c ≠ 34) (h : dbl b = c :: u) : ∃ b', b = c :: b' ∧ u = dbl b' := by
  cases b with
  | nil => cases h
  | cons d b =>
    by_cases hd : d = 34
    · subst hd; rw [dbl_mark] at h; injection h with h1 _; exact absurd h1.symm hc
    · rw [dbl_one hd] at h; injection h with h1 h2; subst h1; exact ⟨b, rfl, h2.symm⟩
theorem dbl_pre : ∀ (p b r : List Nat), dbl b = dbl p ++ r → ∃ v, b = p ++ v ∧ dbl v = r
  | [], b, r, h => ⟨b, rfl, h⟩
  | c :: p, b, r, h => by
    by_cases hc : c = 34
    · subst hc
      rw [dbl_mark, List.cons_append, List.cons_append] at h
      obtain ⟨b', rfl, h2⟩ := dbl_head34 h
      injection h2 with _ h2
      obtain ⟨v, rfl, h3⟩ := dbl_pre p b' r h2.symm
      exact ⟨v, rfl, h3⟩
    · rw [dbl_one hc, List.cons_append] at h
      obtain ⟨b', rfl, h2⟩ := dbl_headN hc h
      obtain ⟨v, rfl, h3⟩ := dbl_pre p b' r h2.symm
      exact ⟨v, rfl, h3⟩
theorem dbl_nil {b : List Nat} (h : dbl b = []) : b = [] := by
  cases b with
  | nil => rfl
  | cons c b => exact absurd h dbl_ne_nil
theorem dbl_inj {a b : List Nat} (h : dbl a = dbl b) : a = b := by
  obtain ⟨v, rfl, h2⟩ := dbl_pre b a [] (by rw [h, List.append_nil])
  rw [dbl_nil h2, List.append_nil]
theorem dbl_cut : ∀ (b x u : List Nat), dbl b = x ++ u → (∃ y v, b = y ++ v ∧ x = dbl y ∧ u = dbl v) ∨ (∃ y v, b = y ++ 34 :: v ∧ x = dbl y ++ [34] ∧ u = 34 :: dbl v)
  | [], x, u, h => by
    have h : x ++ u = [] := h.symm
    rw [List.append_eq_nil_iff] at h
    exact .inl ⟨[], [], rfl, h.1, h.2⟩
  | c :: b, x, u, h => by
    by_cases hc : c = 34
    · subst hc
      rw [dbl_mark] at h
      match x, h with
      | [], h => exact .inl ⟨[], 34 :: b, rfl, rfl, by rw [dbl_mark]; exact h.symm⟩
      | [d], h =>
        rw [List.singleton_append] at h
        injection h with h1 h2
        exact .inr ⟨[], b, rfl, by rw [← h1]; rfl, h2.symm⟩
      | d :: e :: x, h =>
        rw [List.cons_append, List.cons_append] at h
        injection h with h1 h2
        injection h2 with h2 h3
        rcases dbl_cut b x u h3 with ⟨y, v, rfl, rfl, rfl⟩ | ⟨y, v, rfl, rfl, rfl⟩
        · exact .inl ⟨34 :: y, v, rfl, by rw [dbl_mark, ← h1, ← h2], rfl⟩
        · exact .inr ⟨34 :: y, v, rfl, by rw [dbl_mark, ← h1, ← h2]; rfl, rfl⟩
    · rw [dbl_one hc] at h
      match x, h with
      | [], h => exact .inl ⟨[], c :: b, rfl, rfl, by rw [dbl_one hc]; exact h.symm⟩
      | d :: x, h =>
        rw [List.cons_append] at h
        injection h with h1 h3
        rcases dbl_cut b x u h3 with ⟨y, v, rfl, rfl, rfl⟩ | ⟨y, v, rfl, rfl, rfl⟩
        · exact .inl ⟨c :: y, v, rfl, by rw [dbl_one hc, ← h1], rfl⟩
        · exact .inr ⟨c :: y, v, rfl, by rw [dbl_one hc, ← h1]; rfl, rfl⟩
theorem dbl_half : ∀ (p b u : List Nat), 34 :: dbl b = dbl p ++ u → ∃ v, 34 :: b = p ++ v ∧ dbl v = 34 :: u
  | [], b, u, h => ⟨34 :: b, rfl, by rw [dbl_mark]; rw [show u = 34 :: dbl b from h.symm]⟩
  | c :: p, b, u, h => by
    by_cases hc : c = 34
    · subst hc
      rw [dbl_mark, List.cons_append, List.cons_append] at h
      injection h with _ h
      obtain ⟨b', rfl, h2⟩ := dbl_head34 h
      obtain ⟨v, h3, h4⟩ := dbl_half p b' u h2.symm
      exact ⟨v, by rw [List.cons_append, ← h3], h4⟩
    · rw [dbl_one hc, List.cons_append] at h
      injection h with h1 _
      exact absurd h1.symm hc
theorem dbl_find {b x p u : List Nat} (h : dbl b = x ++ dbl p ++ u) : ∃ y v z, b = y ++ p ++ v ∧ dbl v = z ++ u := by
  rw [List.append_assoc] at h
  rcases dbl_cut _ _ _ h with ⟨y, v, rfl, rfl, h2⟩ | ⟨y, v, rfl, rfl, h2⟩
  · obtain ⟨v', rfl, h3⟩ := dbl_pre p v u h2.symm
    exact ⟨y, v', [], by simp, by rw [h3]; rfl⟩
  · obtain ⟨v', h3, h4⟩ := dbl_half p v u h2.symm
    exact ⟨y, v', [34], by rw [h3]; simp, by rw [h4]; rfl⟩
theorem dbl_last {b x l : List Nat} (h : dbl b = x ++ dbl l) : ∃ y, b = y ++ l ∧ x = dbl y := by
  rcases dbl_cut _ _ _ h with ⟨y, v, rfl, rfl, h2⟩ | ⟨y, v, rfl, rfl, h2⟩
  · exact ⟨y, by rw [dbl_inj h2], rfl⟩
  · obtain ⟨v', h3, h4⟩ := dbl_half l v [] (by rw [← h2, List.append_nil])
    obtain ⟨w, rfl, h5⟩ := dbl_head34 h4
    cases h5
theorem dbl_odd {y x l : List Nat} (h : dbl y ++ [34] = x ++ dbl l) : ∃ y', y = y' ++ l ∧ x = dbl y' ++ [34] := by
  have e : dbl (y ++ [34]) = x ++ (dbl l ++ [34]) := by
    rw [dbl_app, show dbl [34] = [34] ++ [34] from rfl, ← List.append_assoc, h, List.append_assoc]
  rcases dbl_cut _ _ _ e with ⟨y1, v, e1, rfl, h2⟩ | ⟨y1, v, e1, rfl, h2⟩
  · obtain ⟨v', rfl, h3⟩ := dbl_pre l v [34] h2.symm
    obtain ⟨w, rfl, h5⟩ := dbl_head34 h3
    cases h5
  · obtain ⟨v', h3, h4⟩ := dbl_half l v [34] h2.symm
    have h5 : v' = [34] := dbl_inj (by rw [h4]; rfl)
    subst h5
    rw [h3, ← List.append_assoc] at e1
    exact ⟨y1, List.append_cancel_right e1, rfl⟩
theorem Mid_dbl : ∀ (ws : List (List Nat)) (t z u : List Nat), dbl t = z ++ u → Mid (ws.map dbl) u → Mid ws t
  | [], _, _, _, _, _ => trivial
  | w :: ws, t, z, u, h, hm => by
    obtain ⟨x, u', rfl, hm⟩ := hm
    obtain ⟨y, v, z', rfl, h2⟩ := dbl_find (b := t) (x := z ++ x) (p := w) (u := u') (by rw [h]; simp)
    exact ⟨y, v, rfl, Mid_dbl ws v z' u' h2 hm⟩
theorem Mid_dbl' : ∀ (ws : List (List Nat)) (t : List Nat), Mid ws t → Mid (ws.map dbl) (dbl t)
  | [], _, _ => trivial
  | w :: ws, t, hm => by
    obtain ⟨x, u, rfl, hm⟩ := hm
    exact ⟨dbl x, dbl u, by rw [dbl_app, dbl_app], Mid_dbl' ws u hm⟩
theorem Mid_odd : ∀ (ws : List (List Nat)) (t z u : List Nat), dbl t ++ [34] = z ++ u → Mid (ws.map dbl) u → Mid ws t
  | [], _, _, _, _, _ => trivial
  | w :: ws, t, z, u, h, hm => by
    obtain ⟨x, u', rfl, hm⟩ := hm
    rcases List.eq_nil_or_concat u' with e | ⟨u'', c, e⟩
    · subst e
      obtain ⟨y', rfl, h2⟩ := dbl_odd (y := t) (x := z ++ x) (l := w) (by rw [h]; simp)
      exact ⟨y', [], by simp, Mid_dbl ws [] [] [] rfl hm⟩
    · rw [List.concat_eq_append] at e
      subst e
      have h' : dbl t ++ [34] = (z ++ x ++ dbl w ++ u'') ++ [c] := by rw [h]; simp
      obtain ⟨h1, h2⟩ := List.append_inj' h' rfl
      obtain ⟨y, v, z', rfl, h3⟩ := dbl_find (b := t) (x := z ++ x) (p := w) (u := u'') h1
      refine ⟨y, v, rfl, Mid_odd ws v z' (u'' ++ [c]) ?_ hm⟩
      rw [h3, ← h2, List.append_assoc]
theorem MP_shape (ps : List (List Nat)) (h : ps ≠ []) : (∃ p, ps = [p]) ∨ ∃ p mid l, ps = p :: (mid ++ [l]) := by
  cases ps with
  | nil => exact absurd rfl h
  | cons p ps =>
    rcases List.eq_nil_or_concat ps with e2 | ⟨mid, l, e2⟩
    · left; exact ⟨p, by rw [e2]⟩
    · right; exact ⟨p, mid, l, by rw [e2, List.concat_eq_append]⟩
theorem MP_dbl {ps : List (List Nat)} (hne : ps ≠ []) (y : List Nat) : MP (ps.map dbl) (dbl y) ↔ MP ps y := by
  rcases MP_shape ps hne with ⟨p, rfl⟩ | ⟨p, mid, l, rfl⟩
  · exact ⟨fun h => dbl_inj h, fun h => congrArg dbl h⟩
  · rw [List.map_cons, List.map_append, List.map_singleton, MP_mid, MP_mid]
    constructor
    · rintro ⟨t', h, hm⟩
      rw [List.append_assoc] at h
      obtain ⟨v, rfl, h2⟩ := dbl_pre p y _ h
      obtain ⟨t, rfl, rfl⟩ := dbl_last h2
      exact ⟨t, by simp, Mid_dbl mid t [] _ rfl hm⟩
    · rintro ⟨t', rfl, hm⟩
      exact ⟨dbl t', by rw [dbl_app, dbl_app], Mid_dbl' mid t' hm⟩
theorem MP_odd {ps : List (List Nat)} (hne : ps ≠ []) (y : List Nat) (h : MP (ps.map dbl) (dbl y ++ [34])) : MP ps y := by
  rcases MP_shape ps hne with ⟨p, rfl⟩ | ⟨p, mid, l, rfl⟩
  · obtain ⟨y', _, h2⟩ := dbl_odd (y := y) (x := []) (l := p) h
    exact absurd h2.symm (by simp)
  · rw [List.map_cons, List.map_append, List.map_singleton, MP_mid] at h
    rw [MP_mid]
    obtain ⟨t', h, hm⟩ := h
    obtain ⟨y', rfl, h2⟩ := dbl_odd h
    have h3 : dbl (y' ++ [34]) = dbl p ++ (t' ++ [34]) := by
      rw [dbl_app, show dbl [34] = [34] ++ [34] from rfl, ← List.append_assoc, ← h2, List.append_assoc]
    obtain ⟨v, h4, h5⟩ := dbl_pre p _ _ h3
    rcases List.eq_nil_or_concat v with e | ⟨v', c, e⟩
    · subst e; exact absurd h5.symm (by simp [dbl])
    · rw [List.concat_eq_append] at e
      subst e
      rw [← List.append_assoc] at h4
      obtain ⟨h6, h7⟩ := List.append_inj' h4 rfl
      subst h6
      injection h7 with h7 _
      subst h7
      rw [dbl_app, show dbl [34] = [34] ++ [34] from rfl, ← List.append_assoc] at h5
      have h8 := List.append_cancel_right h5
      exact ⟨v', rfl, Mid_odd mid v' [] t' (by rw [h8]; rfl) hm⟩
end Mine
open PySem PySem.W PyProof.Rows
set_option Elab.async false
namespace Mine
/-- the table of places, from these places on -/
def plc (b : List Nat) : List Nat → List Nat → List Nat
  | 46 :: 46 :: 46 :: r, ps => plc b r ((List.range (b.length + 1)).filter fun q => match ps with | [] => false | p :: _ => decide (p ≤ q))
  | c :: r, ps => plc b r ((ps.filter fun p => decide (b[p]? = some c)).map (· + 1))
  | [], ps => ps
def stepD (b ps : List Nat) : List Nat := (List.range (b.length + 1)).filter fun q => match ps with | [] => false | p :: _ => decide (p ≤ q)
def stepC (b ps : List Nat) (c : Nat) : List Nat := (ps.filter fun p => decide (b[p]? = some c)).map (· + 1)
theorem plc_dots (b r ps : List Nat) : plc b (46 :: 46 :: 46 :: r) ps = plc b r (stepD b ps) := by rw [plc]; rfl
theorem plc_one {b r ps : List Nat} {c : Nat} (h : ¬ (c :: r).take 3 = dots) : plc b (c :: r) ps = plc b r (stepC b ps c) := by
  rw [plc]
  · rfl
  · intro r' hc hr; subst hc; subst hr; exact h rfl
theorem plc_nil (b ps : List Nat) : plc b [] ps = ps := by rw [plc]
theorem stepD_mem {b ps : List Nat} (hs : ps.Pairwise (· < ·)) {q : Nat} : q ∈ stepD b ps ↔ q ≤ b.length ∧ ∃ p ∈ ps, p ≤ q := by
  unfold stepD
  rw [List.mem_filter, List.mem_range]
  cases ps with
  | nil => simp
  | cons p ps =>
    simp only [decide_eq_true_eq]
    constructor
    · rintro ⟨h1, h2⟩; exact ⟨by omega, p, List.mem_cons_self .., h2⟩
    · rintro ⟨h1, p', hp, h2⟩
      refine ⟨by omega, ?_⟩
      rcases List.mem_cons.mp hp with rfl | hp
      · exact h2
      · have := List.rel_of_pairwise_cons hs hp; omega
theorem stepD_sorted (b ps : List Nat) : (stepD b ps).Pairwise (· < ·) := List.Pairwise.filter _ List.pairwise_lt_range
theorem stepD_le {b ps : List Nat} : ∀ q ∈ stepD b ps, q ≤ b.length := fun q hq => by
  unfold stepD at hq
  rw [List.mem_filter, List.mem_range] at hq; omega
theorem stepC_mem {b ps : List Nat} {c q : Nat} : q ∈ stepC b ps c ↔ ∃ p ∈ ps, b[p]? = some c ∧ q = p + 1 := by
  unfold stepC
  rw [List.mem_map]
  constructor
  · rintro ⟨p, hp, rfl⟩; rw [List.mem_filter] at hp; exact ⟨p, hp.1, by simpa using hp.2, rfl⟩
  · rintro ⟨p, hp, h, rfl⟩; exact ⟨p, List.mem_filter.mpr ⟨hp, by simpa using h⟩, rfl⟩
theorem stepC_sorted {b ps : List Nat} {c : Nat} (hs : ps.Pairwise (· < ·)) : (stepC b ps c).Pairwise (· < ·) := by
  unfold stepC
  rw [List.pairwise_map]
  exact (hs.filter _).imp fun h => by omega
theorem get_lt {b : List Nat} {p c : Nat} (h : b[p]? = some c) : p < b.length := by
  rcases Nat.lt_or_ge p b.length with h1 | h1
  · exact h1
  · rw [List.getElem?_eq_none h1] at h; cases h
theorem stepC_le {b ps : List Nat} {c : Nat} : ∀ q ∈ stepC b ps c, q ≤ b.length := fun q hq => by
  obtain ⟨p, _, h, rfl⟩ := stepC_mem.mp hq
  exact get_lt h
theorem MP_cons {c : Nat} {p t : List Nat} {ps : List (List Nat)} : MP ((c :: p) :: ps) t ↔ ∃ t', t = c :: t' ∧ MP (p :: ps) t' := MP_app [c] p t ps
theorem seg_cons {b : List Nat} {q x c : Nat} (h : b[q]? = some c) (hx : q < x) : (b.take x).drop q = c :: (b.take x).drop (q + 1) := by
  have h1 := get_lt h
  have h2 : q < (b.take x).length := by rw [List.length_take]; omega
  rw [List.drop_eq_getElem_cons h2]
  congr 1
  rw [List.getElem_take]
  rw [List.getElem?_eq_getElem h1] at h
  exact Option.some.inj h
theorem seg_head {b t : List Nat} {q x c : Nat} (h : (b.take x).drop q = c :: t) : b[q]? = some c ∧ q < x := by
  have hl := congrArg List.length h
  simp at hl
  have h1 : q < x := by omega
  refine ⟨?_, h1⟩
  have h2 : ((b.take x).drop q)[0]? = some c := by rw [h]; rfl
  rw [List.getElem?_drop, Nat.add_zero, List.getElem?_take_of_lt h1] at h2
  exact h2
theorem plc_mem (b a : List Nat) : ∀ ps : List Nat, (∀ p ∈ ps, p ≤ b.length) → ps.Pairwise (· < ·) → ∀ x, x ∈ plc b a ps ↔ x ≤ b.length ∧ ∃ q ∈ ps, q ≤ x ∧ MP (splitD a) ((b.take x).drop q) := by
  induction a using splitD.induct with
  | case1 r ih =>
    intro ps hb hs x
    rw [plc_dots, ih _ stepD_le (stepD_sorted b ps), splitD_dots]
    obtain ⟨p, pr, e⟩ := splitD_ne r
    constructor
    · rintro ⟨hx, q', hq', hle, hm⟩
      obtain ⟨_, q, hq, hqq⟩ := (stepD_mem hs).mp hq'
      refine ⟨hx, q, hq, by omega, ?_⟩
      rw [e] at hm ⊢
      refine ⟨((b.take x).drop q).take (q' - q), (b.take x).drop q', ?_, hm⟩
      have : (b.take x).drop q' = ((b.take x).drop q).drop (q' - q) := by rw [List.drop_drop]; congr 1; omega
      rw [this, List.nil_append, List.take_append_drop]
    · rintro ⟨hx, q, hq, hle, hm⟩
      rw [e] at hm
      obtain ⟨x', u, h1, h2⟩ := hm
      rw [List.nil_append] at h1
      have hl := congrArg List.length h1
      simp at hl
      refine ⟨hx, q + x'.length, (stepD_mem hs).mpr ⟨by omega, q, hq, by omega⟩, by omega, ?_⟩
      rw [e, ← List.drop_drop, h1, List.drop_left]; exact h2
  | case2 c r hn p pr e ih =>
    intro ps hb hs x
    have hnd := nodots_of hn
    rw [plc_one hnd, ih _ stepC_le (stepC_sorted hs), splitD_step hnd e]
    constructor
    · rintro ⟨hx, q', hq', hle, hm⟩
      obtain ⟨q, hq, hc, rfl⟩ := stepC_mem.mp hq'
      refine ⟨hx, q, hq, by omega, ?_⟩
      rw [MP_cons, seg_cons hc (by omega)]
      exact ⟨_, rfl, by rw [← e]; exact hm⟩
    · rintro ⟨hx, q, hq, hle, hm⟩
      obtain ⟨t', h1, h2⟩ := MP_cons.mp hm
      obtain ⟨h3, h4⟩ := seg_head h1
      rw [seg_cons h3 h4] at h1
      injection h1 with _ h1
      exact ⟨hx, q + 1, stepC_mem.mpr ⟨q, hq, h3, rfl⟩, by omega, by rw [e, h1]; exact h2⟩
  | case3 c r hn e ih => obtain ⟨p, ps, e'⟩ := splitD_ne r; rw [e'] at e; cases e
  | case4 =>
    intro ps hb hs x
    rw [plc_nil, splitD]
    constructor
    · intro h; exact ⟨hb x h, x, h, Nat.le_refl _, by show _ = []; simp⟩
    · rintro ⟨hx, q, hq, hle, hm⟩
      have hl := congrArg List.length (show _ = [] from hm)
      simp at hl
      have : q = x := by omega
      rw [← this]; exact hq
theorem plc_iff (b a : List Nat) (x : Nat) : x ∈ plc b a [0] ↔ x ≤ b.length ∧ ematch a (b.take x) = true := by
  rw [plc_mem b a [0] (by simp) (by simp), ematch_iff]
  simp
theorem h5_free : ∀ c ∈ head5, c ≠ 46 := by decide
def asked (a : List Nat) : List Nat := head5 ++ dbl a ++ [34]
theorem asked_split (a : List Nat) : ∃ p ps init l, splitD a = p :: ps ∧ (dbl p :: ps.map dbl) = init ++ [l] ∧ (∃ i0 it, init ++ [l] = i0 :: it ∧ splitD (asked a) = (match init with | [] => [head5 ++ l ++ [34]] | i :: is => (head5 ++ i) :: (is ++ [l ++ [34]]))) := by
  obtain ⟨p, ps, e⟩ := splitD_ne a
  have e2 : splitD (dbl a) = dbl p :: ps.map dbl := by rw [splitD_dbl, e]; rfl
  have e3 : splitD (head5 ++ dbl a) = (head5 ++ dbl p) :: ps.map dbl := splitD_pre e2 head5 h5_free
  rcases List.eq_nil_or_concat (ps.map dbl) with e4 | ⟨init, l, e4⟩
  · refine ⟨p, ps, [], dbl p, e, by rw [e4]; rfl, dbl p, [], rfl, ?_⟩
    rw [e4] at e3
    have := splitD_mark (y := []) (q := []) (qs := []) (by rw [splitD]) (head5 ++ dbl a) [] _ e3
    exact this
  · rw [List.concat_eq_append] at e4
    refine ⟨p, ps, dbl p :: init, l, e, by rw [e4]; rfl, dbl p, init ++ [l], rfl, ?_⟩
    rw [e4] at e3
    have := splitD_mark (y := []) (q := []) (qs := []) (by rw [splitD]) (head5 ++ dbl a) ((head5 ++ dbl p) :: init) l e3
    exact this
theorem asked_iff (a T : List Nat) : MP (splitD (asked a)) T ↔ ∃ X, T = head5 ++ X ++ [34] ∧ MP ((splitD a).map dbl) X := by
  obtain ⟨p, ps, init, l, e, e1, i0, it, e2, e3⟩ := asked_split a
  rw [e3, e, List.map_cons, e1]
  cases init with
  | nil =>
    show T = head5 ++ l ++ [34] ↔ ∃ X, T = head5 ++ X ++ [34] ∧ X = l
    exact ⟨fun h => ⟨l, h, rfl⟩, by rintro ⟨X, h, rfl⟩; exact h⟩
  | cons i is =>
    show MP ((head5 ++ i) :: (is ++ [l ++ [34]])) T ↔ ∃ X, T = head5 ++ X ++ [34] ∧ MP (i :: (is ++ [l])) X
    rw [MP_app]
    constructor
    · rintro ⟨t', rfl, h⟩
      obtain ⟨X, rfl, h2⟩ := (MP_snoc (i :: is) l [34] t').mp h
      exact ⟨X, by simp, h2⟩
    · rintro ⟨X, rfl, h⟩
      exact ⟨X ++ [34], by simp, (MP_snoc (i :: is) l [34] _).mpr ⟨X, rfl, h⟩⟩
theorem asked_dots (a : List Nat) : splitD (asked a ++ dots) = splitD (asked a) ++ [[]] := by
  obtain ⟨p, ps, e⟩ := splitD_ne (head5 ++ dbl a)
  rcases List.eq_nil_or_concat (splitD (head5 ++ dbl a)) with e4 | ⟨init, l, e4⟩
  · rw [e] at e4; cases e4
  · rw [List.concat_eq_append] at e4
    have h1 : splitD (asked a) = init ++ [l ++ [34]] := splitD_mark (y := []) (q := []) (qs := []) (by rw [splitD]) (head5 ++ dbl a) init l e4
    have h2 := splitD_mark (y := dots) (q := []) (qs := [[]]) (by rw [show dots = 46 :: 46 :: 46 :: [] from rfl, splitD_dots, splitD]) (head5 ++ dbl a) init l e4
    have h3 : asked a ++ dots = head5 ++ dbl a ++ 34 :: dots := by unfold asked; simp
    rw [h3, h2, h1]; simp
theorem split_ne_nil (a : List Nat) : splitD a ≠ [] := by
  obtain ⟨p, ps, e⟩ := splitD_ne a
  rw [e]; simp
theorem asked_at (a y : List Nat) : ematch (asked a) (asked y) = ematch a y := by
  rw [Bool.eq_iff_iff, ematch_iff, ematch_iff, asked_iff, ← MP_dbl (split_ne_nil a)]
  constructor
  · rintro ⟨X, h, hm⟩
    have := List.append_cancel_left (List.append_cancel_right h)
    rw [this]; exact hm
  · intro h; exact ⟨dbl y, rfl, h⟩
/-- the table answers for the two replies -/
theorem law_one (a b : List Nat) : ematch (asked a) (asked b) = decide (b.length ∈ plc b a [0]) := by
  rw [asked_at, Bool.eq_iff_iff, decide_eq_true_iff, plc_iff, List.take_length]
  simp
theorem law_two {a b : List Nat} {x : Nat} (h : x ≤ b.length) : ematch a (b.take x) = decide (x ∈ plc b a [0]) := by
  rw [Bool.eq_iff_iff, decide_eq_true_iff, plc_iff]
  simp [h]
/-- the places of the marks and the end -/
def isEnd (b : List Nat) (x : Nat) : Bool := decide (b[x]? = none ∨ b[x]? = some 34)
def endsOf (b : List Nat) : List Nat := (List.range (b.length + 1)).filter (isEnd b)
def cutOf (b : List Nat) (x : Nat) : Nat := 6 + (dbl (b.take x)).length
theorem line_cut {b tail : List Nat} {x : Nat} (hx : x ≤ b.length) (he : isEnd b x = true) : (asked b ++ tail).take (cutOf b x) = asked (b.take x) := by
  have h1 : ∃ r, asked b ++ tail = asked (b.take x) ++ r := by
    unfold isEnd at he
    rcases of_decide_eq_true he with h | h
    · have h2 : b.length ≤ x := by simpa using h
      exact ⟨tail, by rw [List.take_of_length_le h2]⟩
    · have h2 := get_lt h
      have h3 : b = b.take x ++ 34 :: b.drop (x + 1) := by
        have h4 := (List.take_append_drop x b).symm
        rw [List.drop_eq_getElem_cons h2] at h4
        rw [List.getElem?_eq_getElem h2] at h
        rw [Option.some.inj h] at h4
        exact h4
      refine ⟨34 :: (dbl (b.drop (x + 1)) ++ [34] ++ tail), ?_⟩
      have h5 : asked b = head5 ++ dbl (b.take x ++ 34 :: b.drop (x + 1)) ++ [34] := by rw [← h3]; rfl
      rw [h5, dbl_app, dbl_mark]
      unfold asked; simp
  obtain ⟨r, h2⟩ := h1
  have h3 : cutOf b x = (asked (b.take x)).length := by unfold cutOf asked; simp [head5]; omega
  rw [h2, h3, List.take_left]
/-- with three dots behind -/
theorem law_open {a b tail : List Nat} {size : Nat} (ht : 34 ∉ tail) : ematch (asked a ++ dots) ((asked b ++ tail).take size) = true ↔ ∃ x ∈ endsOf b, ematch a (b.take x) = true ∧ cutOf b x ≤ min size (asked b ++ tail).length := by
  rw [ematch_iff, asked_dots, MP_open _ _ (split_ne_nil _)]
  constructor
  · rintro ⟨T, R, e, hm⟩
    obtain ⟨X, rfl, hX⟩ := (asked_iff a T).mp hm
    have hlen : (head5 ++ X ++ [34]).length ≤ min size (asked b ++ tail).length := by
      have := congrArg List.length e
      rw [List.length_take, List.length_append (as := head5 ++ X ++ [34])] at this
      omega
    have e2 : head5 ++ (X ++ 34 :: (R ++ (asked b ++ tail).drop size)) = head5 ++ (dbl b ++ 34 :: tail) := by
      have h1 := List.take_append_drop size (asked b ++ tail)
      rw [e] at h1
      have h2 : asked b ++ tail = head5 ++ (dbl b ++ 34 :: tail) := by unfold asked; simp
      rw [← h2]
      refine Eq.trans ?_ h1
      simp
    have e3 := List.append_cancel_left e2
    have hl6 : ∀ Z : List Nat, (head5 ++ Z ++ [34]).length = 6 + Z.length := fun Z => by simp [head5]; omega
    rw [hl6] at hlen
    have fin : ∀ y : List Nat, y <+: b → isEnd b y.length = true → MP (splitD a) y → (dbl y).length ≤ X.length → ∃ x ∈ endsOf b, ematch a (b.take x) = true ∧ cutOf b x ≤ min size (asked b ++ tail).length := by
      rintro y ⟨v, rfl⟩ hi hy hle
      refine ⟨y.length, ?_, ?_, ?_⟩
      · unfold endsOf; rw [List.mem_filter, List.mem_range]; exact ⟨by simp; omega, hi⟩
      · rw [ematch_iff, List.take_left]; exact hy
      · unfold cutOf; rw [List.take_left]; omega
    rcases List.append_eq_append_iff.mp e3 with ⟨w, h1, h2⟩ | ⟨w, h1, h2⟩
    · -- dbl b = X ++ w
      cases w with
      | nil =>
        rw [List.append_nil] at h1
        refine fin b (List.prefix_refl _) (by unfold isEnd; simp) ?_ (by rw [h1]; exact Nat.le_refl _)
        rw [← MP_dbl (split_ne_nil a), h1]; exact hX
      | cons c w =>
        rw [List.cons_append] at h2
        injection h2 with h2 _
        subst h2
        rcases dbl_cut _ _ _ h1 with ⟨y, v, rfl, rfl, h4⟩ | ⟨y, v, rfl, rfl, h4⟩
        · obtain ⟨v', rfl, -⟩ := dbl_head34 h4.symm
          refine fin y ⟨_, rfl⟩ (by unfold isEnd; simp) ?_ (Nat.le_refl _)
          rw [← MP_dbl (split_ne_nil a)]; exact hX
        · refine fin y ⟨_, rfl⟩ (by unfold isEnd; simp) (MP_odd (split_ne_nil a) y hX) (by simp)
    · cases w with
      | nil =>
        rw [List.append_nil] at h1
        refine fin b (List.prefix_refl _) (by unfold isEnd; simp) ?_ (by rw [h1]; exact Nat.le_refl _)
        rw [← MP_dbl (split_ne_nil a), ← h1]; exact hX
      | cons c w =>
        rw [List.cons_append] at h2
        injection h2 with _ h2
        exact absurd (by rw [h2]; simp) ht
  · rintro ⟨x, hx, hm, hle⟩
    unfold endsOf at hx
    rw [List.mem_filter, List.mem_range] at hx
    have hc := line_cut (tail := tail) (by omega) hx.2
    refine ⟨asked (b.take x), ((asked b ++ tail).take size).drop (cutOf b x), ?_, ?_⟩
    · rw [← hc]
      have : (asked b ++ tail).take (cutOf b x) = ((asked b ++ tail).take size).take (cutOf b x) := by rw [List.take_take, Nat.min_eq_left (by omega)]
      rw [this, List.take_append_drop]
    · rw [← ematch_iff, asked_at]; exact hm
end Mine
open PySem PySem.W PyProof.Rows
set_option Elab.async false
namespace Mine
theorem lit_head : Str.ofString "257 \"" = S head5 := by decide
theorem lit_dots : Str.ofString "..." = S dots := by decide
theorem lit_nil : Str.ofString "" = S [] := by decide
theorem lit_mark : Str.ofString "\"" = S [34] := by decide
theorem lit_two : Str.ofString "\"\"" = S [34, 34] := by decide
theorem head5_len : head5.length = 5 := rfl
theorem dots_len : dots.length = 3 := rfl
theorem add_X {prog : Program} {w : World} {A : Around} {E : Value → Shared → Prop} {s : Shared} {x y : Str} {l l' : List Nat} {t u : Tok} {Q : Value → Shared → Prop} (hx : x = S l) (hy : y = S l') (hsz : l.length + l'.length ≤ 16777216)
    (h : ∀ t' tk, Q (.str (S (l ++ l')) t') { s with toks := tk }) : wpAny (model prog w) A (binaryOp .Add (.str x t) (.str y u)) Q E s := by
  subst hx; subst hy; exact add_S hsz h
section
variable {h₀ : Heap} {L D : Addr} {m : Str → Option Value} {news : List (Addr × Obj)} {s : Shared} {Q : Value → Shared → Prop} {Post : Value → List (Addr × Obj) → Prop} {o : Obj} {x : Addr × Obj} {h' : Heap} {tk : Nat}
theorem one_ret (ret : ∀ v own h' tk', Post v own → (∀ p ∈ news, ∀ q ∈ own, p.1 ≠ q.1) → Fr h₀ L h' m → News h₀ L h' (own ++ news) → Q v { s with heap := h', toks := tk' })
    (hP : Post (.ref D) [(D, o)]) (hl : ∀ p ∈ news, p.1 < D) (F : Fr h₀ L h' m) (N : News h₀ L h' ((D, o) :: news)) : Q (.ref D) { s with heap := h', toks := tk } :=
  ret _ _ _ _ hP (fun p hp q hq => by rw [List.mem_singleton.mp hq]; exact Nat.ne_of_lt (hl p hp)) F N
end
/-- one sign, a mark twice -/
def d1 (c : Nat) : List Nat := if c = 34 then [34, 34] else [c]
theorem jn_nil : ∀ ts : List (List Nat), jn [] ts = ts.flatten
  | [] => rfl
  | [x] => by simp [jn]
  | x :: y :: r => by
    have e : jn [] (x :: y :: r) = x ++ [] ++ jn [] (y :: r) := by rw [jn]; simp
    rw [e, jn_nil (y :: r)]; simp
theorem dbl_flat : ∀ l : List Nat, (l.map d1).flatten = dbl l
  | [] => rfl
  | c :: l => by
    rw [List.map_cons, List.flatten_cons, dbl_flat l]
    by_cases h : c = 34
    · subst h; rw [dbl_mark]; rfl
    · rw [dbl_one h]; simp [d1, h]
theorem dbl_jn (l : List Nat) : jn [] (l.map d1) = dbl l := by rw [jn_nil, dbl_flat]
def JD (l : List Nat) (i : Nat) (ys : List Value) : Prop := ∃ q, ys = sv q ∧ q.map (·.1) = (l.take i).map d1
theorem jd_step {l : List Nat} {i c : Nat} {ys : List Value} {e : List Nat} {t : Tok} (hc : l[i]? = some c) (he : e = d1 c) (h : JD l i ys) : JD l (i + 1) (ys ++ [Value.str (S e) t]) := by
  obtain ⟨q, rfl, hq⟩ := h
  refine ⟨q ++ [(e, t)], by rw [sv_app]; rfl, ?_⟩
  rw [List.map_append, hq, List.take_add_one, hc, List.map_append]
  simp [he]
theorem jd_fit {l : List Nat} {q : List (List Nat × Tok)} (h : q.map (·.1) = (l.take l.length).map d1) (hl : l.length ≤ 100) : (∀ p ∈ q, p.1.length ≤ 2) ∧ q.length ≤ 1000 ∧ jn [] (q.map (·.1)) = dbl l := by
  rw [List.take_length] at h
  refine ⟨?_, ?_, by rw [h, dbl_jn]⟩
  · intro p hp
    have : p.1 ∈ l.map d1 := by rw [← h]; exact List.mem_map_of_mem hp
    obtain ⟨c, _, e⟩ := List.mem_map.mp this
    rw [← e]; unfold d1; split <;> simp
  · have := congrArg List.length h
    simp at this; omega
end Mine
open PySem PySem.W PyProof.Rows
set_option Elab.async false
namespace Mine
set_option maxRecDepth 100000
set_option maxHeartbeats 1000000
local macro_rules | `(tactic| walk_at "st") => `(tactic| first | (k_unfold; (try dsimp only)) | walk1 | (dsimp only; walk1) | (leave1; try dsimp only))
local macro_rules | `(tactic| walk_at "eval Name") => `(tactic| (k_here; (with_reducible show wpAny _ _ (eval (Expr.Name _ _) (compEnvC _ _ _ _)) _ _ _); k_dflt (first
  | (refine' cn_L ?N ?m ?o ?v ?_ ?k ?l ?d; (case k => rfl); (case l => rfl); (case d => rfl); (case N => k_asm); (case m => k_mem); (case o => assumption); (case v => assumption))
  | (refine' cn_C ?N ?c ?m ?d ?_ ?k ?l ?b; (case k => rfl); (case l => rfl); (case b => rfl); (case N => k_asm); (case c => rfl); (case m => k_mem); (case d => k_asm); k_whole)
  | (refine' cn_K ?g ?F ?X ?T ?e ?_ ?k ?l ?d; (case g => rfl); (case k => rfl); (case l => rfl); (case d => rfl); (case F => k_asm); (case X => k_asm); (case T => k_asm); (case e => k_is); k_whole)
  | (refine' cn_B ?g ?bb ?F ?X ?T ?e ?v ?n ?_ ?k ?l ?d; (case g => rfl); (case bb => rfl); (case k => rfl); (case l => rfl); (case d => rfl); (case F => k_asm); (case X => k_asm); (case T => k_asm); (case e => k_is); (case v => boot_fast); (case n => decide); k_whole))))
theorem d1_mark {c : Nat} (h : (S [c] == Str.ofString "\"") = true) : [34, 34] = d1 c := by
  rw [lit_mark, S_beq] at h
  have : c = 34 := by simpa using h
  simp [d1, this]
theorem d1_one {c : Nat} (h : (S [c] == Str.ofString "\"") = false) : [c] = d1 c := by
  rw [lit_mark, S_beq] at h
  have : c ≠ 34 := by simpa using h
  simp [d1, this]
theorem doubled_c (w : World) (mean : ExcName → Option Value) (mg mb : Str → Option Value) (l : List Nat) (t : Tok) :
    FnC 5 PySem.Challenge.rw_pg0070_01.row.prog w (hd.heap_39 w.params) hd.view_39 (looseW hd.view_39 []) mean mg mb 72 (l.length ≤ 100) [Value.str (S l) t]
      (fun v own => own = [] ∧ ∃ t1, v = .str (S (dbl l)) t1) := by
  k_fill
  w_top off
  unfold FnC
  intro dp un gd cn cs a ccd cl outer A₀ base h₀ L m news s Q E B F X N T hk hp hd1 hu ret
  refine wpAny_call ?_
  k_dflt cell_enter
  repeat' ((fail_if_success (with_reducible show wpAny _ _ (eval (Expr.ListComp _ _ _ _) _) _ _ _)); walk_at "st")
  refine cm_eval (by rfl) (by decide) (by rfl) (by decide) ?_
  repeat' ((fail_if_success (with_reducible show wpAny _ _ (pyIter _) _ _ _)); walk_at "st")
  (rename Fr _ _ _ _ => F8); (rename News _ _ _ _ => N8)
  refine ca_str (JD l) rfl (by omega) F8 N8 ⟨[], rfl, rfl⟩ (by rfl) (by rfl) ?_ ?_ (fun _ _ h => ⟨_, _, _, _, h⟩)
  · unfold TurnOf Turn0
    rintro i v ys C oC D h7 tk7 own k7 E7 mC hi ⟨c9, t9, hc9, rfl⟩ hJ hyl hmx hoC F7 N7
    try k_fold
    repeat' ((fail_if_success (with_reducible show CGo _ _ _ _ _ _ ∧ _)); walk_at "st")
    · (rename Fr _ _ _ _ => F3); (rename News _ _ _ _ => N3)
      rw [lit_two]
      exact ⟨⟨_, _, rfl, F3, N3⟩, jd_step hc9 (d1_mark (by assumption)) hJ⟩
    · (rename Fr _ _ _ _ => F3); (rename News _ _ _ _ => N3)
      exact ⟨⟨_, _, rfl, F3, N3⟩, jd_step hc9 (d1_one (by assumption)) hJ⟩
  intro ys D h6 tk6 k6 hJ hlt F6 N6
  obtain ⟨qf, rfl, hqf⟩ := hJ
  try k_fold
  repeat' ((fail_if_success (with_reducible show wpAny _ _ (call (Value.builtin "str.join") _) _ _ _)); walk_at "st")
  k_unfold
  try dsimp only
  rw [lit_nil]
  refine join_listS (B := 2) (led_isList (vs := sv qf) N6 (List.mem_cons_self ..)) (by simp) (jd_fit hqf hp).1 (by decide) (jd_fit hqf hp).2.1 ?_
  rw [(jd_fit hqf hp).2.2]
  intro tj kj
  repeat' (walk_at "st")
  exact ret _ [] _ _ ⟨rfl, _, rfl⟩ (fun _ _ _ h => nomatch h) (by assumption) (cb_drop (by assumption) (fun _ h => List.mem_cons_of_mem _ h))
end Mine
open PySem PySem.W PyProof.Rows
set_option Elab.async false
namespace Mine
set_option maxRecDepth 100000
set_option maxHeartbeats 1000000
local macro_rules | `(tactic| walk_at "st") => `(tactic| first | (k_unfold; (try dsimp only)) | walk1 | (dsimp only; walk1) | (leave1; try dsimp only))
/-- signs that a text can bear -/
def okT (l : List Nat) : Prop := ∀ c ∈ l, c < 1114112
theorem okT_nil : okT [] := fun _ h => nomatch h
theorem okT_one {c : Nat} (h : c < 1114112) : okT [c] := fun x hx => by rw [List.mem_singleton.mp hx]; exact h
theorem okT_app {a b : List Nat} (ha : okT a) (hb : okT b) : okT (a ++ b) := fun x hx => by
  rcases List.mem_append.mp hx with h | h
  · exact ha x h
  · exact hb x h
theorem okT_take {a : List Nat} (ha : okT a) (n : Nat) : okT (a.take n) := fun x hx => ha x (List.mem_of_mem_take hx)
theorem okT_dots : okT dots := by unfold okT; decide
theorem okT_mark : okT [34] := by unfold okT; decide
theorem okT_str {a : List Nat} (h : okT a) : PyData.strOk (S a) = true := by
  unfold PyData.strOk
  rw [Array.all_eq_true]
  intro i hi
  exact decide_eq_true (h _ (by simp))
theorem sign_item {prog : Program} {w : World} {A : Around} {E : Value → Shared → Prop} {s : Shared} {value slice : PySem.Expr} {x : Nat} {t u : Tok} {i : Int} {Q : Value → Shared → Prop} (h0 : 0 ≤ i) (h1 : i < 7) (hx : x < 1114112) (h : ∀ c tk tk', c < 1114112 → Q (.str (S [c]) tk) { s with toks := tk' })
    (hs : ∀ l : List Nat, subscripted slice false (.str (S l) t) (.int i u) = operate [.str (S l) t, .int i u] (getItem (.str (S l) t) (.int i u)) := by intro _; with_unfolding_all rfl)
    (ht : ∀ (l : List Nat) r, letTemporaryGo value (.str (S l) t) r = pure () := by intro _ _; with_unfolding_all rfl) :
    wpAny (model prog w) A (subscriptTail value slice (.str (Str.ofString "\"\"\"a. " ++ (⟨#[x]⟩ : Str)) t) (.int i u)) Q E s := by
  have e : Str.ofString "\"\"\"a. " ++ (⟨#[x]⟩ : Str) = S [34, 34, 34, 97, 46, 32, x] := by
    rw [show Str.ofString "\"\"\"a. " = S [34, 34, 34, 97, 46, 32] from by decide]
    show S [34, 34, 34, 97, 46, 32] ++ S [x] = _
    rw [S_app]; rfl
  rw [e]
  exact item_S h0 (by simp only [List.length_cons, List.length_nil]; omega) (by simp) (fun c tk tk' hc => h c tk tk' (by have := List.mem_of_getElem? hc; simp at this; omega)) (hs _) (ht _)
theorem code_ok {n : Int} (h0 : 0 ≤ n) (h1 : n < 125000) : (10 + n.fdiv 7).toNat < 1114112 := by
  rw [Int.fdiv_eq_ediv_of_nonneg _ (by decide)]; omega
theorem sign_c (w : World) (mean : ExcName → Option Value) (mg mb : Str → Option Value) (n : Int) (t : Tok) :
    FnC 3 PySem.Challenge.rw_pg0070_01.row.prog w (hd.heap_39 w.params) hd.view_39 (looseW hd.view_39 []) mean mg mb 60 (0 ≤ n ∧ n < 125000) [Value.int n t]
      (fun v own => own = [] ∧ ∃ c t1, c < 1114112 ∧ v = .str (S [c]) t1) := by
  k_fill
  w_top off
  unfold FnC
  intro dp un gd cn cs a ccd cl outer A₀ base h₀ L m news s Q E B F X N T hk hp hd1 hu ret
  obtain ⟨hn0, hn1⟩ := hp
  refine wpAny_call ?_
  k_dflt cell_enter
  repeat' ((fail_if_success (with_reducible show wpAny _ _ (subscriptTail _ _ _ _) _ _ _)); walk_at "st")
  refine sign_item (fmod_lo _ (by decide)) (fmod_hi _ (by decide)) (code_ok hn0 hn1) ?_
  intro c t7 k7 hc7
  repeat' (walk_at "st")
  exact ret _ [] _ _ ⟨rfl, _, _, hc7, rfl⟩ (fun _ _ _ h => nomatch h) (by assumption) (by assumption)
end Mine
open PySem PySem.W PyProof.Rows
set_option Elab.async false
namespace Mine
set_option maxRecDepth 100000
set_option maxHeartbeats 1000000
local macro_rules | `(tactic| walk_at "st") => `(tactic| first | (k_unfold; (try dsimp only)) | walk1 | (dsimp only; walk1) | (leave1; try dsimp only))
local macro_rules | `(tactic| walk_at "eval Name") => `(tactic| (k_here; (with_reducible show wpAny _ _ (eval (Expr.Name _ _) (compEnvC _ _ _ _)) _ _ _); k_dflt (first
  | (refine' cn_L ?N ?m ?o ?v ?_ ?k ?l ?d; (case k => rfl); (case l => rfl); (case d => rfl); (case N => k_asm); (case m => k_mem); (case o => assumption); (case v => assumption))
  | (refine' cn_C ?N ?c ?m ?d ?_ ?k ?l ?b; (case k => rfl); (case l => rfl); (case b => rfl); (case N => k_asm); (case c => rfl); (case m => k_mem); (case d => k_asm); k_whole)
  | (refine' cn_K ?g ?F ?X ?T ?e ?_ ?k ?l ?d; (case g => rfl); (case k => rfl); (case l => rfl); (case d => rfl); (case F => k_asm); (case X => k_asm); (case T => k_asm); (case e => k_is); k_whole)
  | (refine' cn_B ?g ?bb ?F ?X ?T ?e ?v ?n ?_ ?k ?l ?d; (case g => rfl); (case bb => rfl); (case k => rfl); (case l => rfl); (case d => rfl); (case F => k_asm); (case X => k_asm); (case T => k_asm); (case e => k_is); (case v => boot_fast); (case n => decide); k_whole))))
local macro_rules | `(tactic| walk_at "call builtin:len") => `(tactic| (k_here; (with_reducible show wpAny _ _ (call (Value.builtin "len") [Value.str (S _) _]) _ _ _); (refine len_S (by omega) ?_); intro _ _))
/-- places as values -/
def iv (q : List (Nat × Tok)) : List Value := q.map fun p => Value.int (p.1 : Int) p.2
theorem iv_len (q : List (Nat × Tok)) : (iv q).length = q.length := by simp [iv]
theorem iv_app (p q : List (Nat × Tok)) : iv (p ++ q) = iv p ++ iv q := by simp [iv]
theorem iv_get {q : List (Nat × Tok)} {i : Nat} {v : Value} (h : (iv q)[i]? = some v) : ∃ p, q[i]? = some p ∧ v = Value.int (p.1 : Int) p.2 := by
  simp only [iv, List.getElem?_map, Option.map_eq_some_iff] at h
  obtain ⟨p, h1, h2⟩ := h
  exact ⟨p, h1, h2.symm⟩
def JR (ps : List Nat) (i : Nat) (ys : List Value) : Prop := ∃ q, ys = iv q ∧ q.map (·.1) = (List.range i).filter fun x => match ps with | [] => false | p :: _ => decide (p ≤ x)
theorem led_isListI {h₀ hh : Heap} {L D : Addr} {n : Nat} {vs : List Value} {news : List (Addr × Obj)} (N : News h₀ L hh news) (hm : (D, listOf vs.toArray n) ∈ news) : hh.IsList D vs.toArray := ⟨_, (N _ hm).1, rfl, n, rfl⟩
theorem truthy_iv {prog : Program} {w : World} {A : Around} {E : Value → Shared → Prop} {s : Shared} {D : Addr} {q : List (Nat × Tok)} {Q : Bool → Shared → Prop} (hl : s.heap.IsList D (iv q).toArray) (hq : q.length ≤ 1000) (h : ∀ k, Q (!q.isEmpty) { s with toks := k }) : wpAny (model prog w) A (PySem.truthy (.ref D)) Q E s := by
  refine wpAny_truthy_list hl (by rw [List.size_toArray, iv_len]; omega) ?_
  have e : (iv q).toArray.isEmpty = q.isEmpty := by cases q <;> simp [iv]
  rw [e]; exact h _
local macro_rules | `(tactic| walk_at "WPost") => `(tactic| (dsimp only [WPost]))
theorem slice_cast (a : List Nat) (i k : Nat) : Txt.slice (S a) (some (i : Int)) (some ((i : Int) + (k : Int))) = S ((a.drop i).take k) := by
  rw [show (i : Int) + (k : Int) = ((i + k : Nat) : Int) by omega, S_slice_nat, Nat.add_sub_cancel_left]
theorem pl_dots {a b ps : List Nat} {i : Nat} (h : (Txt.slice (S a) (some (i : Int)) (some ((i : Int) + 3)) == Str.ofString "...") = true) : i + 3 ≤ a.length ∧ plc b (a.drop i) ps = plc b (a.drop (i + 3)) (stepD b ps) := by
  have e := slice_cast a i 3
  rw [show ((3 : Nat) : Int) = 3 from rfl] at e
  rw [e, lit_dots, S_beq, beq_iff_eq] at h
  have hl := congrArg List.length h
  simp [dots] at hl
  refine ⟨by omega, ?_⟩
  have h2 : a.drop i = 46 :: 46 :: 46 :: a.drop (i + 3) := by
    have := List.take_append_drop 3 (a.drop i)
    rw [h, List.drop_drop] at this
    exact this.symm
  rw [h2, plc_dots]
theorem pl_one {a b ps : List Nat} {i c : Nat} (h : (Txt.slice (S a) (some (i : Int)) (some ((i : Int) + 3)) == Str.ofString "...") = false) (hc : a[i]? = some c) : plc b (a.drop i) ps = plc b (a.drop (i + 1)) (stepC b ps c) := by
  have e := slice_cast a i 3
  rw [show ((3 : Nat) : Int) = 3 from rfl] at e
  rw [e, lit_dots, S_beq, beq_eq_false_iff_ne] at h
  have hi := get_lt hc
  have h2 : a.drop i = c :: a.drop (i + 1) := by
    rw [List.drop_eq_getElem_cons hi]
    rw [List.getElem?_eq_getElem hi] at hc
    rw [Option.some.inj hc]
  rw [h2] at h ⊢
  rw [plc_one h]
theorem jr_end {b ps : List Nat} {ys : List Value} (h : JR ps (b.length + 1) ys) : ∃ q, ys = iv q ∧ q.map (·.1) = stepD b ps := by
  obtain ⟨q, h1, h2⟩ := h
  exact ⟨q, h1, by rw [h2]; unfold stepD; cases ps <;> rfl⟩
theorem jr_step {ps : List Nat} {i : Nat} {ys : List Value} {t : Tok} {p : Nat} {r : List Nat} (hp : ps = p :: r) (h : JR ps i ys) (hc : p ≤ i) : JR ps (i + 1) (ys ++ [Value.int (i : Int) t]) := by
  obtain ⟨q, rfl, hq⟩ := h
  refine ⟨q ++ [(i, t)], by rw [iv_app]; rfl, ?_⟩
  subst hp
  rw [List.map_append, hq, List.range_succ, List.filter_append]
  simp [hc]
theorem jr_stepZ {i : Nat} {ys : List Value} {t : Tok} {p : Nat × Tok} {r : List (Nat × Tok)} (h : JR ((p :: r).map (·.1)) i ys) (hc : (p.1 : Int) ≤ 0 + (i : Int) * 1) : JR ((p :: r).map (·.1)) (i + 1) (ys ++ [Value.int (0 + (i : Int) * 1) t]) := by
  have e : (0 : Int) + (i : Int) * 1 = (i : Int) := by omega
  rw [e] at hc ⊢
  exact jr_step (p := p.1) (r := r.map (·.1)) rfl h (by omega)
theorem jr_skip {ps : List Nat} {i : Nat} {ys : List Value} (hc : ∀ p r, ps = p :: r → ¬ p ≤ i) (h : JR ps i ys) : JR ps (i + 1) ys := by
  obtain ⟨q, rfl, hq⟩ := h
  refine ⟨q, rfl, ?_⟩
  rw [hq, List.range_succ, List.filter_append]
  cases ps with
  | nil => simp
  | cons p r => have := hc p r rfl; simp [this]
theorem jr_skipZ {i : Nat} {ys : List Value} {p : Nat × Tok} {r : List (Nat × Tok)} (h : JR ((p :: r).map (·.1)) i ys) (hc : ¬ (p.1 : Int) ≤ 0 + (i : Int) * 1) : JR ((p :: r).map (·.1)) (i + 1) ys := by
  refine jr_skip (fun q r' e => ?_) h
  rw [List.map_cons] at e
  injection e with e _
  subst e
  omega
def JC (b : List Nat) (c : Nat) (qs : List (Nat × Tok)) (i : Nat) (ys : List Value) : Prop := ∃ q, ys = iv q ∧ q.map (·.1) = stepC b ((qs.take i).map (·.1)) c
theorem one_eq {b : List Nat} {p c : Nat} : (Txt.slice (S b) (some (p : Int)) (some ((p : Int) + 1)) == S [c]) = decide (b[p]? = some c) := by
  have e := slice_cast b p 1
  rw [show ((1 : Nat) : Int) = 1 from rfl] at e
  rw [e, S_beq]
  rcases Nat.lt_or_ge p b.length with h | h
  · have e2 : (b.drop p).take 1 = [b[p]] := by rw [List.drop_eq_getElem_cons h]; rfl
    rw [e2, List.getElem?_eq_getElem h]
    by_cases h2 : b[p] = c <;> simp [h2]
  · rw [List.drop_eq_nil_of_le h, List.getElem?_eq_none h]; rfl
theorem jc_yes {b : List Nat} {c i : Nat} {qs : List (Nat × Tok)} {ys : List Value} {t : Tok} {p : Nat × Tok} (hp : qs[i]? = some p) (h : JC b c qs i ys) (hc : (Txt.slice (S b) (some (p.1 : Int)) (some ((p.1 : Int) + 1)) == S [c]) = true) : JC b c qs (i + 1) (ys ++ [Value.int ((p.1 : Int) + 1) t]) := by
  obtain ⟨q, rfl, hq⟩ := h
  rw [one_eq] at hc
  refine ⟨q ++ [(p.1 + 1, t)], by rw [iv_app]; rfl, ?_⟩
  rw [List.map_append, hq, List.take_add_one, hp]
  unfold stepC
  simp [of_decide_eq_true hc]
theorem jc_no {b : List Nat} {c i : Nat} {qs : List (Nat × Tok)} {ys : List Value} {p : Nat × Tok} (hp : qs[i]? = some p) (h : JC b c qs i ys) (hc : (Txt.slice (S b) (some (p.1 : Int)) (some ((p.1 : Int) + 1)) == S [c]) = false) : JC b c qs (i + 1) ys := by
  obtain ⟨q, rfl, hq⟩ := h
  rw [one_eq] at hc
  refine ⟨q, rfl, ?_⟩
  rw [hq, List.take_add_one, hp]
  unfold stepC
  simp [of_decide_eq_false hc]
theorem stepC_len {b ps : List Nat} {c : Nat} : (stepC b ps c).length ≤ ps.length := by
  unfold stepC; rw [List.length_map]; exact List.length_filter_le _ _
theorem stepD_len {b ps : List Nat} : (stepD b ps).length ≤ b.length + 1 := by
  unfold stepD; exact Nat.le_trans (List.length_filter_le _ _) (by rw [List.length_range]; exact Nat.le_refl _)
theorem pl_lenD {b ps : List Nat} {q : List (Nat × Tok)} (h : q.map (·.1) = stepD b ps) (hb : b.length ≤ 100) : q.length ≤ 101 := by
  have e := congrArg List.length h
  rw [List.length_map] at e
  have := stepD_len (b := b) (ps := ps)
  omega
theorem pl_lenC {b : List Nat} {c : Nat} {q qs : List (Nat × Tok)} (h : q.map (·.1) = stepC b (qs.map (·.1)) c) (hb : qs.length ≤ 101) : q.length ≤ 101 := by
  have e := congrArg List.length h
  rw [List.length_map] at e
  have := stepC_len (b := b) (ps := qs.map (·.1)) (c := c)
  rw [List.length_map] at this
  omega
theorem jc_end {b : List Nat} {c n : Nat} {qs : List (Nat × Tok)} {ys : List Value} (h : JC b c qs n ys) (hn : n = qs.length) : ∃ q, ys = iv q ∧ q.map (·.1) = stepC b (qs.map (·.1)) c := by
  obtain ⟨q, h1, h2⟩ := h
  rw [hn, List.take_length] at h2
  exact ⟨q, h1, h2⟩
/-- the ledger at the loop -/
theorem pl_mem {x x' c4 c3 c2 c1 : Addr × Obj} {news : List (Addr × Obj)} : ∀ p ∈ x :: c4 :: c3 :: c2 :: c1 :: news, p ∈ x :: x' :: c4 :: c3 :: c2 :: c1 :: news := by
  intro p hp
  rcases List.mem_cons.mp hp with rfl | hp
  · exact List.mem_cons_self ..
  · exact List.mem_cons_of_mem _ (List.mem_cons_of_mem _ hp)
def PlLed (L : Addr) (ow og : Obj) (news : List (Addr × Obj)) (q : List (Nat × Tok)) (D : Addr) (n : Nat) (oa op : Obj) : List (Addr × Obj) :=
  (D, listOf (iv q).toArray n) :: (L + 1 + 1 + 1 + 1, oa) :: (L + 1 + 1 + 1, op) :: (L + 1 + 1, og) :: (L + 1, ow) :: news
def PlPack (h₀ : Heap) (L : Addr) (h : Heap) (news : List (Addr × Obj)) (a b : List Nat) (t u : Tok) : Prop :=
  ∃ (D : Addr) (oa op og ow : Obj) (ta tp : Tok) (m : Str → Option Value), Fr h₀ L h m ∧ News h₀ L h (PlLed L ow og news [(0, tp)] D 0 oa op) ∧ (oa.data = .cell (some (.int ((0 : Nat) : Int) ta)) ∧ op.data = .cell (some (.ref D))) ∧ og.data = .cell (some (.str (S b) u)) ∧ ow.data = .cell (some (.str (S a) t)) ∧ @LT.lt Nat _ (L + 1 + 1 + 1 + 1) D
theorem pl_pack {h₀ : Heap} {L : Addr} {h : Heap} {news : List (Addr × Obj)} {a b : List Nat} {t u ta tp : Tok} {D D' : Addr} {oT oa op og ow : Obj} {m : Str → Option Value} (F : Fr h₀ L h m)
    (N : News h₀ L h ((D', oT) :: (D, listOf #[Value.int 0 tp] 0) :: (L + 1 + 1 + 1 + 1, oa) :: (L + 1 + 1 + 1, op) :: (L + 1 + 1, og) :: (L + 1, ow) :: news)) (e1 : oa.data = .cell (some (.int 0 ta))) (e2 : op.data = .cell (some (.ref D))) (e3 : og.data = .cell (some (.str (S b) u))) (e4 : ow.data = .cell (some (.str (S a) t))) (hD : @LT.lt Nat _ (L + 1 + 1 + 1 + 1) D) : PlPack h₀ L h news a b t u :=
  ⟨D, oa, op, og, ow, ta, tp, m, F, cb_drop N (fun _ h => List.mem_cons_of_mem _ h), ⟨e1, e2⟩, e3, e4, hD⟩
theorem all_ne_lt {news : List (Addr × Obj)} {b d : Addr} (h : ∀ p ∈ news, p.1 < b) (hbd : @LE.le Nat _ b d) : ∀ p ∈ news, p.1 ≠ d := fun p hp e => absurd (h p hp) (by rw [e]; exact Nat.not_lt.mpr hbd)
local macro_rules | `(tactic| k_all) => `(tactic| (refine all_ne_lt (by assumption) ?_; omega))
theorem places_c (w : World) (mean : ExcName → Option Value) (mg mb : Str → Option Value) (a b : List Nat) (t u : Tok) :
    FnC 5 PySem.Challenge.rw_pg0070_01.row.prog w (hd.heap_39 w.params) hd.view_39 (looseW hd.view_39 []) mean mg mb 77 (a.length ≤ 100 ∧ b.length ≤ 100) [Value.str (S a) t, Value.str (S b) u]
      (fun v own => ∃ (D : Addr) (q : List (Nat × Tok)) (n : Nat), v = .ref D ∧ own = [(D, listOf (iv q).toArray n)] ∧ q.map (·.1) = plc b a [0] ∧ q.length ≤ 101) := by
  k_fill
  w_top off
  unfold FnC
  intro dp un gd cn cs a' ccd cl outer A₀ base h₀ L m news s Q E B F X N T hk hp hd1 hu ret
  refine wpAny_call ?_
  k_dflt (refine' code_defC ?k1 ?k2 ?k3 ?k4 ?k5 ?kA ?kF ?kK ?k6 ?k7 ?k8 ?k9 ?kB ?kD ?_ ?c2 ?c3 ?c4; (case kA => exact rfl); (case kF => exact rfl); (case kK => assumption); (case k1 => k_asm); (case k2 => k_asm); (case k3 => k_asm); (case k4 => k_asm); (case k5 => k_asm); (case k6 => k_is); (case k7 => k_is); (case k8 => ktr_room); (case k9 => exact BindsTo.of_eq rfl); (case kB => exact rfl); (case kD => decide +kernel); (case c2 => exact rfl); (case c3 => exact rfl); (case c4 => exact rfl); k_whole; intro g' L' h' tk' cells' FG' F' N' Y' B' X' T' l1; (try k_lt l1); k_cells Y'; (try simp only [List.cons_append, List.nil_append] at N'); (try dsimp only); (try k_lift B'); (try k_fold))
  repeat' ((fail_if_success (with_reducible show wpAny _ _ (exec (Stmt.While _ _ _ _) _) _ _ _)); walk_at "st")
  (rename Fr _ _ _ _ => F8); (rename News _ _ _ _ => N8)
  obtain ⟨D, oa, op, og, ow, ta, tp, m8, F7, N7, he, hog, how, hDL⟩ : PlPack _ _ _ news a b t u := pl_pack F8 N8 (by assumption) (by assumption) (by assumption) (by assumption) (by omega)
  clear F8 N8
  obtain ⟨hal, hbl⟩ := hp
  refine w_while (σ := List (Nat × Tok) × Nat × Addr × Nat × Obj × Obj × Tok) (fun c => PlLed L' ow og news c.1 c.2.2.1 c.2.2.2.1 c.2.2.2.2.1 c.2.2.2.2.2.1) (fun _ => [])
    (fun c => (c.2.2.2.2.1.data = .cell (some (.int (c.2.1 : Int) c.2.2.2.2.2.2)) ∧ c.2.2.2.2.2.1.data = .cell (some (.ref c.2.2.1))) ∧ @LT.lt Nat _ (L' + 1 + 1 + 1 + 1) c.2.2.1 ∧ c.2.1 ≤ a.length ∧ (∀ p ∈ c.1, p.1 ≤ b.length) ∧ c.1.length ≤ 101 ∧ plc b (a.drop c.2.1) (c.1.map (·.1)) = plc b a [0])
    (fun c => a.length - c.2.1) ([(0, tp)], 0, D, 0, oa, op, ta) F7 N7 (List.forall_mem_nil _) ⟨he, hDL, Nat.zero_le _, by simp, by simp, rfl⟩ ?turn
  clear F7 N7 he hDL
  rintro ⟨qs, at9, D, n, oa, op, ta⟩ u9 h9 tk9 ⟨⟨hoa, hop⟩, hDL, hat, hqb, hql, hpl⟩ F9 N9
  dsimp only at hoa hop hDL hat hqb hql hpl N9 F9
  unfold PlLed at N9
  try k_fold
  repeat' ((fail_if_success (with_reducible show wpAny _ _ (eval (Expr.ListComp _ _ _ _) _) _ _ _)); walk_at "st")
  · (rename Fr _ _ _ _ => F8); (rename News _ _ _ _ => N8)
    (rename (_ == _) = true => hdots)
    refine cm_eval (by rfl) (by decide) (by rfl) (by decide) ?_
    repeat' ((fail_if_success (with_reducible show wpAny _ _ (pyIter _) _ _ _)); walk_at "st")
    (rename Fr _ _ _ _ => F7); (rename News _ _ _ _ => N7)
    refine ca_range (n := b.length + 1) (JR (qs.map (·.1))) rfl (by assumption) (small_one (by omega) (by omega) (by omega) (by omega)) (by rw [rangeSize_nat]; omega) (by omega) F7 N7 ⟨[], rfl, rfl⟩ (by rfl) (by rfl) ?_ ?_ (fun _ _ h => ⟨_, _, _, _, h⟩)
    · unfold TurnOf Turn1
      rintro i v ys C oC D7 h7 tk7 own k7 E7 mC hi ⟨tv, rfl⟩ hJ hyl hmx hoC F7 N7
      simp only [List.cons_append, List.nil_append] at N7 ⊢
      try k_fold
      repeat' ((fail_if_success (with_reducible show CGo _ _ _ _ _ _ ∧ _)); (fail_if_success (with_reducible show wpAny _ _ (truthy (Value.ref _)) _ _ _)); walk_at "st")
      refine truthy_iv (q := qs) (led_isListI N7 (List.Mem.tail _ (List.Mem.tail _ (List.Mem.head _)))) (by omega) ?_
      intro tk8
      cases qs with
      | nil =>
        rw [show (!([] : List (Nat × Tok)).isEmpty) = false from rfl]
        repeat' ((fail_if_success (with_reducible show CGo _ _ _ _ _ _ ∧ _)); walk_at "st")
        exact ⟨⟨_, _, rfl, by assumption, by assumption⟩, jr_skip (by intro p r h; cases h) hJ⟩
      | cons p9 qs9 =>
        rw [show (!(p9 :: qs9).isEmpty) = true from rfl]
        repeat' ((fail_if_success (with_reducible show CGo _ _ _ _ _ _ ∧ _)); (fail_if_success (with_reducible show wpAny _ _ (subscriptTail _ _ _ _) _ _ _)); walk_at "st")
        (try k_unfold); (try dsimp only)
        refine item_at (led_isListI N7 (List.Mem.tail _ (List.Mem.tail _ (List.Mem.head _)))) (by decide) (by decide) rfl ?_
        repeat' ((fail_if_success (with_reducible show CGo _ _ _ _ _ _ ∧ _)); walk_at "st")
        · exact ⟨⟨_, _, rfl, by assumption, by assumption⟩, jr_stepZ hJ (by assumption)⟩
        · exact ⟨⟨_, _, rfl, by assumption, by assumption⟩, jr_skipZ hJ (by assumption)⟩
    · intro ys D6 h6 tk6 k6 hJ6 hlt6 F6 N6
      k_lt hlt6
      obtain ⟨q6, rfl, hq6⟩ := jr_end (b := b) hJ6
      obtain ⟨ha3, hp3⟩ := pl_dots (b := b) (ps := qs.map (·.1)) hdots
      dsimp only
      repeat' ((fail_if_success (with_reducible show WEnd _ _ _ _ _ _ _ _ _)); walk_at "st")
      refine ⟨(q6, at9 + 3, D6, k6, _, _, _), _, _, _, rfl, by assumption, cb_drop (by assumption) pl_mem, (List.forall_mem_nil _), ⟨⟨by assumption, by assumption⟩, by dsimp only; omega, ha3, ?_, ?_, ?_⟩, by dsimp only; omega⟩
      · exact fun x hx => stepD_le x.1 (by rw [← hq6]; exact List.mem_map_of_mem hx)
      · exact pl_lenD hq6 hbl
      · rw [hq6, ← hp3]; exact hpl
  · (rename Fr _ _ _ _ => F8); (rename News _ _ _ _ => N8)
    (rename (_ == _) = false => hdots)
    obtain ⟨c9, hc9⟩ : ∃ c, a[at9]? = some c := ⟨_, List.getElem?_eq_getElem (by omega)⟩
    refine cm_eval (by rfl) (by decide) (by rfl) (by decide) ?_
    repeat' ((fail_if_success (with_reducible show wpAny _ _ (pyIter _) _ _ _)); walk_at "st")
    (rename Fr _ _ _ _ => F7); (rename News _ _ _ _ => N7)
    refine ca_list (vs := iv qs) (JC b c9 qs) rfl (led_isListI N7 (List.Mem.head _)) (N7 _ (List.Mem.head _)).2.1 (by rw [iv_len]; omega) F7 N7 ⟨[], rfl, rfl⟩ (by rfl) (by rfl) ?_ ?_ (fun _ _ h => ⟨_, _, _, _, h⟩)
    · unfold TurnOf Turn1
      rintro i v ys C oC D7 h7 tk7 own k7 E7 mC hi hv hJ hyl hmx hoC F7 N7
      obtain ⟨p9, hp9, rfl⟩ := iv_get hv
      simp only [List.cons_append, List.nil_append] at N7 ⊢
      try k_fold
      repeat' ((fail_if_success (with_reducible show CGo _ _ _ _ _ _ ∧ _)); (fail_if_success (with_reducible show wpAny _ _ (subscriptTail _ _ (Value.str (S a) _) _) _ _ _)); walk_at "st")
      refine item_S (by omega) (by omega) (by omega) ?_
      intro c8 t8 k8 hc8
      obtain rfl : c9 = c8 := by rw [Int.toNat_natCast, hc9] at hc8; exact Option.some.inj hc8
      repeat' ((fail_if_success (with_reducible show CGo _ _ _ _ _ _ ∧ _)); walk_at "st")
      · exact ⟨⟨_, _, rfl, by assumption, by assumption⟩, jc_yes hp9 hJ (by assumption)⟩
      · exact ⟨⟨_, _, rfl, by assumption, by assumption⟩, jc_no hp9 hJ (by assumption)⟩
    · intro ys D6 h6 tk6 k6 hJ6 hlt6 F6 N6
      k_lt hlt6
      obtain ⟨q6, rfl, hq6⟩ := jc_end hJ6 (iv_len qs)
      have hp3 := pl_one (b := b) (ps := qs.map (·.1)) hdots hc9
      dsimp only
      repeat' ((fail_if_success (with_reducible show WEnd _ _ _ _ _ _ _ _ _)); walk_at "st")
      refine ⟨(q6, at9 + 1, D6, k6, _, _, _), _, _, _, rfl, by assumption, cb_drop (by assumption) pl_mem, (List.forall_mem_nil _), ⟨⟨by assumption, by assumption⟩, by dsimp only; omega, by dsimp only; omega, ?_, ?_, ?_⟩, by dsimp only; omega⟩
      · exact fun x hx => stepC_le x.1 (by rw [← hq6]; exact List.mem_map_of_mem hx)
      · exact pl_lenC hq6 hql
      · rw [hq6, ← hp3]; exact hpl
  · rename_i hge
    (rename News h₀ L _ _ => kN)
    have kN2 : News h₀ L h9 ([(D, listOf (iv qs).toArray n)] ++ news) := cb_drop kN (fun p h => by
      rcases List.mem_append.mp h with h | h
      · rw [List.mem_singleton.mp h]; exact List.mem_cons_self ..
      · exact List.mem_cons_of_mem _ (List.mem_cons_of_mem _ (List.mem_cons_of_mem _ (List.mem_cons_of_mem _ (List.mem_cons_of_mem _ h)))))
    refine ret _ [(D, listOf (iv qs).toArray n)] _ _ ⟨D, qs, n, rfl, rfl, ?_, hql⟩ ?_ (by assumption) kN2
    · rw [← hpl, List.drop_eq_nil_of_le (by omega), plc_nil]
    · intro p hp q hq
      rw [List.mem_singleton.mp hq]
      have := l1 p hp
      exact Nat.ne_of_lt (Nat.lt_trans this (by omega))
end Mine
open PySem PySem.W PyProof.Rows
set_option Elab.async false
namespace Mine
set_option maxRecDepth 100000
set_option maxHeartbeats 1000000
local macro_rules | `(tactic| walk_at "st") => `(tactic| first | (k_unfold; (try dsimp only)) | walk1 | (dsimp only; walk1) | (leave1; try dsimp only))
local macro_rules | `(tactic| walk_at "FPost") => `(tactic| (dsimp only [FPost]))
/-- a call's contract that speaks of the ledger -/
def FnN (lv : Nat) (prog : Program) (w : World) (K : Frag) (p : Program) (loose : List Str) (mean : ExcName → Option Value) (mg mb : Str → Option Value) (f : Addr) (pre : List (Addr × Obj) → Prop) (vs : List Value) (Post : Value → List (Addr × Obj) → Prop) : Prop :=
  ∀ (dp un : Nat) (gd : Option (List Code)) (cn : Str) (cs : Scope) (a : Addr) (ccd : Value) (cl : List (Str × Addr)) (outer : List Env) (A₀ : Around) (base h₀ : Heap) (L : Addr) (m : Str → Option Value) (news : List (Addr × Obj)) (s : Shared) (Q E : Value → Shared → Prop),
    Below A₀ base outer h₀ → Fr h₀ L s.heap m → K.In h₀ → News h₀ L s.heap news → Top p loose mean mg mb h₀ → cs.kind = .function → pre news → dp + lv < recursionLimit → un + 10 * lv < cLine →
    (∀ v own h' tk', Post v own → (∀ p ∈ news, ∀ q ∈ own, p.1 ≠ q.1) → Fr h₀ L h' m → News h₀ L h' (own ++ news) → Q v { s with heap := h', toks := tk' }) →
    wpAny (model prog w) (ktrTop dp un gd cn cs L a ccd cl outer) (call (.ref f) vs) Q E s
/-- ints as values -/
def nv (q : List (Int × Tok)) : List Value := q.map fun p => Value.int p.1 p.2
theorem nv_len (q : List (Int × Tok)) : (nv q).length = q.length := by simp [nv]
theorem nv_app (p q : List (Int × Tok)) : nv (p ++ q) = nv p ++ nv q := by simp [nv]
theorem nv_get {q : List (Int × Tok)} {i : Nat} {v : Value} (h : (nv q)[i]? = some v) : ∃ p ∈ q, v = Value.int p.1 p.2 := by
  simp only [nv, List.getElem?_map, Option.map_eq_some_iff] at h
  obtain ⟨p, h1, h2⟩ := h
  exact ⟨p, List.mem_of_getElem? h1, h2.symm⟩
theorem led_one {h₀ h : Heap} {L D : Addr} {news : List (Addr × Obj)} {o o' : Obj} (N : News h₀ L h news) (h1 : (D, o) ∈ news) (h2 : (D, o') ∈ news) : o' = o := by
  have e1 := (N _ h1).1
  have e2 := (N _ h2).1
  dsimp only at e1 e2
  rw [e1] at e2
  exact (Option.some.inj e2).symm
def upTo (l : List Nat) (z : Int) : List Nat := l.take (clipN (some z) l.length l.length)
theorem S_upTo (l : List Nat) (z : Int) : Txt.slice (S l) none (some z) = S (upTo l z) := by
  rw [S_slice]; unfold upTo clipN; simp
theorem upTo_len (l : List Nat) (z : Int) : (upTo l z).length ≤ l.length := by unfold upTo; rw [List.length_take]; omega
local macro_rules | `(tactic| walk_at "binaryOp Add str str") => `(tactic| (k_here; (with_reducible show wpAny _ _ (binaryOp Operator.Add (Value.str _ _) (Value.str _ _)) _ _ _); (refine add_X (by first | exact lit_dots | exact lit_mark | exact rfl) (by first | exact S_upTo _ _ | exact lit_dots | exact lit_mark | exact rfl) (by (try simp only [List.length_append, dots_len, List.length_cons, List.length_nil]); omega) ?_); intro _ _))
theorem div_in {z : Int} (h0 : 0 ≤ z) (h1 : z < 1000000) : 0 ≤ z.fdiv 8 ∧ z.fdiv 8 < 125000 := by
  rw [Int.fdiv_eq_ediv_of_nonneg _ (by decide)]; omega
theorem div_in2 {z : Int} (h0 : 0 ≤ z) (h1 : z < 1000000) : 0 ≤ (z.fdiv 8).fdiv 7 ∧ (z.fdiv 8).fdiv 7 < 125000 := by
  rw [Int.fdiv_eq_ediv_of_nonneg _ (by decide), Int.fdiv_eq_ediv_of_nonneg _ (by decide)]; omega
theorem names_c (w : World) (mean : ExcName → Option Value) (mg mb : Str → Option Value) (lN : Addr) (qn : List (Int × Tok)) (nn : Nat) :
    FnN 6 PySem.Challenge.rw_pg0070_01.row.prog w (hd.heap_39 w.params) hd.view_39 (looseW hd.view_39 []) mean mg mb 67 (fun news => (lN, listOf (nv qn).toArray nn) ∈ news ∧ qn.length ≤ 7 ∧ ∀ p ∈ qn, 0 ≤ p.1 ∧ p.1 < 1000000) [Value.ref lN]
      (fun v own => ∃ (D : Addr) (a b : List Nat) (t1 t2 : Tok), v = .ref D ∧ own = [(D, tupOf [Value.str (S a) t1, Value.str (S b) t2])] ∧ a.length ≤ 21 ∧ b.length ≤ 14 ∧ okT a ∧ okT b) := by
  k_fill
  w_top off
  unfold FnN
  intro dp un gd cn cs a ccd cl outer A₀ base h₀ L m news s Q E B F X N T hk hp hd1 hu ret
  obtain ⟨hmem, hql, hqb⟩ := hp
  refine wpAny_call ?_
  k_dflt cell_enter
  repeat' ((fail_if_success (with_reducible show wpAny _ _ (exec (Stmt.For _ _ _ _ _) _) _ _ _)); walk_at "st")
  (rename Fr _ _ _ _ => F9); (rename News _ _ _ _ => N9)
  replace N9 := cb_drop (news := news) N9 (fun p hp => List.mem_cons_of_mem _ hp)
  refine w_for F9 (by rfl) (by rfl) ?_
  repeat' ((fail_if_success (with_reducible show wpAny _ _ (pyIter _) _ _ _)); walk_at "st")
  (rename Fr _ _ _ _ => F8); (rename News _ _ _ _ => N8)
  refine f_list (vs := nv qn) (σ := List Nat × List Nat × Tok × Tok) (fun _ => news) (fun c => [(Str.ofString "want", Value.str (S c.1) c.2.2.1), (Str.ofString "got", Value.str (S c.2.1) c.2.2.2)])
    (fun i c => c.1.length ≤ 3 * i ∧ c.2.1.length ≤ 2 * i ∧ okT c.1 ∧ okT c.2.1) ([], [], _, _) rfl rfl ⟨nn, rfl⟩ (fun _ => hmem) (fun _ o ho => led_one N8 hmem ho) F8 N8
      (List.forall_mem_cons.mpr ⟨rfl, List.forall_mem_cons.mpr ⟨rfl, List.forall_mem_nil _⟩⟩) ⟨Nat.zero_le _, Nat.zero_le _, okT_nil, okT_nil⟩ ?_ ?_
  · rintro i v ⟨a9, b9, ta, tb⟩ u9 h9 tk9 I oI hv ⟨g1, g2, g3, g4⟩ hne F9 N9
    have hi : i < qn.length := by
      have := List.getElem?_eq_some_iff.mp hv
      obtain ⟨h1, _⟩ := this
      rwa [nv_len] at h1
    obtain ⟨⟨z, tz⟩, hz, rfl⟩ := nv_get hv
    obtain ⟨hz0, hz1⟩ := hqb _ hz
    dsimp only at g1 g2 g3 g4 F9 hz0 hz1
    try k_fold
    repeat' ((fail_if_success (with_reducible show wpAny _ _ (call (Value.ref _) _) _ _ _)); walk_at "st")
    k_dflt (refine fn_use (sign_c w mean mg mb (z.fdiv 8) _) (by assumption) (by assumption) (by assumption) (by assumption) (by assumption) rfl (div_in hz0 hz1) (by dsimp only; omega) (by dsimp only; omega) ?_)
    rintro v own h7 tk7 ⟨rfl, c7, t7, hc7, rfl⟩ hD F7 N7
    rw [List.nil_append] at N7
    repeat' ((fail_if_success (with_reducible show wpAny _ _ (call (Value.ref _) _) _ _ _)); (fail_if_success (with_reducible show FEnd _ _ _ _ _ _ _ _ _)); walk_at "st")
    rotate_left 1
    k_dflt (refine fn_use (sign_c w mean mg mb ((z.fdiv 8).fdiv 7) _) (by assumption) (by assumption) (by assumption) (by assumption) (by assumption) rfl (div_in2 hz0 hz1) (by dsimp only; omega) (by dsimp only; omega) ?_)
    rintro v own h6 tk6 ⟨rfl, c6, t6, hc6, rfl⟩ hD6 F6 N6
    rw [List.nil_append] at N6
    have hup : (upTo ([c7] ++ [c6]) ((z.fdiv 8).fmod 3)).length ≤ 2 := upTo_len _ _
    repeat' ((fail_if_success (with_reducible show wpAny _ _ (binaryOp _ _ (Value.str (Txt.slice _ _ _) _)) _ _ _)); walk_at "st")
    (try k_unfold); (try dsimp only)
    rw [S_upTo]
    have hupk : okT (upTo ([c7] ++ [c6]) ((z.fdiv 8).fmod 3)) := okT_take (okT_app (okT_one hc7) (okT_one hc6)) _
    generalize upTo ([c7] ++ [c6]) ((z.fdiv 8).fmod 3) = up at hup hupk ⊢
    repeat' ((fail_if_success (with_reducible show wpAny _ _ (call (Value.ref _) _) _ _ _)); (fail_if_success (with_reducible show FEnd _ _ _ _ _ _ _ _ _)); walk_at "st")
    all_goals (
      (rename Fr _ _ _ _ => F5); (rename News _ _ _ _ => N5)
      first
        | exact ⟨(_, _, _, _), _, _, _, rfl, F5, cb_drop N5 (fun p hp => List.mem_cons_of_mem _ hp), hne, (List.forall_mem_cons.mpr ⟨rfl, List.forall_mem_cons.mpr ⟨rfl, List.forall_mem_nil _⟩⟩), ⟨by (try simp only [List.length_append, dots_len, List.length_cons, List.length_nil]); omega, by (try simp only [List.length_append, List.length_cons, List.length_nil]); omega, (by first | exact g3 | exact g4 | exact okT_app g3 (okT_one hc7) | exact okT_app g4 (okT_one hc7) | exact okT_app g3 okT_dots | exact okT_app g4 okT_mark | exact okT_app g4 hupk), (by first | exact g3 | exact g4 | exact okT_app g3 (okT_one hc7) | exact okT_app g4 (okT_one hc7) | exact okT_app g3 okT_dots | exact okT_app g4 okT_mark | exact okT_app g4 hupk)⟩⟩
        | exact ⟨(_, _, _, _), _, _, _, rfl, F5, cb_drop N5 (fun p hp => List.mem_cons_of_mem _ (List.mem_cons_of_mem _ hp)), hne, (List.forall_mem_cons.mpr ⟨rfl, List.forall_mem_cons.mpr ⟨rfl, List.forall_mem_nil _⟩⟩), ⟨by (try simp only [List.length_append, dots_len, List.length_cons, List.length_nil]); omega, by (try simp only [List.length_append, List.length_cons, List.length_nil]); omega, (by first | exact g3 | exact g4 | exact okT_app g3 (okT_one hc7) | exact okT_app g4 (okT_one hc7) | exact okT_app g3 okT_dots | exact okT_app g4 okT_mark | exact okT_app g4 hupk), (by first | exact g3 | exact g4 | exact okT_app g3 (okT_one hc7) | exact okT_app g4 (okT_one hc7) | exact okT_app g3 okT_dots | exact okT_app g4 okT_mark | exact okT_app g4 hupk)⟩⟩)
  · rintro ⟨a9, b9, ta, tb⟩ u9 h9 tk9 ⟨g1, g2, g3, g4⟩ F9 N9
    rw [nv_len] at g1 g2
    dsimp only at g1 g2 g3 g4 F9
    try k_fold
    repeat' (walk_at "st")
    (rename News h₀ L _ _ => kN)
    refine ret _ [(_, _)] _ _ ⟨_, _, _, _, _, rfl, rfl, by omega, by omega, g3, g4⟩ ?_ (by assumption) kN
    intro p hp q hq
    rw [List.mem_singleton.mp hq]
    exact Nat.ne_of_lt ((by assumption : ∀ p ∈ news, p.1 < _) p hp)
end Mine
open PySem PySem.W PyProof.Rows
set_option Elab.async false
namespace Mine
/-- what a turn over two lists must show: one test -/
def TurnZ (prog : Program) (w : World) (A : Around) (h₀ : Heap) (L : Addr) (env : Env) (scope : Scope) (cl : List (Str × Addr)) (a b : Str) (c elt : PySem.Expr) (m : Str → Option Value) (news : List (Addr × Obj)) (xs zs : List Value) (J : Nat → List Value → Prop) (s : Shared) : Prop :=
  ∀ i x y ys C oC D h tk own k E' mC, xs[i]? = some x → zs[i]? = some y → J i ys → ys.length ≤ i → mC a = some x → mC b = some y → NsObj oC mC → Fr h₀ L h m → News h₀ L h ((C, oC) :: (D, listOf ys.toArray k) :: (news ++ own)) →
    wpAny (model prog w) A (isTrue c (compEnvC scope cl C env) (eval c (compEnvC scope cl C env))) (fun b s₃ => if b = true then wpAny (model prog w) A (eval elt (compEnvC scope cl C env)) (fun y s₄ => CGo h₀ L m ((C, oC) :: (D, listOf ys.toArray k) :: (news ++ own)) s s₄ ∧ J (i + 1) (ys ++ [y])) E' s₃
      else CGo h₀ L m ((C, oC) :: (D, listOf ys.toArray k) :: (news ++ own)) s s₃ ∧ J (i + 1) ys) E' { s with heap := h, toks := tk }
section
variable {prog : Program} {w : World} {A : Around} {E : Value → Shared → Prop} {s : Shared} {h₀ : Heap} {L D : Addr} {m : Str → Option Value} {news : List (Addr × Obj)} {env : Env}
theorem cz_loop {R : Result → Shared → Prop} {elt iter c : PySem.Expr} {a b : Str} {pa pb tp : Pos} {kk : Nat} {scope : Scope} {cl : List (Str × Addr)} {pos : Pos} {I C : Addr} {fp wr : List Addr} {n : Nat} {xs zs : List Value} {St : Nat → Heap → Prop} {Mid : Nat → Addr → Heap → Prop} {mC : Str → Option Value}
    (W : WalksU prog w A I fp wr n (fun i vals => ∃ x y, xs[i]? = some x ∧ zs[i]? = some y ∧ vals = #[x, y]) St Mid) (hh : A.handled = none)
    (hxa : scope.names.lookup a = some .local) (hxb : scope.names.lookup b = some .local) (hab : ¬ a = b) (hkind : scope.kind = .function)
    (hLf : L ∉ fp) (hCf : C ∉ fp) (hDf : D ∉ fp) (hCL : C ≠ L) (hDL : D ≠ L) (hDC : D ≠ C) (hD0 : h₀.get? D = none) (hC0 : h₀.get? C = none)
    (hwr0 : ∀ b ∈ wr, h₀.get? b = none) (hnw : ∀ p ∈ news, p.1 ∉ wr) (hnD : ∀ p ∈ news, p.1 ≠ D) (hnC : ∀ p ∈ news, p.1 ≠ C)
    (hst : St 0 s.heap) (F : Fr h₀ L s.heap m) (N : News h₀ L s.heap news) (hD : s.heap.PlainList D #[]) (hC : s.heap.Ns C mC)
    (J : Nat → List Value → Prop) (h0 : J 0 [])
    (turn : TurnZ prog w A h₀ L env scope cl a b c elt m news xs zs J s)
    (hR : ∀ ys h tk k mC, J n ys → Fr h₀ L h m → News h₀ L h ((D, listOf ys.toArray k) :: news) → h.Ns C mC → R (.ok .next) { s with heap := h, toks := tk })
    (hsz : n ≤ sizeLine) :
    codeAny (model prog w) A (.compLoop (.ListComp elt [⟨.Tuple [.Name a pa, .Name b pb] kk tp, iter, [c], 0⟩] scope pos) 0 (.ref I) (.ref D) (compEnvC scope cl C env)) R s := by
  refine kct_loop
    (fun k s' => ∃ h' tk mC i, ∃ ys : List Value, s' = { s with heap := h', toks := tk } ∧ St i h' ∧ h'.PlainList D ys.toArray ∧ h'.Ns C mC ∧ Fr h₀ L h' m ∧ News h₀ L h' news ∧ J i ys ∧ ys.length ≤ i ∧ i ≤ n ∧ k = n + 1 - i) ?_ (n + 1)
    ⟨s.heap, s.toks, mC, 0, [], rfl, hst, hD, hC, F, N, h0, Nat.le_refl _, Nat.zero_le _, rfl⟩
  rintro k s' ⟨H, tk, mC', i, ys, rfl, hst', hacc', hn', F', N', hJ, hyl, hi, rfl⟩
  have hCw : C ∉ wr := fun h => hCf (W.sub _ h)
  have hDw : D ∉ wr := fun h => hDf (W.sub _ h)
  have hLw : L ∉ wr := fun h => hLf (W.sub _ h)
  have old : ∀ b o, h₀.get? b = some o → b ∉ wr := fun b o e hb => by rw [hwr0 b hb] at e; cases e
  by_cases hlt : i < n
  · refine W.item i _ _ _ hlt hst' fun T vals h₁ tk₁ hPv hT hm hk₁ => ?_
    obtain ⟨x, y, hx, hy, rfl⟩ := hPv
    refine W.go _ _ _ i T _ _ _ hm fun h₂ hst₂ hk₂ => ?_
    have hT2 : h₂.IsTuple T #[x, y] := hT.at fun o e => hk₂ T o (W.apart i T _ hm) e
    have up : ∀ b o, b ∉ wr → H.get? b = some o → h₂.get? b = some o := fun b o hb e => hk₂ b o hb (hk₁ b o hb e)
    have F₂ : Fr h₀ L h₂ m := ⟨F'.ns.at' fun o e => up _ o hLw e, fun b o e => up b o (old b o e) (F'.keep b o e), F'.above⟩
    have N₂ : News h₀ L h₂ news := fun p hp => ⟨up _ _ (hnw p hp) (N' p hp).1, (N' p hp).2⟩
    obtain ⟨kk₁, hD₁⟩ := hacc'
    have hD₂ : h₂.get? D = some (listOf ys.toArray kk₁) := up D _ hDw hD₁
    refine kcp_assign (env := compEnvC scope cl C env) hh hT2 (lookup_relabel_local hxa) (lookup_relabel_local hxb) (by simp [compEnvC, relabel, hkind]) (hn'.at' fun o e => up _ o hCw e) fun h₃ tk₃ hn₃ hs₃ => ?_
    replace hs₃ : ∀ c o, c ≠ C → h₂.get? c = some o → h₃.get? c = some o := hs₃
    replace hn₃ : h₃.Ns C (fun z => if z = b then some y else if z = a then some x else mC' z) := hn₃
    have F₃ : Fr h₀ L h₃ m := ⟨F₂.ns.at' fun o e => hs₃ _ o hCL.symm e, fun b o e => hs₃ b o (fun q => by rw [q, hC0] at e; cases e) (F₂.keep b o e), F₂.above⟩
    have N₃ : News h₀ L h₃ news := fun p hp => ⟨hs₃ _ _ (hnC p hp) (N₂ p hp).1, (N₂ p hp).2⟩
    have hst₃ : St (i + 1) h₃ := W.frame _ _ _ hst₂ fun b hb o e => hs₃ b o (fun q => hCf (q ▸ hb)) e
    have hD₃ : h₃.get? D = some (listOf ys.toArray kk₁) := hs₃ D _ hDC hD₂
    obtain ⟨oC, es, ep, ho, hr⟩ := hn₃
    have hoC : NsObj oC (fun z => if z = b then some y else if z = a then some x else mC' z) := ⟨es, ep, hr⟩
    have Nown : News h₀ L h₃ (ownOf h₀ fp h₃) := news_ownOf hLf
    have Nall : News h₀ L h₃ ((C, oC) :: (D, listOf ys.toArray kk₁) :: (news ++ ownOf h₀ fp h₃)) := fun p hp => by
      rcases List.mem_cons.mp hp with rfl | hp
      · exact ⟨ho, hCL, hC0⟩
      · rcases List.mem_cons.mp hp with rfl | hp
        · exact ⟨hD₃, hDL, hD0⟩
        · exact N₃.append Nown p hp
    have tend : ∀ s₄, CGo h₀ L m ((C, oC) :: (D, listOf ys.toArray kk₁) :: (news ++ ownOf h₀ fp h₃)) s s₄ →
        ∃ h₄ tk₄ m₄, s₄ = { s with heap := h₄, toks := tk₄ } ∧ St (i + 1) h₄ ∧ h₄.PlainList D ys.toArray ∧ h₄.Ns C m₄ ∧ Fr h₀ L h₄ m ∧ News h₀ L h₄ ((D, listOf ys.toArray kk₁) :: (news ++ ownOf h₀ fp h₃)) := by
      rintro s₄ ⟨h₄, tk₄, rfl, F₄, N₄⟩
      refine ⟨h₄, tk₄, _, rfl, W.frame _ _ _ hst₃ (fun b hb o e => ?_), ⟨kk₁, (N₄ _ (List.mem_cons_of_mem _ (List.mem_cons_self ..))).1⟩, hoC.ns (N₄ _ (List.mem_cons_self ..)).1, F₄, fun p hp => N₄ p (List.mem_cons_of_mem _ hp)⟩
      cases hn : h₀.get? b with
      | some o₀ =>
        have : o₀ = o := by have := F₃.keep b o₀ hn; rw [e] at this; exact (Option.some.inj this).symm
        exact this ▸ F₄.keep b o₀ hn
      | none => exact (N₄ _ (List.mem_cons_of_mem _ (List.mem_cons_of_mem _ (List.mem_append_right _ (mem_ownOf hb hn e))))).1
    refine wpAny_mono (turn i x y ys C oC D h₃ tk₃ (ownOf h₀ fp h₃) kk₁ _ _ hx hy hJ hyl (by simp [hab]) (by simp) hoC F₃ Nall) (fun ok s₃ h₃' => ?_) fun _ _ e => e
    cases ok with
    | false =>
      simp only [Bool.false_eq_true, if_false] at h₃' ⊢
      obtain ⟨h₄, tk₄, m₄, rfl, a1, a2, a3, a4, a5⟩ := tend _ h₃'.1
      exact ⟨n + 1 - (i + 1), by omega, h₄, tk₄, m₄, i + 1, ys, rfl, a1, a2, a3, a4, fun p hp => a5 p (List.mem_cons_of_mem _ (List.mem_append_left _ hp)), h₃'.2, Nat.le_succ_of_le hyl, hlt, rfl⟩
    | true =>
      simp only [if_true] at h₃' ⊢
      refine wpAny_mono h₃' (fun v s₄ h₄ => ?_) fun _ _ e => e
      obtain ⟨h₄', tk₄, m₄, rfl, a1, a2, a3, a4, a5⟩ := tend _ h₄.1
      refine wpAny_list_append_plain (hsz := by rw [List.size_toArray]; omega) a2 fun h₅ hl₅ hs₅ => ?_
      refine ⟨n + 1 - (i + 1), by omega, h₅, tk₄, m₄, i + 1, ys ++ [v], rfl, W.frame _ _ h₅ a1 (fun b hb o e => hs₅.extBut b o (fun h => hDf (h ▸ hb)) e), by simpa using hl₅, a3.sameBut hs₅ (Ne.symm hDC), a4.change hs₅ hDL hD0, ?_, h₄.2, by simp; omega, hlt, rfl⟩
      intro p hp
      have z := a5 p (List.mem_cons_of_mem _ (List.mem_append_left _ hp))
      exact ⟨(hs₅.2 _ (hnD p hp)).trans z.1, z.2⟩
  · have hin : i = n := by omega
    subst hin
    refine W.done _ _ _ hst' fun h₁ tk₁ hk₁ => ?_
    have F₁ : Fr h₀ L h₁ m := ⟨F'.ns.at' fun o e => hk₁ _ o hLw e, fun b o e => hk₁ b o (old b o e) (F'.keep b o e), F'.above⟩
    have N₁ : News h₀ L h₁ news := fun p hp => ⟨hk₁ _ _ (hnw p hp) (N' p hp).1, (N' p hp).2⟩
    obtain ⟨kk₁, hD₁⟩ := hacc'
    refine hR ys h₁ tk₁ kk₁ mC' hJ F₁ ?_ (hn'.at' fun o e => hk₁ _ o hCw e)
    intro p hp
    rcases List.mem_cons.mp hp with rfl | hp
    · exact ⟨hk₁ D _ hDw hD₁, hDL, hD0⟩
    · exact N₁ p hp
/-- two lists are at hand -/
def ZAt (prog : Program) (w : World) (A : Around) (h₀ : Heap) (L : Addr) (env : Env) (scope : Scope) (cl : List (Str × Addr)) (a b : Str) (c elt : PySem.Expr) (m : Str → Option Value) (news : List (Addr × Obj)) (upd : Addr → Str → Option Value) (Q : Value → Shared → Prop) (it : Value) (s₂ : Shared) : Prop :=
  ∃ (I : Addr) (fp wr : List Addr) (n : Nat) (xs zs : List Value) (St : Nat → Heap → Prop) (Mid : Nat → Addr → Heap → Prop) (J : Nat → List Value → Prop), it = .ref I ∧ A.handled = none ∧
    WalksU prog w A I fp wr n (fun i vals => ∃ x y, xs[i]? = some x ∧ zs[i]? = some y ∧ vals = #[x, y]) St Mid ∧ n ≤ sizeLine ∧ St 0 s₂.heap ∧ (∀ b ∈ fp, b < s₂.heap.objs.size) ∧ L ∉ fp ∧ (∀ b ∈ wr, h₀.get? b = none) ∧ (∀ p ∈ news, p.1 ∉ wr) ∧
    Fr h₀ L s₂.heap m ∧ News h₀ L s₂.heap news ∧ J 0 [] ∧
    TurnZ prog w A h₀ L env scope cl a b c elt m news xs zs J s₂ ∧
    (∀ ys D h tk k, J n ys → (∀ p ∈ news, p.1 < D) → Fr h₀ L h (upd D) → News h₀ L h ((D, listOf ys.toArray k) :: news) → Q (.ref D) { s₂ with heap := h, toks := tk })
theorem cz_block {elt iter c : PySem.Expr} {a b : Str} {pa pb tp : Pos} {kk : Nat} {scope : Scope} {cl : List (Str × Addr)} {pos : Pos} {s₂ : Shared} {it : Value} {upd : Addr → Str → Option Value} {Q : Value → Shared → Prop} {RR : Value → Addr → Result → Shared → Prop}
    (hcell : ∀ y ∈ scope.names, y.2 ≠ .cell) (hkind : scope.kind = .function) (hxa : scope.names.lookup a = some .local) (hxb : scope.names.lookup b = some .local) (hab : ¬ a = b)
    (hat : ZAt prog w A h₀ L env scope cl a b c elt m news upd Q it s₂)
    (hRR : ∀ D C h' tk m' led, (∀ h'' tk, Fr h₀ L h'' (upd D) → News h₀ L h'' led → Q (.ref D) { s₂ with heap := h'', toks := tk }) → Fr h₀ L h' m → News h₀ L h' led → (∀ p ∈ led, p.1 ≠ C) → h₀.get? C = none → h'.Ns C m' → L ≠ C → RR (.ref D) C (.ok .next) { s₂ with heap := h', toks := tk }) :
    wpAny (model prog w) A (newList []) (fun acc s₃ => wpAny (model prog w) A (newFunctionEnv scope env.globals cl [] env.qual none .none (some env)) (fun cenv s₄ =>
      codeAny (model prog w) A (.compStart (.ListComp elt [⟨.Tuple [.Name a pa, .Name b pb] kk tp, iter, [c], 0⟩] scope pos) 0 it acc { cenv with scope := relabel scope env }) (RR acc cenv.locals) s₄) E s₃) E s₂ := by
  obtain ⟨I, fp, wr, n, xs, zs, St, Mid, J, rfl, hh, W, hsz, hst, hfp, hLf, hwr, hnw, F, N, h0, turn, fin⟩ := hat
  refine wpAny_newObj_type (wpAny_newFunctionEnv hcell (by intro y hy; simp at hy) (fun h₁ hns₁ hsb₁ => ?_) hkind)
  dsimp only at hns₁ hsb₁ ⊢
  generalize hH2 : s₂.heap.push { cls := .type "list", dict := none, data := .seq ([] : List Value).toArray } = H2 at hns₁ hsb₁ ⊢
  have hC : H2.objs.size = s₂.heap.objs.size + 1 := by rw [← hH2, Heap.size_push]
  have hDC : s₂.heap.objs.size ≠ H2.objs.size := by rw [hC]; exact Nat.ne_of_lt (Nat.lt_succ_self _)
  have below : ∀ b, b < s₂.heap.objs.size → b ≠ H2.objs.size ∧ b ≠ s₂.heap.objs.size := fun b hb => ⟨by rw [hC]; exact Nat.ne_of_lt (Nat.lt_succ_of_lt hb), Nat.ne_of_lt hb⟩
  have hDf : s₂.heap.objs.size ∉ fp := fun hm => Nat.lt_irrefl _ (hfp _ hm)
  have hCf : H2.objs.size ∉ fp := fun hm => by have := hfp _ hm; rw [hC] at this; exact Nat.lt_irrefl _ (Nat.lt_of_succ_lt this)
  have old : ∀ b o, s₂.heap.get? b = some o → h₁.get? b = some o := fun b o e => hsb₁.extBut b o (below b (Heap.lt_size e)).1 (Heap.get?_push_of_some _ (hH2 ▸ Heap.get?_push_of_some _ e))
  have hacc : h₁.PlainList s₂.heap.objs.size #[] := ⟨_, hsb₁.extBut _ _ hDC (Heap.get?_push_of_some _ (hH2 ▸ Heap.get?_push_size _ rfl))⟩
  have hst₁ : St 0 h₁ := W.frame _ _ _ hst fun b _ o e => old b o e
  have hL2 : L < s₂.heap.objs.size := F.ns.lt
  have hnew : ∀ a, s₂.heap.objs.size ≤ a → h₀.get? a = none := fun a ha => by
    cases e : h₀.get? a with
    | none => rfl
    | some o' => exact absurd (Heap.lt_size (F.keep _ _ e)) (Nat.not_lt.mpr ha)
  have hns : ∀ p ∈ news, p.1 < s₂.heap.objs.size := fun p hp => Heap.lt_size (N p hp).1
  have hCge : s₂.heap.objs.size ≤ H2.objs.size := by rw [hC]; exact Nat.le_succ _
  have loop : ∀ s₃ : Shared, s₃ = { s₂ with heap := h₁, toks := s₂.toks + ([] : List (Str × Value)).length } →
      codeAny (model prog w) A (.compLoop (.ListComp elt [⟨.Tuple [.Name a pa, .Name b pb] kk tp, iter, [c], 0⟩] scope pos) 0 (.ref I) (.ref s₂.heap.objs.size) (compEnvC scope cl H2.objs.size env))
        (RR (.ref s₂.heap.objs.size) H2.objs.size) s₃ := by
    rintro s₃ rfl
    refine cz_loop W hh hxa hxb hab hkind hLf hCf hDf (below L hL2).1.symm (below L hL2).2.symm hDC (hnew _ (Nat.le_refl _)) (hnew _ hCge) hwr hnw (fun p hp => (below _ (hns p hp)).2) (fun p hp => (below _ (hns p hp)).1) hst₁ (F.keeps old) (News.keepsAll N old) hacc hns₁ J h0 turn ?_ hsz
    intro ys h tk k mC hJ F' N' hC'
    refine hRR _ _ h tk mC _ (fun h'' tk' F'' N'' => fin ys _ h'' tk' k hJ hns F'' N'') F' N' ?_ (hnew _ hCge) hC' (below L hL2).1
    intro p hp
    rcases List.mem_cons.mp hp with rfl | hp
    · exact hDC
    · exact (below _ (hns p hp)).1
  exact codeAny_compStart_list (loop _ rfl) (W.self 0 _ _ _ hst₁ (loop _ rfl))
theorem cz_eval {s : Shared} {elt iter c : PySem.Expr} {a b : Str} {pa pb tp : Pos} {kk : Nat} {scope : Scope} {cl : List (Str × Addr)} {pos : Pos} {Q : Value → Shared → Prop}
    (hclos : closureFor scope env = pure cl) (hcell : ∀ y ∈ scope.names, y.2 ≠ .cell) (hkind : scope.kind = .function)
    (hnames : ∀ y ∈ scope.names, y.2 = .local → scope.names.lookup y.1 = some .local) (hxa : scope.names.lookup a = some .local) (hxb : scope.names.lookup b = some .local) (hab : ¬ a = b)
    (h : wpAny (model prog w) A (eval iter env) (fun xv s₁ => wpAny (model prog w) A (pyIter xv) (fun it s₂ => ∃ h₀ L m news, ZAt prog w A h₀ L env scope cl a b c elt m news (fun _ => m) Q it s₂) E s₁) E s)
    (hs : ∀ x, foldedSetIterable iter env x = pure x := by intro _; rfl) :
    wpAny (model prog w) A (eval (.ListComp elt [⟨.Tuple [.Name a pa, .Name b pb] kk tp, iter, [c], 0⟩] scope pos) env) Q E s := by
  rw [eval_ListComp]
  refine wpAny_comprehension_free (use := none) rfl hs hclos hkind hnames (wpAny_mono h (fun xv s₁ h₁ => wpAny_mono h₁ (fun it s₂ h₂ => ?_) fun _ _ e => e) fun _ _ e => e)
  obtain ⟨h₀, L, m, news, h₂⟩ := h₂
  refine cz_block (RR := fun acc C => compPost (model prog w) A E none Q acc C) hcell hkind hxa hxb hab h₂ ?_
  intro D C h' tk m' led hQ F N hC hC0 hn hLC
  exact ⟨m', hn, fun h'' hs'' => hQ h'' _ (fr_but F hC0 hLC hs'') (news_but N hC hs'')⟩
theorem cz_assign {s : Shared} {elt iter c : PySem.Expr} {a b : Str} {pa pb tp : Pos} {kk : Nat} {y : Str} {py : Pos} {scope : Scope} {cl : List (Str × Addr)} {pos spos : Pos} {Q : Flow → Shared → Prop}
    (hsw : swapsWith (.ListComp elt [⟨.Tuple [.Name a pa, .Name b pb] kk tp, iter, [c], 0⟩] scope pos) (some (.Name y py)) spos.line env = pure true)
    (hclos : closureFor scope env = pure cl) (hcell : ∀ z ∈ scope.names, z.2 ≠ .cell) (hkind : scope.kind = .function)
    (hnames : ∀ z ∈ scope.names, z.2 = .local → scope.names.lookup z.1 = some .local) (hxa : scope.names.lookup a = some .local) (hxb : scope.names.lookup b = some .local) (hab : ¬ a = b)
    (hy : env.kindOf y = some .local) (hp : (env.scope.kind == .class || (env.scope.kind == .module && env.locals != env.globals)) = false)
    (h : wpAny (model prog w) A (eval iter env) (fun xv s₁ => wpAny (model prog w) A (pyIter xv) (fun it s₂ => ∃ h₀ m news, ZAt prog w A h₀ env.locals env scope cl a b c elt m news
        (fun D z => if z = y then some (.ref D) else m z) (fun _ s' => Q .next s') it s₂) E s₁) E s)
    (hs : ∀ x, foldedSetIterable iter env x = pure x := by intro _; rfl) :
    wpAny (model prog w) A (exec (.Assign [.Name y py] (.ListComp elt [⟨.Tuple [.Name a pa, .Name b pb] kk tp, iter, [c], 0⟩] scope pos) spos) env) Q E s := by
  rw [exec_Assign_Name_used _ _ _ _ hsw]
  refine wpAny_bind (wpAny_standAt (wpAny_bind ?_))
  show wpAny _ A (do let _ ← comprehension (.ListComp elt [⟨.Tuple [.Name a pa, .Name b pb] kk tp, iter, [c], 0⟩] scope pos) scope env _ (newList []) false (eval iter env) (some (assign (.Name y py) env))) _ _ s
  refine wpAny_bind (wpAny_mono (wpAny_comprehension_free (use := some (assign (.Name y py) env)) (Q := fun _ s' => Q .next s') rfl hs hclos hkind hnames
    (wpAny_mono h (fun xv s₁ h₁ => wpAny_mono h₁ (fun it s₂ h₂ => ?_) fun _ _ e => e) fun _ _ e => e)) (fun _ s' hq => wpAny_pure (wpAny_pure hq)) fun _ _ e => e)
  obtain ⟨h₀, m, news, h₂⟩ := h₂
  refine cz_block (RR := fun acc C => compPost (model prog w) A E (some (assign (.Name y py) env)) (fun _ s' => Q .next s') acc C) hcell hkind hxa hxb hab h₂ ?_
  intro D C h' tk m' led hQ F N hC hC0 hn hLC
  refine wpAny_assign_Name (wpAny_storeName_local hy F.ns (fun h₂ hn₂ hs₂ => ?_) hp)
  refine ⟨m', hn.sameBut hs₂ (Ne.symm hLC), fun h₃ hs₃ => ?_⟩
  exact hQ h₃ _ (fr_but (F.set hn₂ hs₂) hC0 hLC hs₃) (news_but (N.set hs₂) hC hs₃)
/-- zip of two lists -/
theorem cz_zip {l1 l2 : Addr} {xs zs : List Value} {scope : Scope} {cl : List (Str × Addr)} {a b : Str} {c elt : PySem.Expr} {upd : Addr → Str → Option Value} {Q : Value → Shared → Prop} {Post : Value → Shared → Prop} (J : Nat → List Value → Prop)
    (hh : A.handled = none) (hl1 : s.heap.IsList l1 xs.toArray) (hl2 : s.heap.IsList l2 zs.toArray) (h1L : l1 ≠ L) (h2L : l2 ≠ L) (hsz : xs.length ≤ 1000000)
    (F : Fr h₀ L s.heap m) (N : News h₀ L s.heap news) (h0 : J 0 [])
    (turn : TurnZ prog w A h₀ L env scope cl a b c elt m news xs zs J s)
    (fin : ∀ ys D h tk k, J (min xs.length zs.length) ys → (∀ p ∈ news, p.1 < D) → Fr h₀ L h (upd D) → News h₀ L h ((D, listOf ys.toArray k) :: news) → Q (.ref D) { s with heap := h, toks := tk })
    (post : ∀ it s₂, ZAt prog w A h₀ L env scope cl a b c elt m news upd Q it s₂ → Post it s₂) :
    wpAny (model prog w) A (call (.type "zip") [.ref l1, .ref l2]) (fun xv s₁ => wpAny (model prog w) A (pyIter xv) Post E s₁) E s := by
  have lt1 : l1 < s.heap.objs.size := by obtain ⟨o, ho, _⟩ := hl1; exact Heap.lt_size ho
  have lt2 : l2 < s.heap.objs.size := by obtain ⟨o, ho, _⟩ := hl2; exact Heap.lt_size ho
  refine call_zip_2 hl1 hl2 fun h' z1 z2 z3 z4 z5 hsize keep => ?_
  refine wpAny_pyIter_zip z1 (post _ _ ?_)
  have W := (WalksT.zip2 (prog := prog) (w := w) hh (s.heap.objs.size + 4) (s.heap.objs.size + 2) (s.heap.objs.size + 3) s.heap.objs.size (s.heap.objs.size + 1) l1 l2 (ktu_apart _ _ _ lt1 lt2) xs.toArray zs.toArray).toU
  have e : (fun (i : Nat) (vals : Array Value) => ∃ x y, xs.toArray[i]? = some x ∧ zs.toArray[i]? = some y ∧ vals = #[x, y]) = fun (i : Nat) (vals : Array Value) => ∃ x y, xs[i]? = some x ∧ zs[i]? = some y ∧ vals = #[x, y] := by
    funext i vals; simp
  rw [e, List.size_toArray, List.size_toArray] at W
  have hLlt : L < s.heap.objs.size := F.ns.lt
  have new0 : ∀ b, s.heap.objs.size ≤ b → h₀.get? b = none := fun b hb => ktu_new F hb
  have hge : ∀ b ∈ [s.heap.objs.size + 4, s.heap.objs.size + 3, s.heap.objs.size, s.heap.objs.size + 1], s.heap.objs.size ≤ b := by
    intro b hb
    simp only [List.mem_cons, List.not_mem_nil, or_false] at hb
    rcases hb with rfl | rfl | rfl | rfl
    · exact Nat.le_add_right _ _
    · exact Nat.le_add_right _ _
    · exact Nat.le_refl _
    · exact Nat.le_add_right _ _
  refine ⟨_, _, _, _, xs, zs, _, _, J, rfl, hh, W, ?_, ⟨z1, z2, ⟨_, _, z3⟩, z4, z5, hl1.at fun o e => keep _ o e, hl2.at fun o e => keep _ o e⟩, ?_, ?_, fun b hb => new0 b (hge b hb), ?_, F.keeps keep, News.keepsAll N keep, h0, turn, fin⟩
  · have : min xs.length zs.length ≤ xs.length := Nat.min_le_left ..
    simp [sizeLine]; omega
  · intro b hb
    show b < h'.objs.size
    rw [hsize]
    simp only [List.mem_cons, List.not_mem_nil, or_false] at hb
    rcases hb with rfl | rfl | rfl | rfl | rfl | rfl | rfl
    · exact Nat.add_lt_add_left (by decide) _
    · exact Nat.add_lt_add_left (by decide) _
    · exact Nat.add_lt_add_left (by decide) _
    · exact Nat.lt_add_of_pos_right (by decide)
    · exact Nat.add_lt_add_left (by decide) _
    · exact Nat.lt_of_lt_of_le lt1 (Nat.le_add_right _ _)
    · exact Nat.lt_of_lt_of_le lt2 (Nat.le_add_right _ _)
  · intro hb
    simp only [List.mem_cons, List.not_mem_nil, or_false] at hb
    rcases hb with e | e | e | e | e | e | e
    · exact absurd hLlt (e ▸ Nat.not_lt.mpr (Nat.le_add_right _ _))
    · exact absurd hLlt (e ▸ Nat.not_lt.mpr (Nat.le_add_right _ _))
    · exact absurd hLlt (e ▸ Nat.not_lt.mpr (Nat.le_add_right _ _))
    · exact absurd hLlt (e ▸ Nat.lt_irrefl _)
    · exact absurd hLlt (e ▸ Nat.not_lt.mpr (Nat.le_add_right _ _))
    · exact h1L e.symm
    · exact h2L e.symm
  · intro p hp hb
    exact absurd (Heap.lt_size (N p hp).1) (Nat.not_lt.mpr (hge _ hb))
end
end Mine
open PySem PySem.W PyProof.Rows
set_option Elab.async false
namespace Mine
theorem iv_ints : ∀ q : List (Nat × Tok), IntsAre (iv q) (q.map fun p => (p.1 : Int))
  | [] => .nil
  | _ :: q => .cons _ _ (iv_ints q)
theorem sq_lay : ∀ q : List (List Nat), (∀ x ∈ q, okT x) → PyData.canLayAll0 (q.map fun x => PyData.str (S x)) = true
  | [], _ => rfl
  | x :: r, h => by
    have h1 := okT_str (h x (List.mem_cons_self ..))
    simp [PyData.canLayAll0, PyData.canLay0, sq_lay r (fun y hy => h y (List.mem_cons_of_mem _ hy)), h1]
theorem sq_depth : ∀ q : List (List Nat), PyData.depthAll (q.map fun x => PyData.str (S x)) = 0
  | [] => rfl
  | _ :: r => by simp [PyData.depthAll, PyData.depth, sq_depth r]
theorem sq_shaped (q : List (List Nat)) (h : ∀ x ∈ q, okT x) : SeqAt.shaped (.list (q.map fun x => PyData.str (S x))) = true := by
  simp [SeqAt.shaped, PyData.canLay0, PyData.depth, sq_lay q h, sq_depth]
theorem sq_all : ∀ q r : List (List Nat), PySem.Spec.sameAll (q.map fun x => PyData.str (S x)) (r.map fun x => PyData.str (S x)) = decide (q = r)
  | [], [] => by simp [PySem.Spec.sameAll]
  | [], _ :: _ => by simp [PySem.Spec.sameAll]
  | _ :: _, [] => by simp [PySem.Spec.sameAll]
  | a :: q, b :: r => by
    simp only [List.map_cons, PySem.Spec.sameAll, PySem.Spec.same, sq_all q r]
    have e : (S a = S b) ↔ a = b := ⟨S_inj, fun h => by rw [h]⟩
    by_cases h : a = b <;> by_cases h' : q = r <;> simp [h, h', e]
theorem sq_same (q r : List (List Nat)) : PySem.Spec.same (.list (q.map fun x => PyData.str (S x))) (.list (r.map fun x => PyData.str (S x))) = decide (q = r) := by
  simp only [PySem.Spec.same]; exact sq_all q r
theorem sq_carried : ∀ q : List (List Nat × Tok), CarriedAll (sv q) ((q.map (·.1)).map fun x => PyData.str (S x))
  | [] => .nil
  | _ :: r => .cons (.str _ _) (sq_carried r)
/-- truth values -/
def bv (q : List Bool) : List Value := q.map Value.bool
theorem bv_len (q : List Bool) : (bv q).length = q.length := by simp [bv]
theorem bv_app (p q : List Bool) : bv (p ++ q) = bv p ++ bv q := by simp [bv]
theorem bq_lay : ∀ q : List Bool, PyData.canLayAll0 (q.map PyData.bool) = true
  | [] => rfl
  | _ :: r => by simp [PyData.canLayAll0, PyData.canLay0, bq_lay r]
theorem bq_depth : ∀ q : List Bool, PyData.depthAll (q.map PyData.bool) = 0
  | [] => rfl
  | _ :: r => by simp [PyData.depthAll, PyData.depth, bq_depth r]
theorem bq_shaped (q : List Bool) : SeqAt.shaped (.list (q.map PyData.bool)) = true := by
  simp [SeqAt.shaped, PyData.canLay0, PyData.depth, bq_lay, bq_depth]
theorem bq_all : ∀ q r : List Bool, PySem.Spec.sameAll (q.map PyData.bool) (r.map PyData.bool) = decide (q = r)
  | [], [] => by simp [PySem.Spec.sameAll]
  | [], _ :: _ => by simp [PySem.Spec.sameAll]
  | _ :: _, [] => by simp [PySem.Spec.sameAll]
  | a :: q, b :: r => by
    simp only [List.map_cons, PySem.Spec.sameAll, PySem.Spec.same, bq_all q r]
    by_cases h : a = b <;> by_cases h' : q = r <;> simp [h, h']
theorem bq_same (q r : List Bool) : PySem.Spec.same (.list (q.map PyData.bool)) (.list (r.map PyData.bool)) = decide (q = r) := by
  simp only [PySem.Spec.same]; exact bq_all q r
theorem bq_carried : ∀ q : List Bool, CarriedAll (bv q) (q.map PyData.bool)
  | [] => .nil
  | _ :: r => .cons (.bool _) (bq_carried r)
section
variable {prog : Program} {w : World} {A : Around} {E : Value → Shared → Prop} {s : Shared} {a b : Addr} {Q : Value → Shared → Prop}
theorem ne_txts {q r : List (List Nat × Tok)} (hq : ∀ x ∈ q.map (·.1), okT x) (hr : ∀ x ∈ r.map (·.1), okT x) (ha : s.heap.IsList a (sv q).toArray) (hb : s.heap.IsList b (sv r).toArray) (hu : A.units + 64 < cLine) (h : Q (.bool (!decide (q.map (·.1) = r.map (·.1)))) s) :
    wpAny (model prog w) A (compareOp .NotEq (.ref a) (.ref b)) Q E s :=
  ne_dataH_same (reads_newData ha (sq_carried q)) (reads_newData hb (sq_carried r)) (sq_shaped _ hq) (sq_shaped _ hr) hu (SeqAt.noMix_of_shape (.list .str) rfl _ _ (list_map_has fun _ => rfl) (list_map_has fun _ => rfl)) (by rw [sq_same]; exact h)
theorem eq_bools {q r : List Bool} (ha : s.heap.IsList a (bv q).toArray) (hb : s.heap.IsList b (bv r).toArray) (hu : A.units + 64 < cLine) (h : Q (.bool (decide (q = r))) s) :
    wpAny (model prog w) A (compareOp .Eq (.ref a) (.ref b)) Q E s :=
  eq_dataH_same (reads_newData ha (bq_carried q)) (reads_newData hb (bq_carried r)) (bq_shaped _) (bq_shaped _) hu (SeqAt.noMix_of_shape (.list .bool) rfl _ _ (list_map_has fun _ => rfl) (list_map_has fun _ => rfl)) (by rw [bq_same]; exact h)
theorem pair_shaped {x y : List Nat} (hx : okT x) (hy : okT y) : SeqAt.shaped (.tuple [.str (S x), .str (S y)]) = true := by
  have h1 := okT_str hx
  have h2 := okT_str hy
  simp [SeqAt.shaped, PyData.canLay0, PyData.canLayAll0, PyData.depth, PyData.depthAll, h1, h2]
/-- two pairs of texts -/
theorem ne_pairs {x y x' y' : List Nat} {t1 t2 t3 t4 : Tok} (ha : IsTup s.heap a #[.str (S x) t1, .str (S y) t2]) (hb : IsTup s.heap b #[.str (S x') t3, .str (S y') t4]) (hx : okT x) (hy : okT y) (hx' : okT x') (hy' : okT y') (hu : A.units + 64 < cLine) (h : Q (.bool (!(decide (x = x') && decide (y = y')))) s) :
    wpAny (model prog w) A (compareOp .NotEq (.ref a) (.ref b)) Q E s :=
  ne_dataH_same (reads_newDataT (ys := [.str (S x) t1, .str (S y) t2]) (ds := [.str (S x), .str (S y)]) ha (.cons (.str _ _) (.cons (.str _ _) .nil))) (reads_newDataT (ys := [.str (S x') t3, .str (S y') t4]) (ds := [.str (S x'), .str (S y')]) hb (.cons (.str _ _) (.cons (.str _ _) .nil)))
    (pair_shaped hx hy) (pair_shaped hx' hy') hu (SeqAt.noMix_of_shape (.tuple [.str, .str]) rfl _ _ rfl rfl) (by
      have e : PySem.Spec.same (.tuple [.str (S x), .str (S y)]) (.tuple [.str (S x'), .str (S y')]) = (decide (x = x') && decide (y = y')) := by
        simp only [PySem.Spec.same, PySem.Spec.sameAll, Bool.and_true]
        have e1 : ∀ a b : List Nat, (S a == S b) = decide (a = b) := fun a b => by rw [S_beq]; exact Bool.eq_iff_iff.mpr (by simp)
        have e2 : ∀ a b : List Nat, decide (S a = S b) = decide (a = b) := fun a b => decide_eq_decide.mpr ⟨S_inj, fun h => by rw [h]⟩
        first | rw [e1, e1] | rw [e2, e2]
      rw [e]; exact h)
end
end Mine
open PySem PySem.W PyProof.Rows
set_option Elab.async false
namespace Mine
theorem any_mem (q : List (Nat × Tok)) (x : Nat) : (q.map fun p => (p.1 : Int)).any (· == (x : Int)) = decide (x ∈ q.map (·.1)) := by
  rw [Bool.eq_iff_iff, decide_eq_true_iff, List.any_eq_true]
  constructor
  · rintro ⟨z, hz, e⟩
    obtain ⟨p, hp, rfl⟩ := List.mem_map.mp hz
    have : p.1 = x := by have := beq_iff_eq.mp e; omega
    rw [← this]; exact List.mem_map_of_mem hp
  · intro h
    obtain ⟨p, hp, rfl⟩ := List.mem_map.mp h
    exact ⟨(p.1 : Int), List.mem_map_of_mem hp, beq_self_eq_true _⟩
theorem ends_in {b : List Nat} {x : Nat} (h : x ∈ endsOf b) : x ≤ b.length ∧ isEnd b x = true := by
  unfold endsOf at h
  rw [List.mem_filter, List.mem_range] at h
  exact ⟨by omega, h.2⟩
theorem ends_len (b : List Nat) : (endsOf b).length ≤ b.length + 1 := by
  unfold endsOf
  exact Nat.le_trans (List.length_filter_le _ _) (by rw [List.length_range]; exact Nat.le_refl _)
/-- the ends, as they are found -/
def JE (b : List Nat) (i : Nat) (ys : List Value) : Prop := ∃ q, ys = iv q ∧ q.map (·.1) = (List.range i).filter (isEnd b)
theorem je_yes {b : List Nat} {i : Nat} {ys : List Value} {t : Tok} (h : JE b i ys) (hc : isEnd b i = true) : JE b (i + 1) (ys ++ [Value.int (0 + (i : Int) * 1) t]) := by
  obtain ⟨q, rfl, hq⟩ := h
  refine ⟨q ++ [(i, t)], ?_, ?_⟩
  · rw [iv_app, show (0 : Int) + (i : Int) * 1 = (i : Int) by omega]; rfl
  · rw [List.map_append, hq, List.range_succ, List.filter_append]
    simp [hc]
theorem je_no {b : List Nat} {i : Nat} {ys : List Value} (h : JE b i ys) (hc : isEnd b i = false) : JE b (i + 1) ys := by
  obtain ⟨q, rfl, hq⟩ := h
  refine ⟨q, rfl, ?_⟩
  rw [hq, List.range_succ, List.filter_append]
  simp [hc]
theorem end_at {b : List Nat} {i : Nat} : isEnd b i = (((b.drop i).take 1 == ([] : List Nat)) || ((b.drop i).take 1 == [34])) := by
  unfold isEnd
  rcases Nat.lt_or_ge i b.length with h | h
  · have e2 : (b.drop i).take 1 = [b[i]] := by rw [List.drop_eq_getElem_cons h]; rfl
    rw [e2, List.getElem?_eq_getElem h]
    by_cases h2 : b[i] = 34 <;> simp [h2]
  · rw [List.drop_eq_nil_of_le h, List.getElem?_eq_none h]; rfl
theorem take_next {α : Type} {l : List α} {i : Nat} {x : α} (h : l[i]? = some x) : l.take (i + 1) = l.take i ++ [x] := by
  rw [List.take_add_one, h]; rfl
theorem at_of {α β : Type} {q : List (β × Tok)} {es : List α} {f : α → β} (h : q.map (·.1) = es.map f) {i : Nat} {p : β × Tok} (hp : q[i]? = some p) : ∃ x, es[i]? = some x ∧ p.1 = f x := by
  have h1 : (q.map (·.1))[i]? = some p.1 := by rw [List.getElem?_map, hp]; rfl
  rw [h, List.getElem?_map] at h1
  obtain ⟨x, hx, e⟩ := Option.map_eq_some_iff.mp h1
  exact ⟨x, hx, e.symm⟩
/-- ints made of the ends, turn by turn -/
def JI (es : List Nat) (f : Nat → Nat) (i : Nat) (ys : List Value) : Prop := ∃ q, ys = iv q ∧ q.map (·.1) = (es.take i).map f
theorem ji_step {es : List Nat} {f : Nat → Nat} {i x : Nat} {ys : List Value} {z : Int} {t : Tok} (h : JI es f i ys) (hx : es[i]? = some x) (hz : z = (f x : Int)) : JI es f (i + 1) (ys ++ [Value.int z t]) := by
  obtain ⟨q, rfl, hq⟩ := h
  subst hz
  exact ⟨q ++ [(f x, t)], by rw [iv_app]; rfl, by rw [List.map_append, hq, take_next hx, List.map_append]; rfl⟩
theorem ji_end {es : List Nat} {f : Nat → Nat} {n : Nat} {ys : List Value} (h : JI es f n ys) (hn : es.length ≤ n) : ∃ q, ys = iv q ∧ q.map (·.1) = es.map f := by
  obtain ⟨q, h1, h2⟩ := h
  rw [List.take_of_length_le hn] at h2
  exact ⟨q, h1, h2⟩
/-- texts made of the ends, turn by turn -/
def JT (es : List Nat) (f : Nat → List Nat) (i : Nat) (ys : List Value) : Prop := ∃ q, ys = sv q ∧ q.map (·.1) = (es.take i).map f
theorem jt_step {es : List Nat} {f : Nat → List Nat} {i x : Nat} {ys : List Value} {e : List Nat} {t : Tok} (h : JT es f i ys) (hx : es[i]? = some x) (hz : e = f x) : JT es f (i + 1) (ys ++ [Value.str (S e) t]) := by
  obtain ⟨q, rfl, hq⟩ := h
  subst hz
  exact ⟨q ++ [(f x, t)], by rw [sv_app]; rfl, by rw [List.map_append, hq, take_next hx, List.map_append]; rfl⟩
theorem jt_end {es : List Nat} {f : Nat → List Nat} {n : Nat} {ys : List Value} (h : JT es f n ys) (hn : es.length ≤ n) : ∃ q, ys = sv q ∧ q.map (·.1) = es.map f := by
  obtain ⟨q, h1, h2⟩ := h
  rw [List.take_of_length_le hn] at h2
  exact ⟨q, h1, h2⟩
/-- ints of those ends that pass -/
def JP (es : List Nat) (g : Nat → Bool) (f : Nat → Nat) (i : Nat) (ys : List Value) : Prop := ∃ q, ys = iv q ∧ q.map (·.1) = ((es.take i).filter g).map f
theorem jp_yes {es : List Nat} {g : Nat → Bool} {f : Nat → Nat} {i x : Nat} {ys : List Value} {p : Nat × Tok} (h : JP es g f i ys) (hx : es[i]? = some x) (hz : p.1 = f x) (hg : g x = true) : JP es g f (i + 1) (ys ++ [Value.int (p.1 : Int) p.2]) := by
  obtain ⟨q, rfl, hq⟩ := h
  refine ⟨q ++ [p], by rw [iv_app]; rfl, ?_⟩
  rw [List.map_append, hq, take_next hx, List.filter_append, List.map_append]
  simp [hg, hz]
theorem jp_no {es : List Nat} {g : Nat → Bool} {f : Nat → Nat} {i x : Nat} {ys : List Value} (h : JP es g f i ys) (hx : es[i]? = some x) (hg : g x = false) : JP es g f (i + 1) ys := by
  obtain ⟨q, rfl, hq⟩ := h
  refine ⟨q, rfl, ?_⟩
  rw [hq, take_next hx, List.filter_append]
  simp [hg]
theorem jp_end {es : List Nat} {g : Nat → Bool} {f : Nat → Nat} {n : Nat} {ys : List Value} (h : JP es g f n ys) (hn : es.length ≤ n) : ∃ q, ys = iv q ∧ q.map (·.1) = (es.filter g).map f := by
  obtain ⟨q, h1, h2⟩ := h
  rw [List.take_of_length_le hn] at h2
  exact ⟨q, h1, h2⟩
/-- truth values, turn by turn -/
def JB (f : Nat → Bool) (i : Nat) (ys : List Value) : Prop := ys = bv ((List.range i).map f)
theorem jb_step {f : Nat → Bool} {i : Nat} {ys : List Value} {b : Bool} (h : JB f i ys) (hb : b = f i) : JB f (i + 1) (ys ++ [Value.bool b]) := by
  unfold JB at h ⊢
  rw [h, hb, List.range_succ, List.map_append, bv_app]; rfl
def JA (l : List Bool) (i : Nat) (ys : List Value) : Prop := ys = bv (l.take i)
theorem ja_step {l : List Bool} {i : Nat} {ys : List Value} {b : Bool} (h : JA l i ys) (hb : l[i]? = some b) : JA l (i + 1) (ys ++ [Value.bool b]) := by
  unfold JA at h ⊢
  rw [h, take_next hb, bv_app]; rfl
theorem bv_get {q : List Bool} {i : Nat} {v : Value} (h : (bv q)[i]? = some v) : ∃ b, q[i]? = some b ∧ v = Value.bool b := by
  simp only [bv, List.getElem?_map, Option.map_eq_some_iff] at h
  obtain ⟨p, h1, h2⟩ := h
  exact ⟨p, h1, h2.symm⟩
theorem asked_len (b : List Nat) : (asked b).length = 6 + (dbl b).length := by unfold asked; simp [head5]; omega
theorem asked_head (b r : List Nat) : asked b ++ r = head5 ++ (dbl b ++ 34 :: r) := by unfold asked; simp
theorem unq_first (a r : List Nat) (b : List Nat) : unq (dbl a ++ 34 :: (asked b ++ r)) = a := unq_dbl a _ (by intro r' h; unfold asked head5 at h; simp at h)
theorem unq_line {b tail : List Nat} (ht : 34 ∉ tail) : unq (dbl b ++ 34 :: tail) = b := unq_dbl b _ (by rintro r' rfl; exact ht (by simp))
/-- the last line of the law -/
theorem told_eq {a b tail : List Nat} {first : Int} (ht : 34 ∉ tail) (hf : ∀ z : Nat, first ≤ (z : Int) ↔ (∃ x ∈ endsOf b, x ∈ plc b a [0] ∧ cutOf b x ≤ z) ∨ (asked b ++ tail).length + 1 ≤ z) :
    (List.range ((asked b ++ tail).length + 1)).map (fun k => ematch (asked a ++ dots) ((asked b ++ tail).take k)) = (List.range ((asked b ++ tail).length + 1)).map (fun k : Nat => decide (first ≤ (k : Int))) := by
  apply List.map_congr_left
  intro k hk
  rw [List.mem_range] at hk
  rw [Bool.eq_iff_iff, law_open ht, decide_eq_true_iff, hf k]
  have hm : min k (asked b ++ tail).length = k := Nat.min_eq_left (by omega)
  rw [hm]
  constructor
  · rintro ⟨x, hx, he, hc⟩
    refine .inl ⟨x, hx, ?_, hc⟩
    have := law_two (a := a) (b := b) (ends_in hx).1
    rw [he] at this
    exact of_decide_eq_true this.symm
  · rintro (⟨x, hx, hp, hc⟩ | h)
    · refine ⟨x, hx, ?_, hc⟩
      rw [law_two (ends_in hx).1]; exact decide_eq_true hp
    · omega
end Mine
open PySem PySem.W PyProof.Rows
set_option Elab.async false
namespace Mine
set_option maxRecDepth 100000
set_option maxHeartbeats 40000000
local macro_rules | `(tactic| walk_at "st") => `(tactic| first | (k_unfold; (try dsimp only)) | walk1 | (dsimp only; walk1) | (leave1; try dsimp only))
local macro_rules | `(tactic| walk_at "eval Name") => `(tactic| (k_here; (with_reducible show wpAny _ _ (eval (Expr.Name _ _) (compEnvC _ _ _ _)) _ _ _); k_dflt (first
  | (refine' cn_L ?N ?m ?o ?v ?_ ?k ?l ?d; (case k => rfl); (case l => rfl); (case d => rfl); (case N => k_asm); (case m => k_mem); (case o => assumption); (case v => assumption))
  | (refine' cn_C ?N ?c ?m ?d ?_ ?k ?l ?b; (case k => rfl); (case l => rfl); (case b => rfl); (case N => k_asm); (case c => rfl); (case m => k_mem); (case d => k_asm); k_whole)
  | (refine' cn_K ?g ?F ?X ?T ?e ?_ ?k ?l ?d; (case g => rfl); (case k => rfl); (case l => rfl); (case d => rfl); (case F => k_asm); (case X => k_asm); (case T => k_asm); (case e => k_is); k_whole)
  | (refine' cn_B ?g ?bb ?F ?X ?T ?e ?v ?n ?_ ?k ?l ?d; (case g => rfl); (case bb => rfl); (case k => rfl); (case l => rfl); (case d => rfl); (case F => k_asm); (case X => k_asm); (case T => k_asm); (case e => k_is); (case v => boot_fast); (case n => decide); k_whole))))
local macro_rules | `(tactic| walk_at "call builtin:len") => `(tactic| (k_here; (with_reducible show wpAny _ _ (call (Value.builtin "len") [Value.str (S _) _]) _ _ _); (refine len_S (by omega) ?_); intro _ _))
local macro_rules | `(tactic| walk_at "binaryOp Add str str") => `(tactic| (k_here; (with_reducible show wpAny _ _ (binaryOp Operator.Add (Value.str _ _) (Value.str _ _)) _ _ _); (refine add_X (by first | exact lit_head | exact lit_mark | exact lit_dots | exact rfl) (by first | exact lit_head | exact lit_mark | exact lit_dots | exact rfl) (by (try simp only [List.length_append, head5_len, dots_len, List.length_cons, List.length_nil]); omega) ?_); intro _ _))
theorem ints_nv : ∀ {vs : List Value} {ns : List Int}, IntsAre vs ns → ∃ q, vs = nv q ∧ q.map (·.1) = ns
  | _, _, .nil => ⟨[], rfl, rfl⟩
  | _, _, .cons n t h => by
    obtain ⟨q, h1, h2⟩ := ints_nv h
    exact ⟨(n, t) :: q, by rw [h1]; rfl, by rw [List.map_cons, h2]⟩
theorem nums_in {ns : List Int} {k : Nat} {q : List (Int × Tok)} (hq : q.map (·.1) = List.map (fun k' : Int => k'.fmod (10 ^ Int.toNat 6)) (List.take 7 ns) ++ List.drop ((List.map (fun k' : Int => k'.fmod (10 ^ 6)) (List.take 7 ns)).length : Int).toNat [24, 5, 24, 6, 46]) :
    q.length ≤ 7 ∧ ∀ p ∈ q, 0 ≤ p.1 ∧ p.1 < 1000000 := by
  constructor
  · have := congrArg List.length hq
    simp at this
    omega
  · intro p hp
    have h1 : p.1 ∈ q.map (·.1) := List.mem_map_of_mem hp
    rw [hq] at h1
    rcases List.mem_append.mp h1 with h | h
    · obtain ⟨z, _, e⟩ := List.mem_map.mp h
      have e2 : (10 : Int) ^ Int.toNat 6 = 1000000 := by decide
      rw [e2] at e
      rw [← e]
      exact ⟨fmod_lo _ (by decide), fmod_hi _ (by decide)⟩
    · have h2 := List.mem_of_mem_drop h
      simp at h2
      omega
theorem fnn_use {lv : Nat} {prog : Program} {w : World} {K : Frag} {p : Program} {loose : List Str} {mean : ExcName → Option Value} {mg mb : Str → Option Value} {f : Addr} {pre : List (Addr × Obj) → Prop} {vs : List Value} {dp un : Nat} {gd : Option (List Code)} {cn : Str} {cs : Scope} {a : Addr} {ccd : Value} {cl : List (Str × Addr)} {outer : List Env} {A₀ : Around} {base h₀ : Heap} {L : Addr} {m : Str → Option Value} {news : List (Addr × Obj)} {s : Shared} {Q E : Value → Shared → Prop}
    {Post : Value → List (Addr × Obj) → Prop} (C : FnN lv prog w K p loose mean mg mb f pre vs Post) (B : Below A₀ base outer h₀) (F : Fr h₀ L s.heap m) (X : K.In h₀) (N : News h₀ L s.heap news) (T : Top p loose mean mg mb h₀) (hk : cs.kind = .function) (hp : pre news)
    (hd : dp + lv < recursionLimit) (hu : un + 10 * lv < cLine)
    (ret : ∀ v own h' tk', Post v own → (∀ p ∈ news, ∀ q ∈ own, p.1 ≠ q.1) → Fr h₀ L h' m → News h₀ L h' (own ++ news) → Q v { s with heap := h', toks := tk' }) : wpAny (model prog w) (ktrTop dp un gd cn cs L a ccd cl outer) (call (.ref f) vs) Q E s :=
  C dp un gd cn cs a ccd cl outer A₀ base h₀ L m news s Q E B F X N T hk hp hd hu ret
theorem drop_three {x y r1 r2 r3 r4 : Addr × Obj} {r : List (Addr × Obj)} : ∀ p ∈ x :: y :: r, p ∈ x :: y :: r1 :: r2 :: r3 :: r4 :: r := by
  intro p hp
  simp only [List.mem_cons] at hp ⊢
  rcases hp with rfl | rfl | hp
  · exact .inl rfl
  · exact .inr (.inl rfl)
  · exact .inr (.inr (.inr (.inr (.inr (.inr hp)))))
def NeAll (d : Addr) : List (Addr × Obj) → Prop
  | [] => True
  | p :: r => @Ne Nat p.1 d ∧ NeAll d r
theorem neAll_of {D : Addr} {o : Obj} : ∀ {news : List (Addr × Obj)}, (∀ p ∈ news, ∀ q ∈ [(D, o)], p.1 ≠ q.1) → NeAll D news
  | [], _ => trivial
  | p :: r, h => ⟨h p (List.mem_cons_self ..) (D, o) (List.mem_singleton.mpr rfl), neAll_of (o := o) (fun q hq => h q (List.mem_cons_of_mem _ hq))⟩
theorem bool_ne_self {b : Bool} (h : (b != b) = true) : False := by simp at h
theorem menu_item {prog : Program} {w : World} {A : Around} {E : Value → Shared → Prop} {s : Shared} {value slice : PySem.Expr} {D : Addr} {t1 t2 t3 t4 u : Tok} {k : Int} {Q : Value → Shared → Prop}
    (hl : s.heap.IsList D #[.str (Str.ofString "") t1, .str (Str.ofString " ok") t2, .str (Str.ofString ".") t3, .str (Str.ofString " a...") t4]) (h0 : 0 ≤ k) (h1 : k < 4) (h : ∀ tail t, 34 ∉ tail → tail.length ≤ 5 → Q (.str (S tail) t) s)
    (hs : subscripted slice false (.ref D) (.int k u) = operate [.ref D, .int k u] (getItem (.ref D) (.int k u)) := by with_unfolding_all rfl) :
    wpAny (model prog w) A (subscriptTail value slice (.ref D) (.int k u)) Q E s := by
  have e1 : Str.ofString "" = S [] := by decide
  have e2 : Str.ofString " ok" = S [32, 111, 107] := by decide
  have e3 : Str.ofString "." = S [46] := by decide
  have e4 : Str.ofString " a..." = S [32, 97, 46, 46, 46] := by decide
  rw [e1, e2, e3, e4] at hl
  have hl' : s.heap.IsList D [Value.str (S []) t1, Value.str (S [32, 111, 107]) t2, Value.str (S [46]) t3, Value.str (S [32, 97, 46, 46, 46]) t4].toArray := hl
  obtain rfl | rfl | rfl | rfl : k = 0 ∨ k = 1 ∨ k = 2 ∨ k = 3 := by omega
  · exact item_at hl' (by decide) (by decide) rfl (h _ _ (by decide) (by decide)) hs
  · exact item_at hl' (by decide) (by decide) rfl (h _ _ (by decide) (by decide)) hs
  · exact item_at hl' (by decide) (by decide) rfl (h _ _ (by decide) (by decide)) hs
  · exact item_at hl' (by decide) (by decide) rfl (h _ _ (by decide) (by decide)) hs
theorem drop_six {d x1 x2 x3 x4 x5 x6 : Addr × Obj} {r : List (Addr × Obj)} : ∀ p ∈ d :: r, p ∈ x1 :: x2 :: x3 :: x4 :: d :: x5 :: x6 :: r := by
  intro p hp
  simp only [List.mem_cons] at hp ⊢
  rcases hp with rfl | hp
  · exact .inr (.inr (.inr (.inr (.inl rfl))))
  · exact .inr (.inr (.inr (.inr (.inr (.inr (.inr hp))))))
theorem end_cond {b : List Nat} {i : Nat} {B : Bool} (h : ([Str.ofString "", Str.ofString "\""].any fun x => x == Txt.slice (S b) (some (0 + (i : Int) * 1)) (some (0 + (i : Int) * 1 + 1))) = B) : isEnd b i = B := by
  rw [show (0 : Int) + (i : Int) * 1 = (i : Int) by omega] at h
  have e := slice_cast b i 1
  rw [show ((1 : Nat) : Int) = 1 from rfl] at e
  rw [e, lit_nil, lit_mark, List.any_cons, List.any_cons, List.any_nil, S_beq, S_beq, Bool.or_false] at h
  rw [← h, end_at]
  have sy : ∀ x y : List Nat, (x == y) = (y == x) := fun x y => Bool.eq_iff_iff.mpr (by rw [beq_iff_eq, beq_iff_eq]; exact eq_comm)
  rw [sy, sy _ [34]]
theorem cut_take {b tail : List Nat} {x : Nat} (hx : x ∈ endsOf b) : (head5 ++ dbl b ++ [34] ++ tail).take (cutOf b x) = head5 ++ (dbl (b.take x) ++ [34]) := by
  have h := line_cut (tail := tail) (ends_in hx).1 (ends_in hx).2
  have e : asked (b.take x) = head5 ++ (dbl (b.take x) ++ [34]) := by unfold asked; simp
  rw [← e]; exact h
theorem unq_one' (a : List Nat) : unq (dbl a ++ [34]) = a := unq_dbl a [] (fun _ h => nomatch h)
theorem same_ints_of {q r : List (Nat × Tok)} (h : q.map (·.1) = r.map (·.1)) : (!decide ((q.map fun p => (p.1 : Int)) = r.map fun p => (p.1 : Int))) = false := by
  have e : ∀ l : List (Nat × Tok), (l.map fun p => (p.1 : Int)) = (l.map (·.1)).map fun z : Nat => (z : Int) := fun l => by rw [List.map_map]; rfl
  rw [e q, e r, h]; simp
theorem first_is {a b : List Nat} {qt : List (Nat × Tok)} {M : Int} {n : Nat} (hqt : qt.map (·.1) = ((endsOf b).filter (fun x => decide (x ∈ plc b a [0]))).map (cutOf b)) (h1 : M ∈ (qt.map fun p => (p.1 : Int)) ++ [(n : Int) + 1]) (h2 : ∀ z, z ∈ (qt.map fun p => (p.1 : Int)) ++ [(n : Int) + 1] → M ≤ z) :
    ∀ z : Nat, M ≤ (z : Int) ↔ (∃ x ∈ endsOf b, x ∈ plc b a [0] ∧ cutOf b x ≤ z) ∨ n + 1 ≤ z := by
  have e : (qt.map fun p => (p.1 : Int)) = (((endsOf b).filter (fun x => decide (x ∈ plc b a [0]))).map (cutOf b)).map fun z : Nat => (z : Int) := by rw [← hqt, List.map_map]; rfl
  rw [e] at h1 h2
  intro z
  constructor
  · intro hz
    rcases List.mem_append.mp h1 with h | h
    · obtain ⟨y, hy, rfl⟩ := List.mem_map.mp h
      obtain ⟨x, hx, rfl⟩ := List.mem_map.mp hy
      rw [List.mem_filter] at hx
      exact .inl ⟨x, hx.1, of_decide_eq_true hx.2, by omega⟩
    · rw [List.mem_singleton.mp h] at hz
      exact .inr (by omega)
  · rintro (⟨x, hx, hp, hc⟩ | h)
    · have := h2 (cutOf b x : Int) (List.mem_append_left _ (List.mem_map.mpr ⟨cutOf b x, List.mem_map.mpr ⟨x, List.mem_filter.mpr ⟨hx, decide_eq_true hp⟩, rfl⟩, rfl⟩))
      omega
    · have := h2 ((n : Int) + 1) (List.mem_append_right _ (List.mem_singleton.mpr rfl))
      omega
theorem t1 : PySem.Challenge.rw_pg0070_01.Holds := hd (by
  k_go0; (all_goals try k_fold)
  (rename Below _ _ _ _ => K0)
  replace K0 : Below callerA _ [] _ := K0
  repeat' ((fail_if_success (with_reducible show wpAny _ _ (call (Value.ref _) _) _ _ _)); walk_at "st")
  (rename Fr _ _ _ _ => F9); (rename News _ _ _ _ => N9); (rename IntsAre _ _ => hI9)
  obtain ⟨qn, hqn1, hqn2⟩ := ints_nv hI9
  subst hqn1
  obtain ⟨hql, hqb⟩ := nums_in (k := 0) hqn2
  k_dflt (refine fnn_use (names_c _ _ _ _ _ qn 0) (by assumption) (by assumption) (by assumption) (by assumption) (by assumption) rfl ⟨List.Mem.head _, hql, hqb⟩ (by decide) (by decide) ?_)
  rintro v own h7 tk7 ⟨Dn, a, b, t1, t2, rfl, rfl, hal, hbl, hka, hkb⟩ hap F7 N7
  rw [List.singleton_append] at N7
  replace N7 := cb_drop N7 drop_three
  clear F9 N9
  try k_fold
  w_top off
  have hapn := neAll_of hap
  clear hap
  simp only [NeAll, and_true] at hapn
  repeat' ((fail_if_success (with_reducible show wpAny _ _ (call (Value.ref _) _) _ _ _)); walk_at "st")
  k_dflt (refine fn_use (places_c _ _ _ _ a b _ _) (by assumption) (by assumption) (by assumption) (by assumption) (by assumption) rfl ⟨by omega, by omega⟩ (by decide) (by decide) ?_)
  rintro vp ownp hp kp ⟨Dp, qp, np, rfl, rfl, hqp, hqpl⟩ happ Fp Np
  rw [List.singleton_append] at Np
  replace happ := neAll_of happ
  simp only [NeAll, and_true] at happ
  try k_fold
  have hda := dbl_len a
  have hdb := dbl_len b
  repeat' ((fail_if_success (with_reducible show wpAny _ _ (call (Value.ref _) _) _ _ _)); walk_at "st")
  k_dflt (refine fn_use (doubled_c _ _ _ _ a _) (by assumption) (by assumption) (by assumption) (by assumption) (by assumption) rfl (by omega) (by decide) (by decide) ?_)
  rintro vd1 ownd1 hd1 kd1 ⟨rfl, td1, rfl⟩ - Fd1 Nd1
  rw [List.nil_append] at Nd1
  repeat' ((fail_if_success (with_reducible show wpAny _ _ (call (Value.ref _) _) _ _ _)); walk_at "st")
  k_dflt (refine fn_use (doubled_c _ _ _ _ b _) (by assumption) (by assumption) (by assumption) (by assumption) (by assumption) rfl (by omega) (by decide) (by decide) ?_)
  rintro vd2 ownd2 hd2 kd2 ⟨rfl, td2, rfl⟩ - Fd2 Nd2
  rw [List.nil_append] at Nd2
  repeat' ((fail_if_success (with_reducible show wpAny _ _ (call (Value.ref _) _) _ _ _)); walk_at "st")
  k_dflt (refine cb_use (ell_c _ _ _ _ _ (asked a) (asked b) _ _) (by assumption) (by assumption) (by assumption) (by assumption) (by assumption) rfl (by rw [asked_len, asked_len]; omega) (by decide) (by decide) ?_)
  intro t3 h3 tk3 F3 N3
  rw [law_one]
  try k_fold
  repeat' ((fail_if_success (with_reducible show wpAny _ _ (compareOp CmpOp.In _ _) _ _ _)); walk_at "st")
  (try k_unfold); (try dsimp only)
  refine in_list_ints (led_isListI N3 (List.Mem.tail _ (List.Mem.head _))) (iv_ints qp) ?_
  rw [any_mem, hqp]
  repeat' ((fail_if_success (with_reducible show wpAny _ _ (subscriptTail _ _ _ _) _ _ _)); walk_at "st")
  · exact (bool_ne_self (by assumption)).elim
  (rename News _ _ _ _ => N4)
  refine menu_item ⟨_, (N4 _ (List.Mem.head _)).1, rfl, _, rfl⟩ (fmod_lo _ (by decide)) (fmod_hi _ (by decide)) ?_
  intro tail tt htail htl
  repeat' ((fail_if_success (with_reducible show wpAny _ _ (call (Value.ref _) _) _ _ _)); walk_at "st")
  rw [show head5 ++ dbl a ++ [34] ++ (head5 ++ dbl b ++ [34] ++ tail) = head5 ++ (dbl a ++ 34 :: (asked b ++ tail)) from by unfold asked; simp]
  k_dflt (refine cb_use (parse_c _ _ _ _ _ (dbl a ++ 34 :: (asked b ++ tail)) _) (by assumption) (by assumption) (by assumption) (by assumption) (by assumption) rfl (by simp only [List.length_append, List.length_cons, asked_len]; omega) (by decide) (by decide) ?_)
  intro t5 h5 tk5 F5 N5
  rw [unq_first]
  repeat' ((fail_if_success (with_reducible show wpAny _ _ (call (Value.ref _) _) _ _ _)); walk_at "st")
  rw [show head5 ++ dbl b ++ [34] ++ tail = head5 ++ (dbl b ++ 34 :: tail) from by simp]
  k_dflt (refine cb_use (parse_c _ _ _ _ _ (dbl b ++ 34 :: tail) _) (by assumption) (by assumption) (by assumption) (by assumption) (by assumption) rfl (by simp only [List.length_append, List.length_cons]; omega) (by decide) (by decide) ?_)
  intro t6 h6 tk6 F6 N6
  rw [unq_line htail]
  repeat' ((fail_if_success (with_reducible show wpAny _ _ (compareOp _ _ _) _ _ _)); walk_at "st")
  (rename News _ _ _ _ => N7)
  refine ne_pairs ⟨_, (N7 _ (List.Mem.tail _ (List.Mem.head _))).1, rfl, _, rfl⟩ ⟨_, (N7 _ (List.Mem.head _)).1, rfl, _, rfl⟩ hka hkb hka hkb (by ke_room) ?_
  rw [show (!(decide (a = a) && decide (b = b))) = false from by simp]
  repeat' ((fail_if_success (with_reducible show wpAny _ _ (exec (Stmt.Assign [Expr.Name _ _] (Expr.ListComp _ _ _ _) _) _) _ _ _)); walk_at "st")
  (rename News _ _ _ _ => N8)
  replace N8 := cb_drop N8 drop_six
  try clear N3
  try clear N4
  try clear N7
  w_top off
  refine cm_assign (by rfl) (by rfl) (by decide) (by rfl) (by decide) (by rfl) (by rfl) ?_
  repeat' ((fail_if_success (with_reducible show wpAny _ _ (pyIter _) _ _ _)); walk_at "st")
  (rename Fr _ _ _ _ => F8); (rename News _ _ _ _ => N8)
  refine ca_range (n := b.length + 1) (JE b) rfl (by assumption) (small_one (by omega) (by omega) (by omega) (by omega)) (by rw [rangeSize_nat]; omega) (by omega) F8 N8 ⟨[], rfl, rfl⟩ (by rfl) (by rfl) ?_ ?_ (fun _ _ h => ⟨_, _, _, h⟩)
  · unfold TurnOf Turn1
    rintro i v ys C oC D h7 tk7 own k7 E7 mC hi ⟨tv, rfl⟩ hJ hyl hmx hoC F7 N7
    simp only [List.cons_append, List.nil_append] at N7 ⊢
    try k_fold
    repeat' ((fail_if_success (with_reducible show CGo _ _ _ _ _ _ ∧ _)); (fail_if_success (with_reducible show wpAny _ _ (subscriptTail _ _ _ _) _ _ _)); walk_at "st")
    repeat' ((fail_if_success (with_reducible show CGo _ _ _ _ _ _ ∧ _)); walk_at "st")
    · (rename Fr _ _ _ _ => F3); (rename News _ _ _ _ => N3)
      exact ⟨⟨_, _, rfl, F3, cb_drop N3 (fun p hp => List.mem_cons_of_mem _ hp)⟩, je_yes hJ (end_cond (by assumption))⟩
    · (rename Fr _ _ _ _ => F3); (rename News _ _ _ _ => N3)
      exact ⟨⟨_, _, rfl, F3, cb_drop N3 (fun p hp => List.mem_cons_of_mem _ hp)⟩, je_no hJ (end_cond (by assumption))⟩
  intro ys De h6 tk6 k6 hJ6 hlt6 F6 N6
  k_lt hlt6
  obtain ⟨qe, rfl, hqe⟩ := hJ6
  replace hqe : qe.map (·.1) = endsOf b := hqe
  have hqel : qe.length ≤ 15 := by
    have e := congrArg List.length hqe
    rw [List.length_map] at e
    have := ends_len b
    omega
  dsimp only
  repeat' ((fail_if_success (with_reducible show wpAny _ _ (exec (Stmt.Assign [Expr.Name _ _] (Expr.ListComp _ _ _ _) _) _) _ _ _)); walk_at "st")
  try clear F8
  try clear N8
  refine cm_assign (by rfl) (by rfl) (by decide) (by rfl) (by decide) (by rfl) (by rfl) ?_
  repeat' ((fail_if_success (with_reducible show wpAny _ _ (pyIter _) _ _ _)); walk_at "st")
  (rename Fr _ _ _ _ => F8); (rename News _ _ _ _ => N8)
  refine ca_list (vs := iv qe) (JI (endsOf b) (cutOf b)) rfl (led_isListI N8 (List.Mem.head _)) (N8 _ (List.Mem.head _)).2.1 (by rw [iv_len]; omega) F8 N8 ⟨[], rfl, rfl⟩ (by rfl) (by rfl) ?_ ?_ (fun _ _ h => ⟨_, _, _, h⟩)
  · unfold TurnOf Turn0
    rintro i v ys C oC D h7 tk7 own k7 E7 mC hi hv hJ hyl hmx hoC F7 N7
    obtain ⟨p9, hp9, rfl⟩ := iv_get hv
    obtain ⟨x9, hx9, hpx⟩ := at_of (f := fun x => x) (by rw [hqe, List.map_id']) hp9
    simp only [List.cons_append, List.nil_append] at N7 ⊢
    try k_fold
    repeat' ((fail_if_success (with_reducible show wpAny _ _ (call (Value.ref _) _) _ _ _)); walk_at "st")
    (try k_unfold); (try dsimp only)
    rw [S_slice_to]
    have hdx := dbl_len (b.take p9.1)
    have htx : (b.take p9.1).length ≤ b.length := by rw [List.length_take]; omega
    k_dflt (refine fn_use (doubled_c _ _ _ _ (b.take p9.1) _) (by assumption) (by assumption) (by assumption) (by assumption) (by assumption) rfl (by omega) (by decide) (by decide) ?_)
    rintro vd1 ownd1 hd1 kd1 ⟨rfl, td1, rfl⟩ - Fd1 Nd1
    rw [List.nil_append] at Nd1
    repeat' ((fail_if_success (with_reducible show CGo _ _ _ _ _ _ ∧ _)); walk_at "st")
    exact ⟨⟨_, _, rfl, Fd1, Nd1⟩, ji_step hJ hx9 (by unfold cutOf; rw [← hpx]; omega)⟩
  intro ys Dc h5 tk5 k5 hJ5 hlt5 F5 N5
  k_lt hlt5
  obtain ⟨qc, rfl, hqc⟩ := ji_end hJ5 (by rw [iv_len]; have := congrArg List.length hqe; rw [List.length_map] at this; omega)
  have hqcl : qc.length ≤ 15 := by
    have e := congrArg List.length hqc
    rw [List.length_map, List.length_map] at e
    have := ends_len b
    omega
  dsimp only
  repeat' ((fail_if_success (with_reducible show wpAny _ _ (exec (Stmt.Assign [Expr.Name _ _] (Expr.ListComp _ _ _ _) _) _) _ _ _)); walk_at "st")
  try clear F8
  try clear N8
  try clear F6
  try clear N6
  w_top off
  have hsl : (S (head5 ++ dbl b ++ [34] ++ tail)).length ≤ 1000 := by rw [S_len]; simp only [List.length_append, head5_len, List.length_cons, List.length_nil]; omega
  refine cm_assign (by rfl) (by rfl) (by decide) (by rfl) (by decide) (by rfl) (by rfl) ?_
  repeat' ((fail_if_success (with_reducible show wpAny _ _ (pyIter _) _ _ _)); walk_at "st")
  (rename Fr _ _ _ _ => F8); (rename News _ _ _ _ => N8)
  refine ca_list (vs := iv qc) (JT (endsOf b) (fun x => b.take x)) rfl (led_isListI N8 (List.Mem.head _)) (N8 _ (List.Mem.head _)).2.1 (by rw [iv_len]; omega) F8 N8 ⟨[], rfl, rfl⟩ (by rfl) (by rfl) ?_ ?_ (fun _ _ h => ⟨_, _, _, h⟩)
  · unfold TurnOf Turn0
    rintro i v ys C oC D h7 tk7 own k7 E7 mC hi hv hJ hyl hmx hoC F7 N7
    obtain ⟨p9, hp9, rfl⟩ := iv_get hv
    obtain ⟨x9, hx9, hpx⟩ := at_of hqc hp9
    simp only [List.cons_append, List.nil_append] at N7 ⊢
    try k_fold
    repeat' ((fail_if_success (with_reducible show wpAny _ _ (call (Value.ref _) _) _ _ _)); walk_at "st")
    (try k_unfold); (try dsimp only)
    have htx : (b.take x9).length ≤ b.length := by rw [List.length_take]; omega
    have hdx := dbl_len (b.take x9)
    rw [hpx, S_slice_to, cut_take (List.mem_of_getElem? hx9)]
    k_dflt (refine cb_use (parse_c _ _ _ _ _ (dbl (b.take x9) ++ [34]) _) (by assumption) (by assumption) (by assumption) (by assumption) (by assumption) rfl (by simp only [List.length_append, List.length_cons, List.length_nil]; omega) (by decide) (by decide) ?_)
    intro td1 hd1 kd1 Fd1 Nd1
    rw [unq_one']
    exact ⟨⟨_, _, rfl, Fd1, Nd1⟩, jt_step hJ hx9 rfl⟩
  intro ys Dm h4 tk4 k4 hJ4 hlt4 F4 N4
  k_lt hlt4
  obtain ⟨qm, rfl, hqm⟩ := jt_end hJ4 (by rw [iv_len]; have := congrArg List.length hqc; rw [List.length_map, List.length_map] at this; omega)
  have hqml : qm.length ≤ 15 := by
    have e := congrArg List.length hqm
    rw [List.length_map, List.length_map] at e
    have := ends_len b
    omega
  dsimp only
  repeat' ((fail_if_success (with_reducible show wpAny _ _ (eval (Expr.ListComp _ _ _ _) _) _ _ _)); walk_at "st")
  try clear F8
  try clear N8
  have hsb : (S b).length ≤ 100 := by rw [S_len]; omega
  refine cm_eval (by rfl) (by decide) (by rfl) (by decide) ?_
  repeat' ((fail_if_success (with_reducible show wpAny _ _ (pyIter _) _ _ _)); walk_at "st")
  (rename Fr _ _ _ _ => F8); (rename News _ _ _ _ => N8)
  refine ca_list (vs := iv qe) (JT (endsOf b) (fun x => b.take x)) rfl (led_isListI N8 (List.Mem.tail _ (List.Mem.tail _ (List.Mem.head _)))) (N8 _ (List.Mem.tail _ (List.Mem.tail _ (List.Mem.head _)))).2.1 (by rw [iv_len]; omega) F8 N8 ⟨[], rfl, rfl⟩ (by rfl) (by rfl) ?_ ?_ (fun _ _ h => ⟨_, _, _, _, h⟩)
  · unfold TurnOf Turn0
    rintro i v ys C oC D h7 tk7 own k7 E7 mC hi hv hJ hyl hmx hoC F7 N7
    obtain ⟨p9, hp9, rfl⟩ := iv_get hv
    obtain ⟨x9, hx9, hpx⟩ := at_of (f := fun x => x) (by rw [hqe, List.map_id']) hp9
    simp only [List.cons_append, List.nil_append] at N7 ⊢
    try k_fold
    repeat' ((fail_if_success (with_reducible show CGo _ _ _ _ _ _ ∧ _)); walk_at "st")
    (try k_unfold); (try dsimp only)
    rw [S_slice_to, hpx]
    exact ⟨⟨_, _, rfl, by assumption, by assumption⟩, jt_step hJ hx9 rfl⟩
  intro ys D2 h3 tk3 k3 hJ3 hlt3 F3 N3
  obtain ⟨q2, rfl, hq2⟩ := jt_end hJ3 (by rw [iv_len]; have := congrArg List.length hqe; rw [List.length_map] at this; omega)
  repeat' ((fail_if_success (with_reducible show wpAny _ _ (compareOp _ _ _) _ _ _)); walk_at "st")
  (try k_unfold); (try dsimp only)
  refine ne_txts (q := qm) (r := q2) (by rw [hqm]; intro x hx; obtain ⟨y, _, rfl⟩ := List.mem_map.mp hx; exact okT_take hkb _) (by rw [hq2]; intro x hx; obtain ⟨y, _, rfl⟩ := List.mem_map.mp hx; exact okT_take hkb _)
    (led_isList N3 (List.Mem.tail _ (List.Mem.head _))) (led_isList N3 (List.Mem.head _)) (by ke_room) ?_
  rw [show (!decide (qm.map (·.1) = q2.map (·.1))) = false from by rw [hqm, hq2]; simp]
  repeat' ((fail_if_success (with_reducible show wpAny _ _ (exec (Stmt.Assign [Expr.Name _ _] (Expr.ListComp _ _ _ _) _) _) _ _ _)); walk_at "st")
  (rename News _ _ _ _ => N2)
  replace N2 := cb_drop N2 (fun p hp => List.mem_cons_of_mem _ hp)
  try clear F8
  try clear N8
  try clear F4
  try clear N4
  try clear N3
  w_top off
  refine cz_assign (by rfl) (by rfl) (by decide) (by rfl) (by decide) (by rfl) (by rfl) (by decide) (by rfl) (by rfl) ?_
  repeat' ((fail_if_success (with_reducible show wpAny _ _ (call _ _) _ _ _)); walk_at "st")
  (rename Fr _ _ _ _ => F8); (rename News _ _ _ _ => N8)
  have hda : (dbl a).length ≤ 42 := by have := dbl_len a; omega
  refine cz_zip (xs := iv qc) (zs := sv qm) (JP (endsOf b) (fun x => decide (x ∈ plc b a [0])) (cutOf b)) rfl (led_isListI N8 (List.Mem.tail _ (List.Mem.head _))) (led_isList N8 (List.Mem.head _)) (N8 _ (List.Mem.tail _ (List.Mem.head _))).2.1 (N8 _ (List.Mem.head _)).2.1 (by rw [iv_len]; omega) F8 N8 ⟨[], rfl, rfl⟩ ?_ ?_ (fun _ _ h => ⟨_, _, _, h⟩)
  · unfold TurnZ
    rintro i x y ys C oC D h7 tk7 own k7 E7 mC hvx hvy hJ hyl hma hmb hoC F7 N7
    obtain ⟨p9, hp9, rfl⟩ := iv_get hvx
    obtain ⟨p8, hp8, rfl⟩ := sv_get hvy
    obtain ⟨x9, hx9, hpx⟩ := at_of hqc hp9
    obtain ⟨x8, hx8, hpy⟩ := at_of hqm hp8
    obtain rfl : x9 = x8 := by rw [hx9] at hx8; exact Option.some.inj hx8
    have hxb := (ends_in (List.mem_of_getElem? hx9)).1
    simp only [List.cons_append, List.nil_append] at N7 ⊢
    try k_fold
    repeat' ((fail_if_success (with_reducible show wpAny _ _ (call (Value.ref _) _) _ _ _)); walk_at "st")
    (try k_unfold); (try dsimp only)
    rw [hpy]
    k_dflt (refine cb_use (ell_c _ _ _ _ _ a (b.take x9) _ _) (by assumption) (by assumption) (by assumption) (by assumption) (by assumption) rfl ⟨by omega, by rw [List.length_take]; omega⟩ (by decide) (by decide) ?_)
    intro td1 hd1 kd1 Fd1 Nd1
    rw [law_two hxb]
    repeat' ((fail_if_success (with_reducible show CGo _ _ _ _ _ _ ∧ _)); walk_at "st")
    · exact ⟨⟨_, _, rfl, Fd1, Nd1⟩, jp_yes hJ hx9 hpx (decide_eq_true (by assumption))⟩
    · exact ⟨⟨_, _, rfl, Fd1, Nd1⟩, jp_no hJ hx9 (decide_eq_false (by assumption))⟩
  intro ys Dt h6 tk6 k6 hJ6 hlt6 F6 N6
  k_lt hlt6
  obtain ⟨qt, rfl, hqt⟩ := jp_end hJ6 (by rw [iv_len, sv_len]; have e1 := congrArg List.length hqc; have e2 := congrArg List.length hqm; rw [List.length_map, List.length_map] at e1 e2; omega)
  dsimp only
  repeat' ((fail_if_success (with_reducible show wpAny _ _ (eval (Expr.ListComp _ _ _ _) _) _ _ _)); walk_at "st")
  try clear F8
  try clear N8
  refine cz_eval (by rfl) (by decide) (by rfl) (by decide) (by rfl) (by rfl) (by decide) ?_
  repeat' ((fail_if_success (with_reducible show wpAny _ _ (call _ _) _ _ _)); walk_at "st")
  (rename Fr _ _ _ _ => F8); (rename News _ _ _ _ => N8)
  refine cz_zip (xs := iv qc) (zs := iv qe) (JP (endsOf b) (fun x => decide (x ∈ plc b a [0])) (cutOf b)) rfl (led_isListI N8 (List.Mem.tail _ (List.Mem.tail _ (List.Mem.head _)))) (led_isListI N8 (List.Mem.tail _ (List.Mem.tail _ (List.Mem.tail _ (List.Mem.head _))))) (N8 _ (List.Mem.tail _ (List.Mem.tail _ (List.Mem.head _)))).2.1 (N8 _ (List.Mem.tail _ (List.Mem.tail _ (List.Mem.tail _ (List.Mem.head _))))).2.1 (by rw [iv_len]; omega) F8 N8 ⟨[], rfl, rfl⟩ ?_ ?_ (fun _ _ h => ⟨_, _, _, _, h⟩)
  · unfold TurnZ
    rintro i x y ys C oC D h7 tk7 own k7 E7 mC hvx hvy hJ hyl hma hmb hoC F7 N7
    obtain ⟨p9, hp9, rfl⟩ := iv_get hvx
    obtain ⟨p8, hp8, rfl⟩ := iv_get hvy
    obtain ⟨x9, hx9, hpx⟩ := at_of hqc hp9
    obtain ⟨x8, hx8, hpy⟩ := at_of (f := fun x => x) (by rw [hqe, List.map_id']) hp8
    obtain rfl : x9 = x8 := by rw [hx9] at hx8; exact Option.some.inj hx8
    simp only [List.cons_append, List.nil_append] at N7 ⊢
    try k_fold
    repeat' ((fail_if_success (with_reducible show wpAny _ _ (compareOp _ _ _) _ _ _)); walk_at "st")
    (try k_unfold); (try dsimp only)
    refine in_list_ints (led_isListI N7 (List.Mem.tail _ (List.Mem.tail _ (List.Mem.tail _ (List.Mem.tail _ (List.Mem.tail _ (List.Mem.tail _ (List.Mem.head _)))))))) (iv_ints qp) ?_
    rw [any_mem, hqp, hpy]
    repeat' ((fail_if_success (with_reducible show CGo _ _ _ _ _ _ ∧ _)); walk_at "st")
    · exact ⟨⟨_, _, rfl, by assumption, by assumption⟩, jp_yes hJ hx9 hpx (decide_eq_true (by assumption))⟩
    · exact ⟨⟨_, _, rfl, by assumption, by assumption⟩, jp_no hJ hx9 (decide_eq_false (by assumption))⟩
  intro ys D2 h5 tk5 k5 hJ5 hlt5 F5 N5
  obtain ⟨q2, rfl, hq2⟩ := jp_end hJ5 (by rw [iv_len, iv_len]; have e1 := congrArg List.length hqc; have e2 := congrArg List.length hqe; rw [List.length_map] at e1 e2; rw [List.length_map] at e1; omega)
  repeat' ((fail_if_success (with_reducible show wpAny _ _ (compareOp _ _ _) _ _ _)); walk_at "st")
  (try k_unfold); (try dsimp only)
  refine ke_ne_ints (led_isListI N5 (List.Mem.tail _ (List.Mem.head _))) (led_isListI N5 (List.Mem.head _)) (iv_ints qt) (iv_ints q2) (by ke_room) ?_
  rw [show (!decide ((qt.map fun p => (p.1 : Int)) = q2.map fun p => (p.1 : Int))) = false from same_ints_of (by rw [hqt, hq2])]
  have hIt := iv_ints qt
  have hll : (head5 ++ dbl b ++ [34] ++ tail).length ≤ 1000 := by rw [S_len] at hsl; exact hsl
  have hqtl : qt.length ≤ 15 := by
    have e := congrArg List.length hqt
    rw [List.length_map, List.length_map] at e
    have h1 := ends_len b
    have h2 := List.length_filter_le (fun x => decide (x ∈ plc b a [0])) (endsOf b)
    omega
  replace N5 := cb_drop N5 (fun p hp => List.mem_cons_of_mem _ hp)
  try clear N8
  try clear F8
  repeat' ((fail_if_success (with_reducible show wpAny _ _ (binaryOp _ (Value.ref _) (Value.ref _)) _ _ _)); walk_at "st")
  (try k_unfold); (try dsimp only)
  (rename Fr _ _ _ _ => F4); (rename News _ _ _ _ => N4)
  refine kmk_add_ints F4 N4 (led_isListI N4 (List.Mem.tail _ (List.Mem.head _))) (led_isListI (vs := [_]) N4 (List.Mem.head _)) (iv_ints qt) (.cons _ _ .nil) ?_ (by rw [List.length_map, List.length_cons, List.length_nil]; simp [sizeLine]; omega)
  intro D3 us h2 F2 N2 hlt2 hI2
  k_lt hlt2
  repeat' ((fail_if_success (with_reducible show wpAny _ _ (call (Value.builtin "min") _) _ _ _)); walk_at "st")
  (try k_unfold); (try dsimp only)
  refine kso_min F2 N2 (led_isListI N2 (List.Mem.head _)) hI2 (by simp) rfl ?_
  intro h1 M t1' tk1 F1 N1 hM1 hM2
  repeat' ((fail_if_success (with_reducible show wpAny _ _ (exec (Stmt.Assign [Expr.Name _ _] (Expr.ListComp _ _ _ _) _) _) _ _ _)); walk_at "st")
  (rename News _ _ _ _ => N0)
  replace N0 := cb_drop N0 (fun p hp => List.mem_cons_of_mem _ (List.mem_cons_of_mem _ (List.mem_cons_of_mem _ (List.mem_cons_of_mem _ (List.mem_cons_of_mem _ (List.mem_cons_of_mem _ (List.mem_cons_of_mem _ hp)))))))
  have hfirst := first_is hqt hM1 hM2
  w_top off
  have hll : (head5 ++ dbl b ++ [34] ++ tail).length ≤ 1000 := by rw [S_len] at hsl; exact hsl
  refine cm_assign (by rfl) (by rfl) (by decide) (by rfl) (by decide) (by rfl) (by rfl) ?_
  repeat' ((fail_if_success (with_reducible show wpAny _ _ (pyIter _) _ _ _)); walk_at "st")
  (rename Fr _ _ _ _ => F8); (rename News _ _ _ _ => N8)
  refine ca_range (n := (head5 ++ dbl b ++ [34] ++ tail).length + 1) (JB fun k => ematch (head5 ++ dbl a ++ [34] ++ dots) ((head5 ++ dbl b ++ [34] ++ tail).take k)) rfl (by assumption) (small_one (by omega) (by omega) (by omega) (by omega)) (by rw [rangeSize_nat]; omega) (by omega) F8 N8 rfl (by rfl) (by rfl) ?_ ?_ (fun _ _ h => ⟨_, _, _, h⟩)
  · unfold TurnOf Turn0
    rintro i v ys C oC D h7 tk7 own k7 E7 mC hi ⟨tv, rfl⟩ hJ hyl hmx hoC F7 N7
    simp only [List.cons_append, List.nil_append] at N7 ⊢
    try k_fold
    repeat' ((fail_if_success (with_reducible show wpAny _ _ (call (Value.ref _) _) _ _ _)); walk_at "st")
    (try k_unfold); (try dsimp only)
    rw [show (0 : Int) + (i : Int) * 1 = (i : Int) by omega, S_slice_to]
    k_dflt (refine cb_use (ell_c _ _ _ _ _ (head5 ++ dbl a ++ [34] ++ dots) ((head5 ++ dbl b ++ [34] ++ tail).take i) _ _) (by assumption) (by assumption) (by assumption) (by assumption) (by assumption) rfl ⟨by simp only [List.length_append, head5_len, dots_len, List.length_cons, List.length_nil]; omega, by rw [List.length_take]; omega⟩ (by decide) (by decide) ?_)
    intro td1 hd1 kd1 Fd1 Nd1
    exact ⟨⟨_, _, rfl, Fd1, Nd1⟩, jb_step hJ rfl⟩
  intro ys Dt h6 tk6 k6 hJ6 hlt6 F6 N6
  k_lt hlt6
  dsimp only
  repeat' ((fail_if_success (with_reducible show wpAny _ _ (eval (Expr.ListComp _ _ _ _) _) _ _ _)); walk_at "st")
  try clear F8
  try clear N8
  obtain ⟨tl, htl⟩ : ∃ tl, tl = (List.range ((head5 ++ dbl b ++ [34] ++ tail).length + 1)).map fun k => ematch (head5 ++ dbl a ++ [34] ++ dots) ((head5 ++ dbl b ++ [34] ++ tail).take k) := ⟨_, rfl⟩
  obtain rfl : ys = bv tl := by rw [htl]; exact hJ6
  have htll : tl.length = (head5 ++ dbl b ++ [34] ++ tail).length + 1 := by rw [htl, List.length_map, List.length_range]
  refine cm_eval (by rfl) (by decide) (by rfl) (by decide) ?_
  repeat' ((fail_if_success (with_reducible show wpAny _ _ (pyIter _) _ _ _)); walk_at "st")
  (rename Fr _ _ _ _ => F8); (rename News _ _ _ _ => N8)
  refine ca_list (vs := bv tl) (JA tl) rfl (led_isListI N8 (List.Mem.head _)) (N8 _ (List.Mem.head _)).2.1 (by rw [bv_len]; omega) F8 N8 rfl (by rfl) (by rfl) ?_ ?_ (fun _ _ h => ⟨_, _, _, _, h⟩)
  · unfold TurnOf Turn0
    rintro i v ys C oC D h7 tk7 own k7 E7 mC hi hv hJ hyl hmx hoC F7 N7
    obtain ⟨b9, hb9, rfl⟩ := bv_get hv
    simp only [List.cons_append, List.nil_append] at N7 ⊢
    try k_fold
    cases b9
    · repeat' ((fail_if_success (with_reducible show CGo _ _ _ _ _ _ ∧ _)); walk_at "st")
      exact ⟨⟨_, _, rfl, F7, N7⟩, ja_step hJ hb9⟩
    · repeat' ((fail_if_success (with_reducible show CGo _ _ _ _ _ _ ∧ _)); walk_at "st")
      exact ⟨⟨_, _, rfl, F7, N7⟩, ja_step hJ hb9⟩
  intro ys D2 h5 tk5 k5 hJ5 hlt5 F5 N5
  k_lt hlt5
  obtain rfl : ys = bv tl := by
    have h : ys = bv (tl.take (bv tl).length) := hJ5
    rw [bv_len, List.take_length] at h
    exact h
  repeat' ((fail_if_success (with_reducible show wpAny _ _ (eval (Expr.ListComp _ _ _ _) _) _ _ _)); walk_at "st")
  (try k_unfold); (try dsimp only)
  try clear F8
  try clear N8
  refine cm_eval (by rfl) (by decide) (by rfl) (by decide) ?_
  repeat' ((fail_if_success (with_reducible show wpAny _ _ (pyIter _) _ _ _)); walk_at "st")
  (rename Fr _ _ _ _ => F8); (rename News _ _ _ _ => N8)
  refine ca_range (n := (head5 ++ dbl b ++ [34] ++ tail).length + 1) (JB fun k => decide (M ≤ (k : Int))) rfl (by assumption) (small_one (by omega) (by omega) (by omega) (by omega)) (by rw [rangeSize_nat]; omega) (by omega) F8 N8 rfl (by rfl) (by rfl) ?_ ?_ (fun _ _ h => ⟨_, _, _, _, h⟩)
  · unfold TurnOf Turn0
    rintro i v ys C oC D h7 tk7 own k7 E7 mC hi ⟨tv, rfl⟩ hJ hyl hmx hoC F7 N7
    simp only [List.cons_append, List.nil_append] at N7 ⊢
    try k_fold
    repeat' ((fail_if_success (with_reducible show CGo _ _ _ _ _ _ ∧ _)); walk_at "st")
    have e : (0 : Int) + (i : Int) * 1 = (i : Int) := by omega
    exact ⟨⟨_, _, rfl, F7, N7⟩, jb_step hJ (by rw [e])⟩
  intro ys D4 h4 tk4 k4 hJ4 hlt4 F4 N4
  repeat' ((fail_if_success (with_reducible show wpAny _ _ (compareOp _ _ _) _ _ _)); walk_at "st")
  (try k_unfold); (try dsimp only)
  obtain rfl : ys = bv tl := by rw [htl]; have h : ys = _ := hJ4; rw [h]; exact congrArg bv (told_eq htail hfirst).symm
  refine eq_bools (led_isListI N4 (List.Mem.tail _ (List.Mem.head _))) (led_isListI N4 (List.Mem.head _)) (by ke_room) ?_
  rw [decide_eq_true rfl]
  k_steps)
end Mine
theorem PySem.Challenge.cw_pg0070_01_holds : PySem.Challenge.rw_pg0070_01.Holds :=
  Mine.t1
