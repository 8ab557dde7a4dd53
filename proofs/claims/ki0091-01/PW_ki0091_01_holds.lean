import PyProof.Rows.All
import Wide.All
import OpenK.AllK
import Wide.FinOn
import PySem.Challenge.RW_ki0091_01
open PySem PySem.W PyProof.Rows
set_option Elab.async false
set_option maxRecDepth 100000
set_option maxHeartbeats 8000000
set_option compiler.extract_closed false
namespace Mine
open_top hd for PySem.Challenge.rw_ki0091_01
noncomputable def Grew (s s' : Shared) : Prop := s.toks ≤ s'.toks
theorem Grew.refl (s : Shared) : Grew s s := Nat.le_refl _
theorem Grew.trans {a b c : Shared} (h : Grew a b) (k : Grew b c) : Grew a c := Nat.le_trans h k
theorem Grew.setGen {s s' : Shared} {g : Nat} {x : GenState} (h : Grew (s.setGen g x) s') : Grew s s' := h
theorem Grew.setGen' {s s' : Shared} {g : Nat} {x : GenState} (h : Grew s s') : Grew s (s'.setGen g x) := h
theorem runs_grew {M : Model} {Γ : Ctx} {p : Pos} {t : Sem Fin} {fs : List Frame} {s s' : Shared} {e : End} (h : Runs M Γ p t fs s e s') : Grew s s' := by
  induction h with
  | done => exact Grew.refl _
  | raise => exact Grew.refl _
  | again _ _ ih => exact ih
  | rule _ ih => exact ih
  | «at» _ ih => exact ih
  | load _ _ ih => exact ih
  | update _ _ ih => exact ih
  | loadIfAlive _ ih => exact ih
  | point _ ih => exact ih
  | alloc _ ih => exact ih
  | fresh _ ih => exact Nat.le_trans (Nat.le_succ _) ih
  | ask _ ih => exact ih
  | choose _ _ ih => exact ih
  | os _ ih => exact ih
  | handled _ ih => exact ih
  | genState _ _ ih => exact ih
  | stack _ ih => exact ih
  | thread _ ih => exact ih
  | newGen _ ih => exact ih
  | call _ _ i1 i2 => exact Grew.trans i1 i2
  | callSusp _ ih => exact ih
  | yield => exact Grew.refl _
  | resumeFresh _ _ _ _ i1 i2 => exact Grew.trans i1 i2
  | resumeSuspended _ _ _ _ i1 i2 => exact Grew.trans i1 i2
  | resumeJustStarted _ _ _ ih => exact ih
  | resumeThrowFresh _ _ ih => exact ih
  | resumeRunning _ _ ih => exact ih
  | resumeFinished _ _ ih => exact ih
  | segRet _ _ i1 i2 => exact Grew.trans i1 i2
  | segGen _ _ i1 i2 => exact Grew.trans i1 i2
  | segSuspOut _ _ ih => exact ih
  | segSuspGen _ _ _ _ i1 i2 => exact Grew.trans i1 i2
theorem wakes_grew {M : Model} {Γ : Ctx} {p : Pos} {g : Nat} {r : Resume} {s s' : Shared} {res : GenResult} (h : Wakes M Γ p g r s res s') : Grew s s' := by
  unfold Wakes at h
  split at h
  · exact h.elim
  · split at h
    · obtain ⟨e₁, s₁, h1, _, _, rfl⟩ := h; exact (runs_grew h1 : Grew _ _)
    · obtain ⟨_, rfl⟩ := h; exact Grew.refl _
    · obtain ⟨_, rfl⟩ := h; exact Grew.refl _
  · obtain ⟨e₁, s₁, h1, _, _, rfl⟩ := h; exact (runs_grew h1 : Grew _ _)
  · obtain ⟨_, rfl⟩ := h; exact Grew.refl _
  · obtain ⟨_, rfl⟩ := h; exact Grew.refl _
theorem wp_grew {α : Type} (M : Model) (Γ : Ctx) : ∀ (t : Sem α) (Q : α → Pos → Shared → Prop) (E : Value → Pos → Shared → Prop) (p : Pos) (s : Shared),
    Sem.wp M Γ t Q E p s → Sem.wp M Γ t (fun a p' s' => Q a p' s' ∧ Grew s s') (fun a p' s' => E a p' s' ∧ Grew s s') p s := by
  intro t
  have up : ∀ (t : Sem α) (Q : α → Pos → Shared → Prop) (E : Value → Pos → Shared → Prop) (p : Pos) (s s₁ : Shared), Grew s s₁ →
      Sem.wp M Γ t (fun a p' s' => Q a p' s' ∧ Grew s₁ s') (fun a p' s' => E a p' s' ∧ Grew s₁ s') p s₁ → Sem.wp M Γ t (fun a p' s' => Q a p' s' ∧ Grew s s') (fun a p' s' => E a p' s' ∧ Grew s s') p s₁ := fun t Q E p s s₁ hg h =>
    Sem.wp_mono M Γ t (fun _ _ _ k => ⟨k.1, hg.trans k.2⟩) (fun _ _ _ k => ⟨k.1, hg.trans k.2⟩) p s₁ h
  induction t with
  | pure a => intro Q E p s h; simp only [Sem.wp] at h ⊢; exact ⟨h, Grew.refl _⟩
  | raise e => intro Q E p s h; simp only [Sem.wp] at h ⊢; exact ⟨h, Grew.refl _⟩
  | unsupported w => intro Q E p s h; simp only [Sem.wp] at h
  | finish e => intro Q E p s h; simp only [Sem.wp] at h
  | rule t k ih => intro Q E p s h; simp only [Sem.wp] at h ⊢; exact ih _ Q E p s h
  | «at» p' k ih => intro Q E p s h; simp only [Sem.wp] at h ⊢; exact ih _ Q E p' s h
  | load a pt k ih => intro Q E p s h; simp only [Sem.wp] at h ⊢; obtain ⟨o, ho, h⟩ := h; exact ⟨o, ho, ih _ Q E p s h⟩
  | update a pt f k ih => intro Q E p s h; simp only [Sem.wp] at h ⊢; exact ⟨h.1, up _ Q E p s _ (Nat.le_refl _) (ih _ Q E p _ h.2)⟩
  | alloc o k ih => intro Q E p s h; simp only [Sem.wp] at h ⊢; exact up _ Q E p s _ (Nat.le_refl _) (ih _ Q E p _ h)
  | loadIfAlive a k ih => intro Q E p s h; simp only [Sem.wp] at h ⊢; exact ih _ Q E p s h
  | point l k ih => intro Q E p s h; simp only [Sem.wp] at h ⊢; exact ih _ Q E p s h
  | register a k ih => intro Q E p s h; simp only [Sem.wp] at h
  | fresh k ih => intro Q E p s h; simp only [Sem.wp] at h ⊢; exact up _ Q E p s _ (Nat.le_succ _) (ih _ Q E p _ h)
  | ask k ih => intro Q E p s h; simp only [Sem.wp] at h ⊢; exact ih _ Q E p s h
  | choose src n k ih => intro Q E p s h; simp only [Sem.wp] at h ⊢; exact ⟨h.1, up _ Q E p s _ (Nat.le_refl _) (ih _ Q E p _ h.2)⟩
  | os q l k ih => intro Q E p s h; simp only [Sem.wp] at h ⊢; exact up _ Q E p s _ (Nat.le_refl _) (ih _ Q E p _ h)
  | call c hd g l k ih =>
    intro Q E p s h
    simp only [Sem.wp] at h ⊢
    obtain ⟨r, s', hr, h⟩ := h
    exact ⟨r, s', hr, up _ Q E p s _ (runs_grew hr) (ih _ Q E p _ h)⟩
  | handled own k ih => intro Q E p s h; simp only [Sem.wp] at h ⊢; exact ih _ Q E p s h
  | newGen c k ih => intro Q E p s h; simp only [Sem.wp] at h ⊢; exact up _ Q E p s _ (Nat.le_refl _) (ih _ Q E p _ h)
  | genState g k ih => intro Q E p s h; simp only [Sem.wp] at h ⊢; obtain ⟨st, hs, h⟩ := h; exact ⟨st, hs, ih _ Q E p s h⟩
  | resume g r l k ih =>
    intro Q E p s h
    simp only [Sem.wp] at h ⊢
    obtain ⟨res, s', hw, h⟩ := h
    exact ⟨res, s', hw, up _ Q E p s _ (wakes_grew hw) (ih _ Q E p _ h)⟩
  | «yield» v g l k ih => intro Q E p s h; simp only [Sem.wp] at h
  | stack k ih => intro Q E p s h; simp only [Sem.wp] at h ⊢; exact ih _ Q E p s h
  | fork c k ih => intro Q E p s h; simp only [Sem.wp] at h
  | thread k ih => intro Q E p s h; simp only [Sem.wp] at h ⊢; exact ih _ Q E p s h
  | await a tk d l k ih => intro Q E p s h; simp only [Sem.wp] at h
/-- the count of tokens never falls: what is asked of the end may be asked under that bound -/
theorem wpAny_toks {α : Type} {M : Model} {A : Around} {t : Sem α} {Q : α → Shared → Prop} {E : Value → Shared → Prop} {s : Shared}
    (h : wpAny M A t (fun a s' => s.toks ≤ s'.toks → Q a s') E s) : wpAny M A t Q E s := fun Γ p hΓ =>
  Sem.wp_mono M Γ t (fun _ _ _ k => k.1 k.2) (fun _ _ _ k => k.1) p s (wp_grew M Γ t _ _ p s (h Γ p hΓ))
noncomputable abbrev tupOf (vs : Array Value) (n : Nat) : Obj := { cls := .type "tuple", data := .seq vs n }
noncomputable abbrev prg : Program := PySem.Challenge.rw_ki0091_01.row.prog
section
variable {prog : Program} {w : World} {A : Around} {E : Value → Shared → Prop} {s : Shared}
/-- `replace` by a bound of its marks; the token of what comes back is the old text's or a new one -/
theorem replace_core {x y z : Str} {t u v : Nat} {Q : Value → Shared → Prop} (hu : 1 ≤ u) (hv : 1 ≤ v) (huv : @Ne Nat u v) (hn : x.length + (Builtin.Str.occurrences x y 0 x.length (x.length + 1)).length * z.length ≤ 16777216) (hnb : NoneBooked s.heap)
    (h : ∀ t' tk : Nat, s.toks ≤ tk → t' = t ∨ (s.toks ≤ t' ∧ t' < tk) → Q (.str (Txt.replace x y z) t') { s with toks := tk }) : wpAny (model prog w) A (call (.builtin "str.replace") [.str x t, .str y u, .str z v]) Q E s := by
  have same : Txt.replace x y z = x → Q (.str x t) s := fun e => by
    have q := h t s.toks (Nat.le_refl _) (.inl rfl)
    rwa [e] at q
  have zero : (u == 0 || v == 0) = false := Bool.or_eq_false_iff.mpr ⟨beq_eq_false_iff_ne.mpr (Nat.ne_of_gt hu), beq_eq_false_iff_ne.mpr (Nat.ne_of_gt hv)⟩
  refine call_givesAt F.slot_str_replace (typeIs_str _ _ _) F.entry_str_replace (F.args_str_replace_3 _ _ _)
    (gives_str_replace2 x y z t u v fun _ => ⟨zero, beq_eq_false_iff_ne.mpr huv, decide_eq_false (by rw [sizeLine_eq]; omega)⟩) hnb ?_
  split
  next c => exact same (if_pos c)
  next c =>
    have e : Txt.replace x y z = _ := if_neg c
    have fresh : (Made.str (Builtin.Str.glued z (Builtin.Str.partsBetween x (Builtin.Str.occurrences x y 0 x.length (x.length + 1)) y.length))).post Q s := by
      refine ⟨?_, e ▸ h _ _ (Nat.le_succ _) (.inr ⟨Nat.le_refl _, Nat.lt_succ_self _⟩)⟩
      have own := congrArg Str.length (StrLaws.glued_between_self x y (x.length + 1))
      simp only [size_glued, length_partsBetween, Nat.add_sub_cancel, sizeLine_eq] at own ⊢
      omega
    split
    next d => exact ⟨same (e.trans (eq_of_beq d ▸ StrLaws.glued_between_self x y _)), fresh⟩
    next => exact fresh
theorem replace_tok {x y z : Str} {t u v : Nat} {Q : Value → Shared → Prop} (hu : 1 ≤ u) (hv : 1 ≤ v) (huv : @Ne Nat u v) (hx : x.length ≤ 100000) (hz : z.length ≤ 100) (hnb : NoneBooked s.heap)
    (h : ∀ t' tk : Nat, s.toks ≤ tk → t' = t ∨ (s.toks ≤ t' ∧ t' < tk) → Q (.str (Txt.replace x y z) t') { s with toks := tk }) : wpAny (model prog w) A (call (.builtin "str.replace") [.str x t, .str y u, .str z v]) Q E s :=
  replace_core hu hv huv (by have := Nat.mul_le_mul (StrLaws.occ_length_le x y 0 x.length (x.length + 1)) hz; omega) hnb h
theorem replace_once {x y z r : Str} {t u v : Nat} {Q : Value → Shared → Prop} (hu : 1 ≤ u) (hv : 1 ≤ v) (huv : @Ne Nat u v) (hc : (Builtin.Str.occurrences x y 0 x.length (x.length + 1)).length = 1) (er : Txt.replace x y z = r) (hx : x.length ≤ 100000) (hz : z.length ≤ 100000) (hnb : NoneBooked s.heap)
    (h : ∀ t' tk : Nat, s.toks ≤ tk → t' = t ∨ (s.toks ≤ t' ∧ t' < tk) → Q (.str r t') { s with toks := tk }) : wpAny (model prog w) A (call (.builtin "str.replace") [.str x t, .str y u, .str z v]) Q E s :=
  replace_core hu hv huv (by rw [hc]; omega) hnb (er ▸ h)
end
theorem room {a b dp R : Nat} (h : dp + b < R) (hab : a ≤ b) : dp + a < R := Nat.lt_of_le_of_lt (Nat.add_le_add_left hab dp) h
section
variable {prog : Program} {w : World} {A : Around} {E : Value → Shared → Prop} {s : Shared} {h₀ : Heap} {L : Addr} {m : Str → Option Value} {news : List (Addr × Obj)}
theorem last_item {value slice : PySem.Expr} {l : Addr} {vs : List Value} {u : Tok} {v : Value} {Q : Value → Shared → Prop} (hl : s.heap.IsList l (vs ++ [v]).toArray) (h : Q v s)
    (hs : subscripted slice false (.ref l) (.int (-1) u) = operate [.ref l, .int (-1) u] (getItem (.ref l) (.int (-1) u)) := by with_unfolding_all rfl) :
    wpAny (model prog w) A (subscriptTail value slice (.ref l) (.int (-1) u)) Q E s := by
  refine kde_neg (j := vs.length) hl (by decide) (by decide) ?_ (by simp) h hs
  simp only [List.length_append, List.length_cons, List.length_nil, Nat.zero_add]
  have := @seqIndex_neg (-1) (vs.length + 1) (by decide) (by omega)
  rw [this]; congr 1; omega
theorem len_snoc {l : Addr} {vs : List Value} {v : Value} {n : Nat} {Q : Value → Shared → Prop} (N : News h₀ L s.heap news) (hm : (l, listOf (vs ++ [v]).toArray n) ∈ news) (hz : vs.length < 10000)
    (h : Q (.int ((vs.length : Int) + 1) (s.toks + 1)) { s with toks := s.toks + 1 + 1 }) : wpAny (model prog w) A (call (.builtin "len") [.ref l]) Q E s := by
  refine Calls.call_len_list (News.isList N hm) (by simp; omega) ?_
  have e : (((vs ++ [v]).toArray.size : Nat) : Int) = (vs.length : Int) + 1 := by simp
  rw [e]; exact h
theorem mul_step {x : Str} {t u : Tok} {n : Nat} {k : Int} {Q : Value → Shared → Prop} (e : k = (n : Int)) (hx : x.length < 100) (hn : n < 10000)
    (h : ∀ t' tk : Nat, (Txt.mul x n).length = x.length * n → s.toks ≤ tk → Q (.str (Txt.mul x n) t') { s with toks := tk }) : wpAny (model prog w) A (binaryOp .Mult (.str x t) (.int k u)) Q E s := by
  subst e
  refine wpAny_toks (SB.mul (mulOk_of 100 10000 (by omega) (by omega) (by omega) (by decide) (by decide)) fun t' tk hle => h t' tk ?_ hle)
  have e := len_mul x (n : Int)
  rw [if_neg (by simp)] at e
  exact_mod_cast e
theorem add_strs {x y : Str} {t u : Tok} {Q : Value → Shared → Prop} (hz : x.length + y.length ≤ 1000000)
    (h : ∀ t' tk : Nat, (x ++ y).length = x.length + y.length → s.toks ≤ tk → Q (.str (x ++ y) t') { s with toks := tk }) : wpAny (model prog w) A (binaryOp .Add (.str x t) (.str y u)) Q E s :=
  wpAny_toks (SB.add (fun t' k hle => h t' k (Str.length_append x y) hle) (by rw [sizeLine_eq]; omega))
/-- a text with a text behind it that is not empty: the token is the right one's or new -/
theorem add_tokR {x y : Str} {t u : Nat} {Q : Value → Shared → Prop} (hy : 0 < y.length) (hu : 1 ≤ u ∧ u < s.toks) (hz : x.length + y.length ≤ 1000000)
    (h : ∀ t' tk : Nat, (x ++ y).length = x.length + y.length → s.toks ≤ tk → 1 ≤ t' ∧ t' < tk → Q (.str (x ++ y) t') { s with toks := tk }) : wpAny (model prog w) A (binaryOp .Add (.str x t) (.str y u)) Q E s := by
  refine P.add_str ?_
  have hy0 : (y.length == 0) = false := by simp; omega
  cases hx : (x.length == 0)
  · rw [if_neg Bool.false_ne_true, hy0, if_neg Bool.false_ne_true]
    exact ⟨by rw [Str.length_append, sizeLine_eq]; omega, h _ _ (Str.length_append x y) (Nat.le_succ _) ⟨by omega, Nat.lt_succ_self _⟩⟩
  · rw [if_pos rfl]
    have e : x ++ y = y := Str.append_left_empty hx
    have := h u s.toks (Str.length_append x y) (Nat.le_refl _) hu
    rw [e] at this
    exact this
/-- a text that is not empty with a text behind it: the token is the left one's or new -/
theorem add_tokL {x y : Str} {t u : Nat} {Q : Value → Shared → Prop} (hx : 0 < x.length) (ht : t < s.toks) (hz : x.length + y.length ≤ 1000000)
    (h : ∀ t' tk : Nat, (x ++ y).length = x.length + y.length → s.toks ≤ tk → t ≤ t' ∧ t' < tk → Q (.str (x ++ y) t') { s with toks := tk }) : wpAny (model prog w) A (binaryOp .Add (.str x t) (.str y u)) Q E s := by
  refine P.add_str ?_
  have hx0 : (x.length == 0) = false := by simp; omega
  rw [hx0, if_neg Bool.false_ne_true]
  cases hy : (y.length == 0)
  · rw [if_neg Bool.false_ne_true]
    exact ⟨by rw [Str.length_append, sizeLine_eq]; omega, h _ _ (Str.length_append x y) (Nat.le_succ _) ⟨Nat.le_of_lt ht, Nat.lt_succ_self _⟩⟩
  · rw [if_pos rfl]
    have e : x ++ y = x := Str.append_right_empty hy
    have := h t s.toks (Str.length_append x y) (Nat.le_refl _) ⟨Nat.le_refl _, ht⟩
    rw [e] at this
    exact this
theorem mul_small {x : Str} {t u : Tok} {k : Int} {Q : Value → Shared → Prop} (h0 : -100 < k) (h1 : k < 100) (hx : x.length < 100)
    (h : ∀ t' tk : Nat, (Txt.mul x k).length ≤ 10000 → s.toks ≤ tk → Q (.str (Txt.mul x k) t') { s with toks := tk }) : wpAny (model prog w) A (binaryOp .Mult (.str x t) (.int k u)) Q E s := by
  refine wpAny_toks (SB.mul (mulOk_of 100 10000 (by omega) (by omega) (by omega) (by decide) (by decide)) fun t' tk hle => h t' tk ?_ hle)
  have e := len_mul x k
  have b1 : (x.length : Int) * (if decide (k < 0) = true then 0 else k) ≤ (x.length : Int) * 100 := Int.mul_le_mul_of_nonneg_left (by split <;> omega) (by omega)
  omega
theorem gentoks {α : Type} {M : Model} {t : Sem α} {Q : α → Shared → Prop} {h : Heap} {g : Array GenState} {d : Drawn} {k : Nat} {o : OsState} (H : ∀ tk, k + 1 ≤ tk → wpAny M A t Q E ⟨h, g, d, tk, o⟩) : wpAny M A t Q E ⟨h, g, d, k + 1, o⟩ := H _ (Nat.le_refl _)
theorem gentoksP {α : Type} {M : Model} {t : Sem α} {Q : α → Shared → Prop} {h h1 : Heap} {g g1 : Array GenState} {d d1 : Drawn} {k : Nat} {o o1 : OsState} (H : wpAny M A t Q E ⟨h, g, d, k, o⟩) : wpAny M A t Q E ⟨h, g, d, (Shared.mk h1 g1 d1 k o1).toks, o⟩ := H
theorem gentoksA {α : Type} {M : Model} {t : Sem α} {Q : α → Shared → Prop} {h : Heap} {g : Array GenState} {d : Drawn} {k b : Nat} {o : OsState} (H : ∀ tk, k ≤ tk → wpAny M A t Q E ⟨h, g, d, tk, o⟩) : wpAny M A t Q E ⟨h, g, d, k + b, o⟩ := H _ (Nat.le_add_right _ _)
theorem ext0 {D b : Addr} {its : Array Value} {n n2 : Nat} {news' : List (Addr × Obj)} {Q : Value → Shared → Prop} (F : Fr h₀ L s.heap m) (N : News h₀ L s.heap news) (hb : (b, listOf ([] : List Value).toArray n2) ∈ news)
    (U : Upd D (listOf its n) (listOf its n) news news') (hz : its.size ≤ 100000)
    (h : ∀ h', Fr h₀ L h' m → News h₀ L h' news' → Q .none { s with heap := h' }) : wpAny (model prog w) A (call (.builtin "list.extend") [.ref D, .ref b]) Q E s := by
  refine kxn_extend F N hb rfl U ?_ (by simp [sizeLine_eq]; omega) (by simp [sizeLine_eq]; omega) h
  simp [Builtin.List.listTooLong, sizeLine_eq]; intro _; omega
theorem ext2 {D b : Addr} {its : Array Value} {x y : Value} {n n2 : Nat} {news' : List (Addr × Obj)} {Q : Value → Shared → Prop} (F : Fr h₀ L s.heap m) (N : News h₀ L s.heap news) (hb : (b, listOf [x, y].toArray n2) ∈ news)
    (U : Upd D (listOf its n) (listOf ((its.push x).push y) (n + 1)) news news') (hz : its.size ≤ 100000)
    (h : ∀ h', Fr h₀ L h' m → News h₀ L h' news' → Q .none { s with heap := h' }) : wpAny (model prog w) A (call (.builtin "list.extend") [.ref D, .ref b]) Q E s := by
  have e : ((its.push x).push y) = (its.toList ++ [x, y]).toArray := by apply Array.toList_inj.mp; simp
  rw [e] at U
  refine kl_extend F N hb rfl (by simp) U ?_ (by simp [sizeLine_eq]; omega) (by simp [sizeLine_eq]; omega) h
  simp [Builtin.List.listTooLong, sizeLine_eq]; intro _; omega
end

theorem gsub_end {h₀ g g' H h' : Heap} {L L' L'' : Addr} {m' : Str → Option Value} {news news' : List (Addr × Obj)} {as : List Addr} (N : News h₀ L H news) (G : GSub H g (news.map (·.1))) (F' : Fr g L' h' m') (N' : News g' L'' h' news')
    (hs : ∀ p ∈ news, p.1 ∉ as → p ∈ news') : GSub H h' as := by
  intro x o e hx
  by_cases hm : x ∈ news.map (·.1)
  · obtain ⟨p, hp, rfl⟩ := List.mem_map.mp hm
    have e1 := (N p hp).1
    rw [e] at e1
    cases e1
    exact (N' p (hs p hp hx)).1
  · exact F'.keep x o (G x o e hm)

section
variable {h₀ H h' : Heap} {L a : Addr} {news : List (Addr × Obj)} {as : List Addr} {o o' : Obj}
theorem notin_cons {a b : Nat} {r : List Addr} (h : @Ne Nat a b) (k : a ∉ r) : a ∉ b :: r := fun q => (List.mem_cons.mp q).elim (fun e => h e) k
theorem notin_nil {a : Nat} : a ∉ ([] : List Addr) := List.not_mem_nil
theorem keepOne (N : News h₀ L H news) (G : GSub H h' as) (hm : (a, o) ∈ news) (hn : a ∉ as) : h'.get? a = some o ∧ a ≠ L ∧ h₀.get? a = none :=
  ⟨G a o (N _ hm).1 hn, (N _ hm).2⟩
theorem newOne (N : News h₀ L H news) (hm : (a, o) ∈ news) (e : h'.get? a = some o') : h'.get? a = some o' ∧ a ≠ L ∧ h₀.get? a = none := ⟨e, (N _ hm).2⟩
theorem newsCons (h : h'.get? a = some o ∧ a ≠ L ∧ h₀.get? a = none) (N : News h₀ L h' news) : News h₀ L h' ((a, o) :: news) := fun p hp => (List.mem_cons.mp hp).elim (fun e => e ▸ h) (N p)
end

section
variable {prog : Program} {w : World} {A : Around} {E : Value → Shared → Prop} {s : Shared} {h₀ : Heap} {L D : Addr} {m : Str → Option Value} {news news' : List (Addr × Obj)} {n : Nat}
theorem pop_snoc {us : List Value} {y : Value} {Q : Value → Shared → Prop} (F : Fr h₀ L s.heap m) (N : News h₀ L s.heap news) (U : Upd D (listOf (us ++ [y]).toArray n) (listOf us.toArray (n + 1)) news news')
    (hz : us.length ≤ 100000) (h : ∀ h', Fr h₀ L h' m → News h₀ L h' news' → Q y { s with heap := h' }) : wpAny (model prog w) A (call (.builtin "list.pop") [.ref D]) Q E s :=
  kl_pop F N (p := us) (y := y) (by simpa using kpa_last y us) U (by simp [sizeLine_eq]; omega) h
end

section
variable {prog : Program} {w : World} {A : Around} {E : Value → Shared → Prop} {s : Shared} {h₀ : Heap} {L D : Addr} {m : Str → Option Value} {news : List (Addr × Obj)} {n : Nat}
theorem truthy_cons {v : Value} {vs : List Value} {Q : Bool → Shared → Prop} (N : News h₀ L s.heap news) (hm : (D, listOf (v :: vs).toArray n) ∈ news) (hz : vs.length < 100000) (h : Q true { s with toks := s.toks + 1 + 1 }) :
    wpAny (model prog w) A (truthy (.ref D)) Q E s := by
  refine wpAny_truthy_list (News.isList N hm) (by simp; omega) ?_
  exact h
end

theorem fresh_of {H g h' : Heap} {L' a : Addr} {o : Obj} {as : List Addr} {news' : List (Addr × Obj)} (G : GSub H g as) (N' : News g L' h' news') (hm : (a, o) ∈ news') (ha : a ∉ as) : H.get? a = none := by
  cases q : H.get? a with
  | none => rfl
  | some o' => have := G _ _ q ha; rw [(N' _ hm).2.2] at this; cases this
theorem noneBooked_of {w : World} {h : Heap} (X : (hd.heap_39 w.params).In h) : NoneBooked h :=
  ⟨fun _ => none, ⟨_, #[], 0, X 2 _ rfl, rfl, (fun _ he => by cases he with | mk h => cases h), fun n => rfl⟩, rfl⟩

inductive StrVals : List Value → List (Str × Nat) → Prop
  | nil : StrVals [] []
  | cons {x : Str} {t : Nat} {vs : List Value} {ps : List (Str × Nat)} : StrVals vs ps → StrVals (Value.str x t :: vs) ((x, t) :: ps)
theorem StrVals.get {vs : List Value} {ps : List (Str × Nat)} (h : StrVals vs ps) : ∀ {k : Nat} {x : Str} {t : Nat}, ps[k]? = some (x, t) → vs[k]? = some (Value.str x t) := by
  induction h with
  | nil => intro k x t e; simp at e
  | cons _ ih =>
    intro k x t e
    cases k with
    | zero => simp at e; simp [e]
    | succ k => simpa using ih (by simpa using e)
section
variable {prog : Program} {w : World} {A : Around} {E : Value → Shared → Prop} {s : Shared} {h₀ : Heap} {L D : Addr} {m : Str → Option Value} {news : List (Addr × Obj)} {n : Nat}
theorem pick_str {value slice : PySem.Expr} {l : Addr} {vs : List Value} {ps : List (Str × Nat)} {k : Int} {u : Tok} {Q : Value → Shared → Prop} (N : News h₀ L s.heap news) (hm : (l, listOf vs.toArray n) ∈ news) (hv : StrVals vs ps)
    (h0 : 0 ≤ k) (h1 : k < ps.length) (hz : ps.length < 1000) (hlen : ∀ p ∈ ps, p.1.length ≤ 10) (h : ∀ (x : Str) (t : Nat), ps[k.toNat]? = some (x, t) → x.length ≤ 10 → Q (.str x t) s)
    (hs : subscripted slice false (.ref l) (.int k u) = operate [.ref l, .int k u] (getItem (.ref l) (.int k u)) := by with_unfolding_all rfl) :
    wpAny (model prog w) A (subscriptTail value slice (.ref l) (.int k u)) Q E s := by
  have hl : s.heap.IsList l vs.toArray := News.isList N hm
  have hk : k.toNat < ps.length := by omega
  have e : ps[k.toNat]? = some (ps[k.toNat].1, ps[k.toNat].2) := by simp [hk]
  exact tail_any hl.typeIs slot_list_getitem.lookup (wpAny_getItem_list hl h0 (by omega) (by simpa using hv.get e) (h _ _ e (hlen _ (List.mem_of_getElem? e)))) hs
/-- one of two -/
theorem pick_two {value slice : PySem.Expr} {l : Addr} {x y v : Value} {k : Int} {u : Tok} {Q : Value → Shared → Prop} (N : News h₀ L s.heap news) (hm : (l, listOf [x, y].toArray n) ∈ news)
    (hk : (k = 0 ∧ v = x) ∨ (k = 1 ∧ v = y)) (h : Q v s)
    (hs : subscripted slice false (.ref l) (.int k u) = operate [.ref l, .int k u] (getItem (.ref l) (.int k u)) := by with_unfolding_all rfl) :
    wpAny (model prog w) A (subscriptTail value slice (.ref l) (.int k u)) Q E s := by
  have hl : s.heap.IsList l [x, y].toArray := News.isList N hm
  rcases hk with ⟨rfl, rfl⟩ | ⟨rfl, rfl⟩
  · exact tail_any hl.typeIs slot_list_getitem.lookup (wpAny_getItem_list hl (by decide) (by decide) rfl h) hs
  · exact tail_any hl.typeIs slot_list_getitem.lookup (wpAny_getItem_list hl (by decide) (by decide) rfl h) hs
end
/-- a level of an open tree: the list at a holds vs and, last, the pair at t of a head and the next level's list -/
structure Lev where
  a : Nat
  vs : List Value
  n : Nat
  t : Nat
  nt : Nat
  hd : Str
  tk : Nat
noncomputable def Lev.objs (l : Lev) (nx : Nat) : List (Addr × Obj) := [(l.a, listOf (l.vs ++ [Value.ref l.t]).toArray l.n), (l.t, tupOf [Value.str l.hd l.tk, Value.ref nx].toArray l.nt)]
noncomputable def nextA : List Lev → Nat → Nat
  | [], b => b
  | l :: _, _ => l.a
noncomputable def levObjs : List Lev → Nat → List (Addr × Obj)
  | [], _ => []
  | l :: r, b => l.objs (nextA r b) ++ levObjs r b
noncomputable def refsOf (ls : List Lev) : List Value := ls.map fun l => Value.ref l.a
/-- the levels hold the data -/
inductive LevDat (cl : List (Addr × Obj)) : List Lev → List (List Dat × Str) → Prop
  | nil : LevDat cl [] []
  | cons {l : Lev} {ls : List Lev} {ds : List Dat} {ps : List (List Dat × Str)} : DatAll cl l.vs ds → LevDat cl ls ps → LevDat cl (l :: ls) ((ds, l.hd) :: ps)
theorem LevDat.mono {cl cl' : List (Addr × Obj)} (hs : ∀ p ∈ cl, p ∈ cl') {ls : List Lev} {ps : List (List Dat × Str)} (h : LevDat cl ls ps) : LevDat cl' ls ps := by
  induction h with
  | nil => exact .nil
  | cons h _ ih => exact .cons (h.mono hs) ih
theorem LevDat.length {cl : List (Addr × Obj)} {ls : List Lev} {ps : List (List Dat × Str)} (h : LevDat cl ls ps) : ls.length = ps.length := by
  induction h with
  | nil => rfl
  | cons _ _ ih => simp [ih]
theorem LevDat.snoc {cl : List (Addr × Obj)} {l : Lev} {ls : List Lev} {ds : List Dat} {ps : List (List Dat × Str)} (h : LevDat cl ls ps) (hd : DatAll cl l.vs ds) : LevDat cl (ls ++ [l]) (ps ++ [(ds, l.hd)]) := by
  induction h with
  | nil => exact .cons hd .nil
  | cons h _ ih => exact .cons h ih
theorem LevDat.unsnoc {cl : List (Addr × Obj)} {ls : List Lev} {ds : List Dat} {x : Str} {ps : List (List Dat × Str)} (h : LevDat cl ls (ps ++ [(ds, x)])) : ∃ ls' l, ls = ls' ++ [l] ∧ l.hd = x ∧ LevDat cl ls' ps ∧ DatAll cl l.vs ds := by
  induction ps generalizing ls with
  | nil =>
    cases h with
    | cons h r => cases r; exact ⟨[], _, rfl, rfl, .nil, h⟩
  | cons p ps ih =>
    cases h with
    | cons h r =>
      obtain ⟨ls', l, rfl, e, h1, h2⟩ := ih r
      exact ⟨_ :: ls', l, rfl, e, .cons h h1, h2⟩
theorem levObjs_snoc (ls : List Lev) (l : Lev) (b : Nat) : levObjs (ls ++ [l]) b = levObjs ls l.a ++ l.objs b := by
  induction ls with
  | nil => simp [levObjs, nextA]
  | cons x r ih =>
    cases r with
    | nil => simp [levObjs, nextA]
    | cons y r => simp only [List.cons_append, levObjs, nextA, List.append_assoc] at ih ⊢; rw [ih]
theorem nextA_snoc (ls : List Lev) (l : Lev) (b : Nat) : nextA (ls ++ [l]) b = nextA ls l.a := by cases ls <;> rfl
theorem refsOf_snoc (ls : List Lev) (l : Lev) : refsOf (ls ++ [l]) = refsOf ls ++ [Value.ref l.a] := by simp [refsOf]
theorem refsOf_length (ls : List Lev) : (refsOf ls).length = ls.length := by simp [refsOf]
/-- rows: texts whose tokens are known -/
inductive RowsAre (tk : Nat) : List Value → List Str → Prop
  | nil : RowsAre tk [] []
  | cons {x : Str} {t : Nat} {vs : List Value} {xs : List Str} : 1 ≤ t ∧ t < tk → RowsAre tk vs xs → RowsAre tk (Value.str x t :: vs) (x :: xs)
theorem RowsAre.mono {tk tk' : Nat} (hle : tk ≤ tk') {vs : List Value} {xs : List Str} (h : RowsAre tk vs xs) : RowsAre tk' vs xs := by
  induction h with
  | nil => exact .nil
  | cons h _ ih => exact .cons ⟨h.1, Nat.lt_of_lt_of_le h.2 hle⟩ ih
theorem RowsAre.append {tk : Nat} {vs ws : List Value} {xs ys : List Str} (h : RowsAre tk vs xs) (k : RowsAre tk ws ys) : RowsAre tk (vs ++ ws) (xs ++ ys) := by
  induction h with
  | nil => exact k
  | cons h _ ih => exact .cons h ih
theorem RowsAre.length {tk : Nat} {vs : List Value} {xs : List Str} (h : RowsAre tk vs xs) : vs.length = xs.length := by
  induction h with
  | nil => rfl
  | cons _ _ ih => simp [ih]
/-- a program under the pen, as plain data -/
structure PS where
  stk : List (List Dat × Str)
  top : List Dat
  rows : List Str
noncomputable abbrev sPass : Str := Str.ofString "pass"
noncomputable def PS.put (st : PS) (step : Str) (d : Dat) (l0 : Str) (rest : List Str) : PS := { st with top := st.top ++ [d], rows := st.rows ++ (Txt.mul step st.stk.length ++ l0) :: rest }
noncomputable def PS.openB (st : PS) (step head : Str) : PS := { stk := st.stk ++ [(st.top, head)], top := [], rows := st.rows ++ [Txt.mul step st.stk.length ++ head] }
noncomputable def PS.empt (st : PS) (x : Str) : PS := { st with rows := st.rows ++ [x] }
noncomputable def PS.endB (st : PS) (step : Str) : PS := match st.top with
  | [] => st.put step (.str sPass) sPass []
  | _ :: _ => st
noncomputable def PS.pop (st : PS) : PS := match st.stk.reverse with
  | [] => st
  | (ds, x) :: r => { st with stk := r.reverse, top := ds ++ [.tuple [.str x, .list st.top]] }
noncomputable def PS.close (st : PS) (step : Str) : PS := (st.endB step).pop
/-- the same, in the heap -/
structure PR where
  P : Nat
  O : Nat
  R : Nat
  nP : Nat
  nO : Nat
  nR : Nat
  T : Nat
  step : Str
  tS : Nat
  ls : List Lev
  b : Nat
  its : List Value
  nb : Nat
  cl : List (Addr × Obj)
  rs : List Value
noncomputable def PR.head (p : PR) : List (Addr × Obj) := [(p.P, tupOf [Value.ref p.T, Value.ref p.O, Value.ref p.R, Value.str p.step p.tS].toArray p.nP), (p.O, listOf (refsOf p.ls ++ [Value.ref p.b]).toArray p.nO), (p.R, listOf p.rs.toArray p.nR)]
noncomputable def PR.tree (p : PR) : List (Addr × Obj) := levObjs p.ls p.b ++ (p.b, listOf p.its.toArray p.nb) :: p.cl
noncomputable def PR.objs (p : PR) : List (Addr × Obj) := p.head ++ p.tree
structure PR.Is (p : PR) (st : PS) (tk : Nat) : Prop where
  lev : LevDat p.cl p.ls st.stk
  top : DatAll p.cl p.its st.top
  rows : RowsAre tk p.rs st.rows
  bot : p.T = nextA p.ls p.b
  step : p.step.length < 10
/-- all addresses apart -/
noncomputable def Apart (l : List (Addr × Obj)) : Prop := (l.map (fun p => (p.1 : Nat))).Nodup
section
variable {h₀ H h' : Heap} {L a b : Addr} {news news' : List (Addr × Obj)} {o : Obj}
theorem news_all (N : News h₀ L H news) (G : GSub H h' []) : News h₀ L h' news := fun p hp => ⟨G _ _ (N p hp).1 List.not_mem_nil, (N p hp).2⟩
theorem news_app (N : News h₀ L h' news) (N' : News h₀ L h' news') : News h₀ L h' (news ++ news') := fun p hp => (List.mem_append.mp hp).elim (N p) (N' p)
theorem apart_app (A : Apart news) (A' : Apart news') (h : ∀ p ∈ news, H.get? p.1 = none) (N : News h₀ L H news') : Apart (news ++ news') := by
  unfold Apart at *
  rw [List.map_append]
  refine List.nodup_append.mpr ⟨A, A', fun x hx y hy e => ?_⟩
  obtain ⟨p, hp, rfl⟩ := List.mem_map.mp hx
  obtain ⟨q, hq, rfl⟩ := List.mem_map.mp hy
  have h1 := h p hp
  have h2 := (N q hq).1
  have e' : p.1 = q.1 := e
  rw [e', h2] at h1
  cases h1
end
/-- a mark at which the walk halts -/
noncomputable def Stop (P : Prop) : Prop := P
theorem stop {P : Prop} (h : Stop P) : P := h
theorem unstop {P : Prop} (h : P) : Stop P := h
/-- the end of a turn of a loop -/
noncomputable def TurnEnd (h₀ : Heap) (L I : Addr) (oI : Obj) (K : Nat → (Str → Option Value) → List (Addr × Obj) → Prop) (s : Shared) (Q : Flow → Shared → Prop) (f : Flow) (s' : Shared) : Prop :=
  match f with
  | .ret v => Q (.ret v) s'
  | .brk => Q .next s'
  | _ => ∃ h' tk' m' nx', s' = { s with heap := h', toks := tk' } ∧ Fr h₀ L h' m' ∧ News h₀ L h' ((I, oI) :: nx') ∧ (∀ p ∈ nx', @Ne Nat p.1 I) ∧ K tk' m' nx'
/-- where a loop stands -/
noncomputable abbrev ForJ (h₀ : Heap) (L l : Addr) (vs : List Value) (K : Nat → Nat → (Str → Option Value) → List (Addr × Obj) → Prop) (s : Shared) (k : Nat) (s' : Shared) : Prop :=
  ∃ h' tk m' nx i, s' = { s with heap := h', toks := tk } ∧ h'.IsListIter s.heap.objs.size l i ∧ Fr h₀ L h' m' ∧ News h₀ L h' nx ∧ (∀ p ∈ nx, @Ne Nat p.1 s.heap.objs.size) ∧ K i tk m' nx ∧ s.toks ≤ tk ∧ i ≤ vs.length ∧ k = vs.length + 1 - i
section
variable {prog : Program} {w : World} {A : Around} {E : Value → Shared → Prop} {s : Shared} {env : Env} {h₀ : Heap} {x : Str} {px : Pos} {body : List Stmt} {Q : Flow → Shared → Prop}
theorem iter_tk {l : Addr} {vs : List Value} {m₀ : Str → Option Value} {news : List (Addr × Obj)} (K : Nat → Nat → (Str → Option Value) → List (Addr × Obj) → Prop)
    (hh : A.handled = none) (hx : env.kindOf x = some .local) (hp : (env.scope.kind == .class || (env.scope.kind == .module && env.locals != env.globals)) = false)
    (hl : s.heap.IsList l vs.toArray)
    (hst : ∀ i tk m nx h, K i tk m nx → Fr h₀ env.locals h m → News h₀ env.locals h nx → h.IsList l vs.toArray)
    (mono : ∀ i tk tk' m nx, tk ≤ tk' → K i tk m nx → K i tk' m nx)
    (F : Fr h₀ env.locals s.heap m₀) (N : News h₀ env.locals s.heap news) (hk : K 0 s.toks m₀ news)
    (turn : ∀ i v tk m₁ nx h oI, vs[i]? = some v → K i tk m₁ nx → (∀ p ∈ nx, @Ne Nat p.1 s.heap.objs.size) →
      Fr h₀ env.locals h (fun y => if y = x then some v else m₁ y) → News h₀ env.locals h ((s.heap.objs.size, oI) :: nx) → s.toks ≤ tk →
      wpAny (model prog w) A (execs body env) (TurnEnd h₀ env.locals s.heap.objs.size oI (K (i + 1)) s Q) E { s with heap := h, toks := tk })
    (done : ∀ m₁ nx h tk, K vs.length tk m₁ nx → Fr h₀ env.locals h m₁ → News h₀ env.locals h nx → s.toks ≤ tk → Q .next { s with heap := h, toks := tk })
    (hE : PassesOwn (model prog w) A env E := by passes_own) :
    wpAny (model prog w) A (pyIter (.ref l)) (fun it s₂ => codeAny (model prog w) A (.forLoop (.Name x px) it body [] env) (fun r s' => match r with | .ok f => Q f s' | .error e => cameBackBy (model prog w) A env E e s') s₂) E s := by
  have hlL' : l ≠ s.heap.objs.size := by obtain ⟨o, ho, _⟩ := hl; exact Nat.ne_of_lt (Heap.lt_size ho)
  have hIL : s.heap.objs.size ≠ env.locals := Ne.symm (Nat.ne_of_lt F.ns.lt)
  have hI0 : h₀.get? s.heap.objs.size = none := next_is_new F
  have offI : ∀ b o, h₀.get? b = some o → b ≠ s.heap.objs.size := fun b o e q => by rw [q, hI0] at e; cases e
  refine wpAny_pyIter_list hl ?_
  have W := Walks.list (prog := prog) (w := w) hh s.heap.objs.size l hlL' vs.toArray
  rw [List.size_toArray] at W
  refine codeAny_forLoop
    (ForJ h₀ env.locals l vs K s) ?_ (vs.length + 1)
    ⟨_, s.toks, m₀, news, 0, rfl, ⟨_, Heap.get?_push_size _ rfl, rfl, rfl⟩, F.push _, (fun p hp => ⟨Heap.get?_push_of_some _ (N p hp).1, (N p hp).2⟩), fun p hp => Nat.ne_of_lt (Heap.lt_size (N p hp).1), hk, Nat.le_refl _, Nat.zero_le _, rfl⟩
  rintro k s' ⟨h', tk, m', nx, i, rfl, hit, F', N', hoff, hK, hle, hi, rfl⟩
  have hlist := hst i tk m' nx h' hK F' N'
  have next : ∀ h₁ : Heap, (∀ b o, b ∉ [s.heap.objs.size] → h'.get? b = some o → h₁.get? b = some o) → Fr h₀ env.locals h₁ m' ∧ News h₀ env.locals h₁ nx := fun h₁ hk₁ =>
    ⟨⟨F'.ns.at' fun o e => hk₁ _ o (fun q => hIL (List.mem_singleton.mp q).symm) e, fun b o e => hk₁ b o (fun q => offI b o e (List.mem_singleton.mp q)) (F'.keep b o e), F'.above⟩, fun p hp => ⟨hk₁ _ _ (fun q => hoff p hp (List.mem_singleton.mp q)) (N' p hp).1, (N' p hp).2⟩⟩
  by_cases hlt : i < vs.length
  · refine wpAny_toks (W.item i _ _ _ hlt ⟨hit, hlist⟩ fun v h₁ tk₁ hP hst₁ hk₁ hle₁ => ?_)
    obtain ⟨F₁, N₁⟩ := next h₁ hk₁
    refine wpAny_assign_Name (wpAny_storeName_local hx F₁.ns (fun h₂ hn₂ hs₂ => ?_) hp)
    have F₂ := F₁.set hn₂ hs₂
    obtain ⟨oI, hoI, hoc, hod⟩ := hst₁.1
    have hoI₂ : h₂.get? s.heap.objs.size = some oI := (hs₂.2 _ hIL).trans hoI
    have N₂ : News h₀ env.locals h₂ ((s.heap.objs.size, oI) :: nx) := newsCons ⟨hoI₂, hIL, hI0⟩ (N₁.set hs₂)
    have hle₁' : tk ≤ tk₁ := hle₁
    have hv : vs[i]? = some v := by simpa using hP
    refine wpAny_passesOwn hE (wpAny_toks (wpAny_mono (turn i v (tk₁ + 1) m' nx h₂ oI hv (mono _ _ _ _ _ (Nat.le_succ_of_le hle₁') hK) hoff F₂ N₂ (by omega)) (fun f s₃ h₃ hg => ?_) fun _ _ e => e))
    have fin : (∃ h' tk' m' nx', s₃ = { s with heap := h', toks := tk' } ∧ Fr h₀ env.locals h' m' ∧ News h₀ env.locals h' ((s.heap.objs.size, oI) :: nx') ∧ (∀ p ∈ nx', @Ne Nat p.1 s.heap.objs.size) ∧ K (i + 1) tk' m' nx') →
        ∃ m, m < vs.length + 1 - i ∧ ForJ h₀ env.locals l vs K s m s₃ := by
      rintro ⟨h₃', tk₃, m₃, nx₃, rfl, F₃, N₃, off₃, K₃⟩
      have hg' : tk₁ + 1 ≤ tk₃ := hg
      exact ⟨vs.length + 1 - (i + 1), by omega, h₃', tk₃, m₃, nx₃, i + 1, rfl, ⟨oI, (N₃ _ (.head _)).1, hoc, hod⟩, F₃, fun p hp => N₃ p (.tail _ hp), off₃, K₃, by omega, hlt, rfl⟩
    cases f with
    | ret v => exact h₃
    | brk => exact h₃
    | cont => exact fin h₃
    | next => exact fin h₃
  · have hin : i = vs.length := by omega
    subst hin
    refine wpAny_toks (W.done _ _ _ ⟨hit, hlist⟩ fun h₁ tk₁ hk₁ hle₁ => wpAny_execs_nil ?_)
    obtain ⟨F₁, N₁⟩ := next h₁ hk₁
    have hle₁' : tk ≤ tk₁ := hle₁
    exact done m' nx h₁ tk₁ (mono _ _ _ _ _ hle₁' hK) F₁ N₁ (by omega)
end
noncomputable def num (i : Int) : Str := Str.ofString (toString i)
noncomputable def word (i : Int) : Str := Str.ofString "x" ++ num i
theorem digs : ∀ k : Fin 64, 1 ≤ (num ((k.val : Nat) : Int)).length ∧ (num ((k.val : Nat) : Int)).length ≤ 2 ∧ ((num ((k.val : Nat) : Int)).cps.toList.all fun c => decide (48 ≤ c) && decide (c < 58)) = true := by decide +kernel
theorem num_len {i : Int} (h0 : 0 ≤ i) (h1 : i < 64) : 1 ≤ (num i).length ∧ (num i).length ≤ 2 := by
  have h := digs ⟨i.toNat, by omega⟩
  have e : ((i.toNat : Nat) : Int) = i := by omega
  simp only [e] at h
  exact ⟨h.1, h.2.1⟩
theorem num_digs {i : Int} (h0 : 0 ≤ i) (h1 : i < 64) : ∀ c ∈ (num i).cps.toList, 48 ≤ c ∧ c < 58 := by
  have h := (digs ⟨i.toNat, by omega⟩).2.2
  have e : ((i.toNat : Nat) : Int) = i := by omega
  simp only [e, List.all_eq_true, Bool.and_eq_true, decide_eq_true_eq] at h
  exact h
theorem word_len {i : Int} (h0 : 0 ≤ i) (h1 : i < 64) : 2 ≤ (word i).length ∧ (word i).length ≤ 3 := by
  have h := num_len h0 h1
  have e : (Str.ofString "x").length = 1 := by decide
  unfold word
  rw [Str.length_append, e]
  omega
noncomputable def stepsL : List Str := [Str.ofString " ", Str.ofString "  ", Str.ofString "   ", Str.ofString "\t"]
noncomputable def emptyL : List Str := [Str.ofString "", Str.ofString " ", Str.ofString "\t ", Str.ofString "\r", Str.ofString "      "]
noncomputable def signsL : List Str := [Str.ofString "\r", Str.ofString "\x0b", Str.ofString "\x0c", Str.ofString "\x1c", Str.ofString "\u0085", Str.ofString "\u2028", Str.ofString "\t", Str.ofString "    "]
noncomputable def at_ (l : List Str) (k : Int) : Str := l.getD k.toNat Str.empty
noncomputable def headT (i : Int) : Str := Str.ofString "if " ++ word i ++ Str.ofString ":"
noncomputable def signT (i q : Int) : Str := word i ++ at_ signsL (Int.fmod q 8) ++ Str.ofString "y"
/-- what a number does to the program at hand (6 apart) -/
noncomputable def actPS (stp : Str) (st : PS) (i n : Int) : PS :=
  if Int.fmod n 8 = 2 then st.openB stp (headT i)
  else if Int.fmod n 8 = 3 ∧ st.stk ≠ [] then st.close stp
  else if Int.fmod n 8 = 4 then st.empt (at_ emptyL (Int.fmod (Int.fdiv n 8) 5))
  else if Int.fmod n 8 = 5 then st.put stp (.str (word i ++ Str.ofString "(a, b, )")) (word i ++ Str.ofString "(a,") [Txt.mul (Str.ofString " ") (Int.fmod (Int.fdiv n 8) 7) ++ Str.ofString "b,", Txt.mul (Str.ofString "\t") (Int.fmod (Int.fdiv (Int.fdiv n 8) 7) 4) ++ Str.ofString ")"]
  else if Int.fmod n 8 = 7 then st.put stp (.str (signT i (Int.fdiv n 8))) (signT i (Int.fdiv n 8)) []
  else st.put stp (.str (word i)) (word i) []
structure DS where
  p0 : PS
  p1 : PS
  at' : Int
noncomputable def DS.step (s0 s1 : Str) (d : DS) (i n : Int) : DS :=
  if Int.fmod n 8 = 6 then { d with at' := 1 - d.at' }
  else if d.at' = 0 then { d with p0 := actPS s0 d.p0 i n } else { d with p1 := actPS s1 d.p1 i n }
/-- the drawing: number by number -/
noncomputable def drawn (s0 s1 : Str) (d : DS) (i : Int) : List Int → DS
  | [] => d
  | n :: r => drawn s0 s1 (d.step s0 s1 (i + 1) n) (i + 1) r
noncomputable def PS.nil : PS := ⟨[], [], []⟩
theorem drawn_append (s0 s1 : Str) (l : List Int) (n : Int) : ∀ (d : DS) (i : Int), drawn s0 s1 d i (l ++ [n]) = (drawn s0 s1 d i l).step s0 s1 (i + l.length + 1) n := by
  induction l with
  | nil => intro d i; simp [drawn]
  | cons x r ih => intro d i; simp only [List.cons_append, drawn]; rw [ih]; congr 1; simp only [List.length_cons]; omega
structure PS.Bnd (st : PS) (k : Nat) : Prop where
  stk : st.stk.length ≤ k
  top : st.top.length ≤ k
  lev : ∀ p ∈ st.stk, p.1.length ≤ k
  rows : st.rows.length ≤ 4 * k
  row : ∀ r ∈ st.rows, r.length ≤ 1200
theorem str_num {prog : Program} {w : World} {A : Around} {E : Value → Shared → Prop} {s : Shared} {i : Int} {t : Tok} {Q : Value → Shared → Prop} (h0 : 0 ≤ i) (h1 : i < 64) (h : 1 ≤ (num i).length ∧ (num i).length ≤ 2 → Q (.str (num i) s.toks) { s with toks := s.toks + 1 }) :
    wpAny (model prog w) A (call (.type "str") [.int i t]) Q E s := by
  refine P.str_of_int ?_ (h (num_len h0 h1))
  rcases Nat.eq_zero_or_pos i.natAbs with e | e
  · rw [e]; decide
  · exact (Nat.log2_lt (Nat.ne_of_gt e)).mpr (Nat.lt_of_lt_of_le (by omega : i.natAbs < 2 ^ 6) (Nat.pow_le_pow_right (by decide) (by decide)))
noncomputable def emVals (t : Nat) : List Value := [Value.str (Str.ofString "") t, Value.str (Str.ofString " ") (t + 1), Value.str (Str.ofString "\t ") (t + 1 + 1), Value.str (Str.ofString "\r") (t + 1 + 1 + 1), Value.str (Str.ofString "      ") (t + 1 + 1 + 1 + 1)]
noncomputable def sgVals (t : Nat) : List Value := [Value.str (Str.ofString "\r") t, Value.str (Str.ofString "\x0b") (t + 1), Value.str (Str.ofString "\x0c") (t + 1 + 1), Value.str (Str.ofString "\x1c") (t + 1 + 1 + 1), Value.str (Str.ofString "\u0085") (t + 1 + 1 + 1 + 1), Value.str (Str.ofString "\u2028") (t + 1 + 1 + 1 + 1 + 1), Value.str (Str.ofString "\t") (t + 1 + 1 + 1 + 1 + 1 + 1), Value.str (Str.ofString "    ") (t + 1 + 1 + 1 + 1 + 1 + 1 + 1)]
noncomputable def mDraw (Pr Em Sg : Nat) (at' i : Int) (ta ti : Nat) (u : Str → Option Value) : Str → Option Value := fun y =>
  if y = Str.ofString "at" then some (.int at' ta) else if y = Str.ofString "i" then some (.int i ti) else if y = Str.ofString "pair" then some (.ref Pr) else if y = Str.ofString "empty" then some (.ref Em) else if y = Str.ofString "signs" then some (.ref Sg) else u y
theorem mDraw_of {Pr Em Sg : Nat} {at' i : Int} {ta ti : Nat} {m : Str → Option Value} (h1 : m (Str.ofString "at") = some (.int at' ta)) (h2 : m (Str.ofString "i") = some (.int i ti)) (h3 : m (Str.ofString "pair") = some (.ref Pr)) (h4 : m (Str.ofString "empty") = some (.ref Em)) (h5 : m (Str.ofString "signs") = some (.ref Sg)) :
    m = mDraw Pr Em Sg at' i ta ti m := by
  funext y
  unfold mDraw
  (repeat' split) <;> first | rfl | (subst_vars; assumption)
/-- the drawing's state in the heap -/
noncomputable def DrawIs (Pr Em Sg nPr nEm nSg : Nat) (emv sgv : List Value) (s0 s1 : Str) (d : DS) (i : Nat) (tk : Nat) (m : Str → Option Value) (nx : List (Addr × Obj)) : Prop :=
  ∃ (p0 p1 : PR) (ta ti : Nat) (u : Str → Option Value),
    nx = (Pr, listOf [Value.ref p0.P, Value.ref p1.P].toArray nPr) :: (Em, listOf emv.toArray nEm) :: (Sg, listOf sgv.toArray nSg) :: (p0.objs ++ p1.objs) ∧ Apart nx ∧
    p0.Is d.p0 tk ∧ p1.Is d.p1 tk ∧ p0.step = s0 ∧ p1.step = s1 ∧ (d.at' = 0 ∨ d.at' = 1) ∧ d.p0.Bnd i ∧ d.p1.Bnd i ∧ m = mDraw Pr Em Sg d.at' i ta ti u
theorem PR.Is.mono {p : PR} {st : PS} {tk tk' : Nat} (h : p.Is st tk) (hle : tk ≤ tk') : p.Is st tk' := ⟨h.lev, h.top, h.rows.mono hle, h.bot, h.step⟩
theorem DrawIs.mono {Pr Em Sg nPr nEm nSg : Nat} {emv sgv : List Value} {s0 s1 : Str} {d : DS} {i : Nat} {tk tk' : Nat} {m : Str → Option Value} {nx : List (Addr × Obj)} (h : DrawIs Pr Em Sg nPr nEm nSg emv sgv s0 s1 d i tk m nx) (hle : tk ≤ tk') :
    DrawIs Pr Em Sg nPr nEm nSg emv sgv s0 s1 d i tk' m nx := by
  obtain ⟨p0, p1, ta, ti, u, h1, h2, h3, h4, h5⟩ := h
  exact ⟨p0, p1, ta, ti, u, h1, h2, h3.mono hle, h4.mono hle, h5⟩
/-- the end of a turn, seen from the program at hand -/
noncomputable def SelEnd (h₀ : Heap) (L I : Nat) (oI : Obj) (Pr Em Sg nPr nEm nSg : Nat) (x y : Value) (emv sgv : List Value) (p : PR) (st : PS) (rest : List (Addr × Obj)) (at' i n : Int) (s : Shared) (f : Flow) (s' : Shared) : Prop :=
  (f = .next ∨ f = .cont) ∧ ∃ (h' : Heap) (tk' : Nat) (m' : Str → Option Value) (p' : PR) (at'' : Int) (ta ti : Nat), s' = { s with heap := h', toks := tk' } ∧ Fr h₀ L h' m' ∧
    News h₀ L h' ((I, oI) :: (Pr, listOf [x, y].toArray nPr) :: (Em, listOf emv.toArray nEm) :: (Sg, listOf sgv.toArray nSg) :: (p'.objs ++ rest)) ∧
    Apart ((I, oI) :: (Pr, listOf [x, y].toArray nPr) :: (Em, listOf emv.toArray nEm) :: (Sg, listOf sgv.toArray nSg) :: (p'.objs ++ rest)) ∧
    p'.P = p.P ∧ p'.step = p.step ∧ (if Int.fmod n 8 = 6 then at'' = 1 - at' ∧ p'.Is st tk' else at'' = at' ∧ p'.Is (actPS p.step st i n) tk') ∧ m' = mDraw Pr Em Sg at'' i ta ti m'
theorem tailNe {pre post : List (Addr × Obj)} {b d : Nat} {o : Obj} (h1 : ∀ p ∈ pre, p.1 ≠ d) (h2 : @Ne Nat b d) (h3 : ∀ p ∈ post, p.1 ≠ d) : ∀ p ∈ pre ++ (b, o) :: post, p.1 ≠ d := by
  intro p hp
  rcases List.mem_append.mp hp with h | h
  · exact h1 p h
  · rcases List.mem_cons.mp h with rfl | h
    · exact h2
    · exact h3 p h

noncomputable def bodyIn : Option Stmt → List Stmt
  | some (.FunctionDef (body := b) ..) => b
  | some (.For (body := b) ..) => b
  | some (.While (body := b) ..) => b
  | _ => []
noncomputable def scopeIn : Option Stmt → Scope
  | some (.FunctionDef (scope := c) ..) => c
  | _ => { kind := .module, names := [], isGenerator := false, isCoroutine := false }
noncomputable def drawDef : Option Stmt := prg.main.body[7]?
noncomputable def drawTurn : List Stmt := bodyIn (bodyIn drawDef)[6]?
noncomputable def drawScope : Scope := scopeIn drawDef
noncomputable def drawEnv (L : Addr) : Env := envOf (Str.ofString "_law_draw") drawScope L 47 (.ref 46)
theorem apart_cons {x : Nat} {o : Obj} {l : List (Addr × Obj)} : Apart ((x, o) :: l) ↔ (∀ p ∈ l, @Ne Nat p.1 x) ∧ Apart l := by
  unfold Apart
  rw [List.map_cons, List.nodup_cons]
  constructor
  · rintro ⟨h, k⟩
    exact ⟨fun p hp e => h (List.mem_map.mpr ⟨p, hp, e⟩), k⟩
  · rintro ⟨h, k⟩
    exact ⟨fun q => by obtain ⟨p, hp, e⟩ := List.mem_map.mp q; exact h p hp e, k⟩
theorem apart_mid {x : Nat} {o : Obj} {pre post : List (Addr × Obj)} : Apart (pre ++ (x, o) :: post) ↔ (∀ p ∈ pre, @Ne Nat p.1 x) ∧ (∀ p ∈ post, @Ne Nat p.1 x) ∧ Apart (pre ++ post) := by
  induction pre with
  | nil => simp only [List.nil_append, apart_cons, List.not_mem_nil, false_implies, implies_true, true_and]
  | cons q r ih =>
    obtain ⟨a, oa⟩ := q
    simp only [List.cons_append, apart_cons, ih, List.forall_mem_cons, List.forall_mem_append]
    constructor
    · rintro ⟨⟨h1, h2, h3⟩, h4, h5, h6⟩; exact ⟨⟨Ne.symm h2, h4⟩, h5, ⟨h1, h3⟩, h6⟩
    · rintro ⟨⟨h1, h2⟩, h3, ⟨h4, h5⟩, h6⟩; exact ⟨⟨h4, Ne.symm h1, h5⟩, h2, h3, h6⟩
theorem apart_sub {l l' : List (Addr × Obj)} (h : Apart l) (e : l'.map (fun p => (p.1 : Nat)) = l.map (fun p => (p.1 : Nat))) : Apart l' := by unfold Apart at *; rw [e]; exact h
theorem apart_perm {l l' : List (Addr × Obj)} (h : Apart l) (e : l.Perm l') : Apart l' := (e.map _).nodup_iff.mp h

/-- two addresses apart, out of omega's sight -/
noncomputable def Off (a b : Nat) : Prop := a ≠ b
theorem Off.mk {a b : Nat} (h : @Ne Nat a b) : Off a b := h
theorem Off.ne {a b : Nat} (h : Off a b) : @Ne Nat a b := h
theorem Off.ne' {a b : Nat} (h : Off b a) : @Ne Nat a b := Ne.symm h
section
variable {h₀ H h' : Heap} {L : Addr} {b : Nat} {o o' : Obj} {pre post : List (Addr × Obj)} {as : List Addr}
theorem newsTail (N : News h₀ L H (pre ++ (b, o) :: post)) (G : GSub H h' as) (hp : ∀ p ∈ pre, p.1 ∉ as) (hq : ∀ p ∈ post, p.1 ∉ as) (e : h'.get? b = some o') : News h₀ L h' (pre ++ (b, o') :: post) := by
  intro p hm
  rcases List.mem_append.mp hm with h | h
  · have := N p (List.mem_append.mpr (.inl h))
    exact ⟨G _ _ this.1 (hp p h), this.2⟩
  · rcases List.mem_cons.mp h with rfl | h
    · exact ⟨e, (N (b, o) (List.mem_append.mpr (.inr (.head _)))).2⟩
    · have := N p (List.mem_append.mpr (.inr (.tail _ h)))
      exact ⟨G _ _ this.1 (hq p h), this.2⟩
theorem off2 {l : List (Addr × Obj)} {x y : Nat} (h1 : ∀ p ∈ l, @Ne Nat p.1 x) (h2 : ∀ p ∈ l, @Ne Nat p.1 y) : ∀ p ∈ l, p.1 ∉ [x, y] := fun p hp => notin_cons (h1 p hp) (notin_cons (h2 p hp) notin_nil)
theorem off3 {l : List (Addr × Obj)} {x y z : Nat} (h1 : ∀ p ∈ l, @Ne Nat p.1 x) (h2 : ∀ p ∈ l, @Ne Nat p.1 y) (h3 : ∀ p ∈ l, @Ne Nat p.1 z) : ∀ p ∈ l, p.1 ∉ [x, y, z] := fun p hp => notin_cons (h1 p hp) (notin_cons (h2 p hp) (notin_cons (h3 p hp) notin_nil))
end
theorem news_tl {h₀ H : Heap} {L : Addr} {l l' : List (Addr × Obj)} (N : News h₀ L H (l ++ l')) : News h₀ L H l' := fun p hp => N p (List.mem_append.mpr (.inr hp))

theorem allLt_app {d : Nat} {a c : List (Addr × Obj)} : AllLt d (a ++ c) ↔ AllLt d a ∧ AllLt d c := by
  induction a with
  | nil => simp [AllLt]
  | cons x r ih => simp only [List.cons_append, AllLt, ih, and_assoc]
theorem AllLt.mem {d : Nat} {l : List (Addr × Obj)} (h : AllLt d l) : ∀ p ∈ l, @LT.lt Nat _ p.1 d := by
  induction l with
  | nil => exact fun _ hp => (nomatch hp)
  | cons x r ih => intro p hp; rcases List.mem_cons.mp hp with rfl | hp; exact h.1; exact ih h.2 p hp
theorem if_yes {c : Prop} [Decidable c] {P Q : Prop} (hc : c) (h : P) : if c then P else Q := by rw [if_pos hc]; exact h
theorem if_no {c : Prop} [Decidable c] {P Q : Prop} (hc : ¬ c) (h : Q) : if c then P else Q := by rw [if_neg hc]; exact h
theorem newsFrom {h₀ H : Heap} {L : Addr} {x1 x2 x3 x4 x5 x6 x7 x8 x9 : Addr × Obj} {pre post : List (Addr × Obj)} {b : Nat} {o : Obj} (N : News h₀ L H (x1 :: x2 :: x3 :: x4 :: x5 :: x6 :: x7 :: x8 :: x9 :: (pre ++ (b, o) :: post))) : News h₀ L H (pre ++ (b, o) :: post) :=
  fun p hp => N p (.tail _ (.tail _ (.tail _ (.tail _ (.tail _ (.tail _ (.tail _ (.tail _ (.tail _ hp)))))))))

section
variable {h₀ h' : Heap} {L I Pr Em Sg nPr nEm nSg P O R nP nO nR T tS b nb nR' nO' nb' tk' : Nat} {oI : Obj} {x y : Value} {emv sgv : List Value} {step : Str} {ls : List Lev} {its rs : List Value} {cl rest : List (Addr × Obj)} {st : PS} {at' at'' i n : Int} {s : Shared} {m' : Str → Option Value}
theorem SelEnd.of {p p' : PR} (F : Fr h₀ L h' m') (N : News h₀ L h' ((I, oI) :: (Pr, listOf [x, y].toArray nPr) :: (Em, listOf emv.toArray nEm) :: (Sg, listOf sgv.toArray nSg) :: (p'.objs ++ rest)))
    (A : Apart ((I, oI) :: (Pr, listOf [x, y].toArray nPr) :: (Em, listOf emv.toArray nEm) :: (Sg, listOf sgv.toArray nSg) :: (p'.objs ++ rest))) (hP : p'.P = p.P) (hS : p'.step = p.step)
    (hI : if Int.fmod n 8 = 6 then at'' = 1 - at' ∧ p'.Is st tk' else at'' = at' ∧ p'.Is (actPS p.step st i n) tk')
    (hm : ∃ ta ti, m' (Str.ofString "at") = some (.int at'' ta) ∧ m' (Str.ofString "i") = some (.int i ti) ∧ m' (Str.ofString "pair") = some (.ref Pr) ∧ m' (Str.ofString "empty") = some (.ref Em) ∧ m' (Str.ofString "signs") = some (.ref Sg)) :
    SelEnd h₀ L I oI Pr Em Sg nPr nEm nSg x y emv sgv p st rest at' i n s .next { s with heap := h', toks := tk' } := by
  obtain ⟨ta, ti, h1, h2, h3, h4, h5⟩ := hm
  exact ⟨.inl rfl, h', tk', m', p', at'', ta, ti, rfl, F, N, A, hP, hS, hI, mDraw_of h1 h2 h3 h4 h5⟩
theorem selPut {X : Str} {t : Nat} {l1 : List Value} {r1 : List Str} (F : Fr h₀ L h' m')
    (N : News h₀ L h' ((I, oI) :: (Pr, listOf [x, y].toArray nPr) :: (Em, listOf emv.toArray nEm) :: (Sg, listOf sgv.toArray nSg) :: (P, tupOf [Value.ref T, Value.ref O, Value.ref R, Value.str step tS].toArray nP) :: (O, listOf (refsOf ls ++ [Value.ref b]).toArray nO) :: (R, listOf (rs ++ l1).toArray nR') :: (levObjs ls b ++ (b, listOf (its ++ [Value.str X t]).toArray nb') :: (cl ++ rest))))
    (hA : Apart ((I, oI) :: (Pr, listOf [x, y].toArray nPr) :: (Em, listOf emv.toArray nEm) :: (Sg, listOf sgv.toArray nSg) :: (P, tupOf [Value.ref T, Value.ref O, Value.ref R, Value.str step tS].toArray nP) :: (O, listOf (refsOf ls ++ [Value.ref b]).toArray nO) :: (R, listOf rs.toArray nR) :: (levObjs ls b ++ (b, listOf its.toArray nb) :: (cl ++ rest))))
    (hlev : LevDat cl ls st.stk) (htop : DatAll cl its st.top) {tk : Nat} (hrow : RowsAre tk rs st.rows) (hle : tk ≤ tk') (hbot : T = nextA ls b) (hstp : step.length < 10) (h6 : Int.fmod n 8 ≠ 6) {l0 : Str}
    (hr : RowsAre tk' l1 ((Txt.mul step st.stk.length ++ l0) :: r1)) (e : actPS step st i n = st.put step (.str X) l0 r1)
    (hm : ∃ ta ti, m' (Str.ofString "at") = some (.int at' ta) ∧ m' (Str.ofString "i") = some (.int i ti) ∧ m' (Str.ofString "pair") = some (.ref Pr) ∧ m' (Str.ofString "empty") = some (.ref Em) ∧ m' (Str.ofString "signs") = some (.ref Sg)) :
    SelEnd h₀ L I oI Pr Em Sg nPr nEm nSg x y emv sgv ⟨P, O, R, nP, nO, nR, T, step, tS, ls, b, its, nb, cl, rs⟩ st rest at' i n s .next { s with heap := h', toks := tk' } := by
  refine SelEnd.of (p' := ⟨P, O, R, nP, nO, nR', T, step, tS, ls, b, its ++ [Value.str X t], nb', cl, rs ++ l1⟩) F ?_ ?_ rfl rfl ?_ hm
  · simp only [PR.objs, PR.head, PR.tree, List.cons_append, List.nil_append, List.append_assoc]
    exact N
  · refine apart_sub hA ?_
    simp only [PR.objs, PR.head, PR.tree, List.cons_append, List.nil_append, List.append_assoc, List.map_cons, List.map_append]
  · rw [if_neg h6]
    refine ⟨rfl, ?_⟩
    dsimp only
    rw [e]
    exact ⟨hlev, DatAll.append htop (DatAll.one (DatIn.str _ _)), (hrow.mono hle).append hr, hbot, hstp⟩
end

theorem pick_at {ps : List (Str × Nat)} {l : List Str} {k : Int} {x : Str} {t : Nat} (h : ps[k.toNat]? = some (x, t)) (e : ps.map (·.1) = l) : at_ l k = x := by
  subst e
  unfold at_
  rw [List.getD_eq_getElem?_getD, List.getElem?_map, h]
  rfl

theorem newsFrom1 {h₀ H : Heap} {L : Addr} {x2 x3 x4 x5 x6 x7 x8 x9 : Addr × Obj} {pre post : List (Addr × Obj)} {b : Nat} {o : Obj} (N : News h₀ L H (x2 :: x3 :: x4 :: x5 :: x6 :: x7 :: x8 :: x9 :: (pre ++ (b, o) :: post))) : News h₀ L H (pre ++ (b, o) :: post) :=
  fun p hp => N p (.tail _ (.tail _ (.tail _ (.tail _ (.tail _ (.tail _ (.tail _ (.tail _ hp))))))))
theorem newsTailK {h₀ H h' : Heap} {L : Addr} {pre post : List (Addr × Obj)} {b : Nat} {o : Obj} {as : List Addr} (N : News h₀ L H (pre ++ (b, o) :: post)) (G : GSub H h' as) (hp : ∀ p ∈ pre, p.1 ∉ as) (hb : b ∉ as) (hq : ∀ p ∈ post, p.1 ∉ as) : News h₀ L h' (pre ++ (b, o) :: post) :=
  newsTail N G hp hq (G _ _ (N (b, o) (List.mem_append.mpr (.inr (.head _)))).1 hb)
theorem off1 {l : List (Addr × Obj)} {x : Nat} (h1 : ∀ p ∈ l, @Ne Nat p.1 x) : ∀ p ∈ l, p.1 ∉ [x] := fun p hp => notin_cons (h1 p hp) notin_nil
theorem newsFrom2 {h₀ H : Heap} {L : Addr} {x1 x2 x3 x4 x5 x6 x7 x8 x9 x10 x11 : Addr × Obj} {pre post : List (Addr × Obj)} {b : Nat} {o : Obj} (N : News h₀ L H (x1 :: x2 :: x3 :: x4 :: x5 :: x6 :: x7 :: x8 :: x9 :: x10 :: x11 :: (pre ++ (b, o) :: post))) : News h₀ L H (pre ++ (b, o) :: post) :=
  fun p hp => N p (.tail _ (.tail _ (.tail _ (.tail _ (.tail _ (.tail _ (.tail _ (.tail _ (.tail _ (.tail _ (.tail _ hp)))))))))))
theorem newsT {h₀ H : Heap} {L : Addr} {x : Addr × Obj} {l : List (Addr × Obj)} (N : News h₀ L H (x :: l)) : News h₀ L H l := fun p hp => N p (.tail _ hp)
section
variable {h₀ h' : Heap} {L I Pr Em Sg nPr nEm nSg P O R nP nO nR T tS b nb nR' nO' nb' tk' tk : Nat} {oI : Obj} {x y : Value} {emv sgv : List Value} {step : Str} {ls : List Lev} {its rs : List Value} {cl rest : List (Addr × Obj)} {st : PS} {at' at'' i n : Int} {s : Shared} {m' : Str → Option Value}
theorem selEmpt {X : Str} {t : Nat} (F : Fr h₀ L h' m')
    (N : News h₀ L h' ((I, oI) :: (Pr, listOf [x, y].toArray nPr) :: (Em, listOf emv.toArray nEm) :: (Sg, listOf sgv.toArray nSg) :: (P, tupOf [Value.ref T, Value.ref O, Value.ref R, Value.str step tS].toArray nP) :: (O, listOf (refsOf ls ++ [Value.ref b]).toArray nO) :: (R, listOf (rs ++ [Value.str X t]).toArray nR') :: (levObjs ls b ++ (b, listOf its.toArray nb) :: (cl ++ rest))))
    (hA : Apart ((I, oI) :: (Pr, listOf [x, y].toArray nPr) :: (Em, listOf emv.toArray nEm) :: (Sg, listOf sgv.toArray nSg) :: (P, tupOf [Value.ref T, Value.ref O, Value.ref R, Value.str step tS].toArray nP) :: (O, listOf (refsOf ls ++ [Value.ref b]).toArray nO) :: (R, listOf rs.toArray nR) :: (levObjs ls b ++ (b, listOf its.toArray nb) :: (cl ++ rest))))
    (hlev : LevDat cl ls st.stk) (htop : DatAll cl its st.top) (hrow : RowsAre tk rs st.rows) (hle : tk ≤ tk') (hbot : T = nextA ls b) (hstp : step.length < 10) (h6 : Int.fmod n 8 ≠ 6)
    (ht : 1 ≤ t ∧ t < tk') (e : actPS step st i n = st.empt X)
    (hm : ∃ ta ti, m' (Str.ofString "at") = some (.int at' ta) ∧ m' (Str.ofString "i") = some (.int i ti) ∧ m' (Str.ofString "pair") = some (.ref Pr) ∧ m' (Str.ofString "empty") = some (.ref Em) ∧ m' (Str.ofString "signs") = some (.ref Sg)) :
    SelEnd h₀ L I oI Pr Em Sg nPr nEm nSg x y emv sgv ⟨P, O, R, nP, nO, nR, T, step, tS, ls, b, its, nb, cl, rs⟩ st rest at' i n s .next { s with heap := h', toks := tk' } := by
  refine SelEnd.of (p' := ⟨P, O, R, nP, nO, nR', T, step, tS, ls, b, its, nb, cl, rs ++ [Value.str X t]⟩) F ?_ ?_ rfl rfl ?_ hm
  · simp only [PR.objs, PR.head, PR.tree, List.cons_append, List.nil_append, List.append_assoc]
    exact N
  · refine apart_sub hA ?_
    simp only [PR.objs, PR.head, PR.tree, List.cons_append, List.nil_append, List.append_assoc, List.map_cons, List.map_append]
  · rw [if_neg h6]
    refine ⟨rfl, ?_⟩
    dsimp only
    rw [e]
    exact ⟨hlev, htop, (hrow.mono hle).append (.cons ht .nil), hbot, hstp⟩
theorem selFlip (F : Fr h₀ L h' m')
    (N : News h₀ L h' ((I, oI) :: (Pr, listOf [x, y].toArray nPr) :: (Em, listOf emv.toArray nEm) :: (Sg, listOf sgv.toArray nSg) :: (P, tupOf [Value.ref T, Value.ref O, Value.ref R, Value.str step tS].toArray nP) :: (O, listOf (refsOf ls ++ [Value.ref b]).toArray nO) :: (R, listOf rs.toArray nR) :: (levObjs ls b ++ (b, listOf its.toArray nb) :: (cl ++ rest))))
    (hA : Apart ((I, oI) :: (Pr, listOf [x, y].toArray nPr) :: (Em, listOf emv.toArray nEm) :: (Sg, listOf sgv.toArray nSg) :: (P, tupOf [Value.ref T, Value.ref O, Value.ref R, Value.str step tS].toArray nP) :: (O, listOf (refsOf ls ++ [Value.ref b]).toArray nO) :: (R, listOf rs.toArray nR) :: (levObjs ls b ++ (b, listOf its.toArray nb) :: (cl ++ rest))))
    (hlev : LevDat cl ls st.stk) (htop : DatAll cl its st.top) (hrow : RowsAre tk rs st.rows) (hle : tk ≤ tk') (hbot : T = nextA ls b) (hstp : step.length < 10) (h6 : Int.fmod n 8 = 6)
    (hm : ∃ ta ti, m' (Str.ofString "at") = some (.int (1 - at') ta) ∧ m' (Str.ofString "i") = some (.int i ti) ∧ m' (Str.ofString "pair") = some (.ref Pr) ∧ m' (Str.ofString "empty") = some (.ref Em) ∧ m' (Str.ofString "signs") = some (.ref Sg)) :
    SelEnd h₀ L I oI Pr Em Sg nPr nEm nSg x y emv sgv ⟨P, O, R, nP, nO, nR, T, step, tS, ls, b, its, nb, cl, rs⟩ st rest at' i n s .next { s with heap := h', toks := tk' } := by
  refine SelEnd.of (p' := ⟨P, O, R, nP, nO, nR, T, step, tS, ls, b, its, nb, cl, rs⟩) F ?_ ?_ rfl rfl ?_ hm
  · simp only [PR.objs, PR.head, PR.tree, List.cons_append, List.nil_append, List.append_assoc]
    exact N
  · refine apart_sub hA ?_
    simp only [PR.objs, PR.head, PR.tree, List.cons_append, List.nil_append, List.append_assoc, List.map_cons, List.map_append]
  · rw [if_pos h6]
    exact ⟨rfl, hlev, htop, hrow.mono hle, hbot, hstp⟩
end

section
variable {h₀ h' : Heap} {L I Pr Em Sg nPr nEm nSg P O R nP nO nR T tS b nb nR' nO' nb' tk' tk : Nat} {oI : Obj} {x y : Value} {emv sgv : List Value} {step : Str} {ls : List Lev} {its rs : List Value} {cl rest : List (Addr × Obj)} {st : PS} {at' at'' i n : Int} {s : Shared} {m' : Str → Option Value}
theorem apart_two {A c : List (Addr × Obj)} {b D1 D2 : Nat} {ob ob' o1 o2 : Obj} (h : Apart (A ++ (b, ob) :: c)) (h1 : ∀ p ∈ A ++ (b, ob) :: c, @LT.lt Nat _ p.1 D1) (h2 : D1 < D2) : Apart (A ++ (b, ob') :: (D2, o2) :: (D1, o1) :: c) := by
  have e : A ++ (b, ob') :: (D2, o2) :: (D1, o1) :: c = (A ++ [(b, ob')]) ++ (D2, o2) :: (D1, o1) :: c := by simp
  have hA : ∀ p ∈ A ++ [(b, ob')], @LT.lt Nat _ p.1 D1 := by
    intro p hp
    rcases List.mem_append.mp hp with hp | hp
    · exact h1 p (List.mem_append.mpr (.inl hp))
    · rw [List.mem_singleton.mp hp]; exact h1 (b, ob) (List.mem_append.mpr (.inr (.head _)))
  have hc : ∀ p ∈ c, @LT.lt Nat _ p.1 D1 := fun p hp => h1 p (List.mem_append.mpr (.inr (.tail _ hp)))
  rw [e, apart_mid]
  refine ⟨fun p hp => Nat.ne_of_lt (Nat.lt_trans (hA p hp) h2), ?_, ?_⟩
  · intro p hp
    rcases List.mem_cons.mp hp with rfl | hp
    · exact Nat.ne_of_lt h2
    · exact Nat.ne_of_lt (Nat.lt_trans (hc p hp) h2)
  · rw [apart_mid]
    refine ⟨fun p hp => Nat.ne_of_lt (hA p hp), fun p hp => Nat.ne_of_lt (hc p hp), apart_sub h ?_⟩
    simp
theorem selOpen {X : Str} {t tR D1 D2 : Nat} (F : Fr h₀ L h' m')
    (N : News h₀ L h' ((D2, tupOf [Value.str X t, Value.ref D1].toArray 0) :: (D1, listOf ([] : List Value).toArray 0) :: (I, oI) :: (Pr, listOf [x, y].toArray nPr) :: (Em, listOf emv.toArray nEm) :: (Sg, listOf sgv.toArray nSg) :: (P, tupOf [Value.ref T, Value.ref O, Value.ref R, Value.str step tS].toArray nP) :: (O, listOf (refsOf ls ++ [Value.ref b] ++ [Value.ref D1]).toArray nO') :: (R, listOf (rs ++ [Value.str (Txt.mul step st.stk.length ++ X) tR]).toArray nR') :: (levObjs ls b ++ (b, listOf (its ++ [Value.ref D2]).toArray nb') :: (cl ++ rest))))
    (hA : Apart ((I, oI) :: (Pr, listOf [x, y].toArray nPr) :: (Em, listOf emv.toArray nEm) :: (Sg, listOf sgv.toArray nSg) :: (P, tupOf [Value.ref T, Value.ref O, Value.ref R, Value.str step tS].toArray nP) :: (O, listOf (refsOf ls ++ [Value.ref b]).toArray nO) :: (R, listOf rs.toArray nR) :: (levObjs ls b ++ (b, listOf its.toArray nb) :: (cl ++ rest))))
    (hD1 : ∀ p ∈ (I, oI) :: (Pr, listOf [x, y].toArray nPr) :: (Em, listOf emv.toArray nEm) :: (Sg, listOf sgv.toArray nSg) :: (P, tupOf [Value.ref T, Value.ref O, Value.ref R, Value.str step tS].toArray nP) :: (O, listOf (refsOf ls ++ [Value.ref b]).toArray nO) :: (R, listOf rs.toArray nR) :: (levObjs ls b ++ (b, listOf its.toArray nb) :: (cl ++ rest)), p.1 < D1) (hD2 : D1 < D2)
    (hlev : LevDat cl ls st.stk) (htop : DatAll cl its st.top) (hrow : RowsAre tk rs st.rows) (hle : tk ≤ tk') (hbot : T = nextA ls b) (hstp : step.length < 10) (h6 : Int.fmod n 8 ≠ 6)
    (ht : 1 ≤ tR ∧ tR < tk') (e : actPS step st i n = st.openB step X)
    (hm : ∃ ta ti, m' (Str.ofString "at") = some (.int at' ta) ∧ m' (Str.ofString "i") = some (.int i ti) ∧ m' (Str.ofString "pair") = some (.ref Pr) ∧ m' (Str.ofString "empty") = some (.ref Em) ∧ m' (Str.ofString "signs") = some (.ref Sg)) :
    SelEnd h₀ L I oI Pr Em Sg nPr nEm nSg x y emv sgv ⟨P, O, R, nP, nO, nR, T, step, tS, ls, b, its, nb, cl, rs⟩ st rest at' i n s .next { s with heap := h', toks := tk' } := by
  refine SelEnd.of (p' := ⟨P, O, R, nP, nO', nR', T, step, tS, ls ++ [⟨b, its, nb', D2, 0, X, t⟩], D1, [], 0, cl, rs ++ [Value.str (Txt.mul step st.stk.length ++ X) tR]⟩) F ?_ ?_ rfl rfl ?_ hm
  · simp only [PR.objs, PR.head, PR.tree, levObjs_snoc, Lev.objs, refsOf_snoc, List.cons_append, List.nil_append, List.append_assoc]
    intro p hp
    refine N p ?_
    simp only [List.mem_cons, List.mem_append] at hp ⊢
    simp only [List.append_assoc, List.cons_append, List.nil_append]
    grind
  · simp only [PR.objs, PR.head, PR.tree, levObjs_snoc, Lev.objs, refsOf_snoc, List.cons_append, List.nil_append, List.append_assoc]
    have h2 := apart_two (ob' := listOf (its ++ [Value.ref D2]).toArray nb') (o1 := listOf ([] : List Value).toArray 0) (o2 := tupOf [Value.str X t, Value.ref D1].toArray 0) (A := (I, oI) :: (Pr, listOf [x, y].toArray nPr) :: (Em, listOf emv.toArray nEm) :: (Sg, listOf sgv.toArray nSg) :: (P, tupOf [Value.ref T, Value.ref O, Value.ref R, Value.str step tS].toArray nP) :: (O, listOf (refsOf ls ++ [Value.ref b]).toArray nO) :: (R, listOf rs.toArray nR) :: levObjs ls b) hA hD1 hD2
    refine apart_sub h2 ?_
    simp only [List.cons_append, List.nil_append, List.append_assoc, List.map_cons, List.map_append]
  · rw [if_neg h6]
    refine ⟨rfl, ?_⟩
    dsimp only
    rw [e]
    exact ⟨hlev.snoc (l := ⟨b, its, nb', D2, 0, X, t⟩) htop, .nil, (hrow.mono hle).append (.cons ht .nil), by rw [nextA_snoc]; exact hbot, hstp⟩
end

theorem PS.pop_snoc (st : PS) (ps : List (List Dat × Str)) (ds : List Dat) (X : Str) (e : st.stk = ps ++ [(ds, X)]) : st.pop = ⟨ps, ds ++ [.tuple [.str X, .list st.top]], st.rows⟩ := by
  unfold PS.pop
  rw [e, List.reverse_append]
  simp
theorem snoc_of {α : Type} {l : List α} (h : l ≠ []) : ∃ p x, l = p ++ [x] := by
  induction l with
  | nil => exact absurd rfl h
  | cons a r ih =>
    cases r with
    | nil => exact ⟨[], a, rfl⟩
    | cons c r =>
      obtain ⟨p, x, e⟩ := ih (by simp)
      exact ⟨a :: p, x, by rw [e]; rfl⟩
section
variable {h₀ h' : Heap} {L I Pr Em Sg nPr nEm nSg P O R nP nO nR T tS b nb nR' nO' nb' tk' tk : Nat} {oI : Obj} {x y : Value} {emv sgv : List Value} {step : Str} {ls : List Lev} {its its' rs rs' : List Value} {cl rest : List (Addr × Obj)} {st : PS} {at' at'' i n : Int} {s : Shared} {m' : Str → Option Value}
theorem selClose {top' : List Dat} {rows' : List Str} (F : Fr h₀ L h' m')
    (N : News h₀ L h' ((I, oI) :: (Pr, listOf [x, y].toArray nPr) :: (Em, listOf emv.toArray nEm) :: (Sg, listOf sgv.toArray nSg) :: (P, tupOf [Value.ref T, Value.ref O, Value.ref R, Value.str step tS].toArray nP) :: (O, listOf (refsOf ls).toArray nO') :: (R, listOf rs'.toArray nR') :: (levObjs ls b ++ (b, listOf its'.toArray nb') :: (cl ++ rest))))
    (hA : Apart ((I, oI) :: (Pr, listOf [x, y].toArray nPr) :: (Em, listOf emv.toArray nEm) :: (Sg, listOf sgv.toArray nSg) :: (P, tupOf [Value.ref T, Value.ref O, Value.ref R, Value.str step tS].toArray nP) :: (O, listOf (refsOf ls ++ [Value.ref b]).toArray nO) :: (R, listOf rs.toArray nR) :: (levObjs ls b ++ (b, listOf its.toArray nb) :: (cl ++ rest))))
    (hlev : LevDat cl ls st.stk) (htop : DatAll cl its' top') (hrow : RowsAre tk' rs' rows') (hbot : T = nextA ls b) (hstp : step.length < 10) (h3 : Int.fmod n 8 = 3) (hs : st.stk ≠ [])
    (e : st.endB step = ⟨st.stk, top', rows'⟩)
    (hm : ∃ ta ti, m' (Str.ofString "at") = some (.int at' ta) ∧ m' (Str.ofString "i") = some (.int i ti) ∧ m' (Str.ofString "pair") = some (.ref Pr) ∧ m' (Str.ofString "empty") = some (.ref Em) ∧ m' (Str.ofString "signs") = some (.ref Sg)) :
    SelEnd h₀ L I oI Pr Em Sg nPr nEm nSg x y emv sgv ⟨P, O, R, nP, nO, nR, T, step, tS, ls, b, its, nb, cl, rs⟩ st rest at' i n s .next { s with heap := h', toks := tk' } := by
  obtain ⟨ps, ⟨ds, X⟩, hst⟩ := snoc_of hs
  have hlev' := hlev
  rw [hst] at hlev'
  obtain ⟨ls', l, rfl, hX, hl1, hl2⟩ := hlev'.unsnoc
  have ea : actPS step st i n = ⟨ps, ds ++ [.tuple [.str X, .list top']], rows'⟩ := by
    unfold actPS
    rw [if_neg (by omega), if_pos ⟨h3, hs⟩]
    unfold PS.close
    rw [e]
    exact PS.pop_snoc ⟨st.stk, top', rows'⟩ ps ds X hst
  have sub : ∀ q ∈ cl, q ∈ (b, listOf its'.toArray nb') :: (l.t, tupOf [Value.str l.hd l.tk, Value.ref b].toArray l.nt) :: cl := fun q hq => .tail _ (.tail _ hq)
  refine SelEnd.of (p' := ⟨P, O, R, nP, nO', nR', T, step, tS, ls', l.a, l.vs ++ [Value.ref l.t], l.n, (b, listOf its'.toArray nb') :: (l.t, tupOf [Value.str l.hd l.tk, Value.ref b].toArray l.nt) :: cl, rs'⟩) F ?_ ?_ rfl rfl ?_ hm
  · simp only [PR.objs, PR.head, PR.tree, levObjs_snoc, Lev.objs, refsOf_snoc, List.cons_append, List.nil_append, List.append_assoc] at N ⊢
    intro p hp
    refine N p ?_
    simp only [List.mem_cons, List.mem_append] at hp ⊢
    grind
  · simp only [PR.objs, PR.head, PR.tree, levObjs_snoc, Lev.objs, refsOf_snoc, List.cons_append, List.nil_append, List.append_assoc] at hA ⊢
    simp only [apart_cons, apart_mid, List.forall_mem_cons, List.forall_mem_append] at hA ⊢
    grind
  · rw [if_neg (by omega)]
    refine ⟨rfl, ?_⟩
    dsimp only
    rw [ea]
    refine ⟨hl1.mono sub, ?_, hrow, ?_, hstp⟩
    · refine DatAll.append (hl2.mono sub) (DatAll.one (DatIn.tuple (.tail _ (.head _)) (.cons ?_ (.cons (DatIn.list (.head _) (htop.mono sub)) .nil))))
      rw [hX]
      exact DatIn.str _ _
    · dsimp only
      rw [hbot, nextA_snoc]
end
theorem wpAny_q {α : Type} {M : Model} {A : Around} {t : Sem α} {Q : α → Shared → Prop} {E : Value → Shared → Prop} {s : Shared} (h : ∀ Q' : α → Shared → Prop, Q = Q' → wpAny M A t Q' E s) : wpAny M A t Q E s := h Q rfl
theorem tok5 {A B C D E : Prop} {t e : Nat} (h : A ∧ t = e ∨ B ∧ t = e + 1 ∨ C ∧ t = e + 1 + 1 ∨ D ∧ t = e + 1 + 1 + 1 ∨ E ∧ t = e + 1 + 1 + 1 + 1) : e ≤ t ∧ t < e + 10 := by
  rcases h with ⟨_, rfl⟩ | ⟨_, rfl⟩ | ⟨_, rfl⟩ | ⟨_, rfl⟩ | ⟨_, rfl⟩ <;> omega
theorem newsSwap {h₀ H : Heap} {L : Addr} {a b : Addr × Obj} {l : List (Addr × Obj)} (N : News h₀ L H (a :: b :: l)) : News h₀ L H (b :: a :: l) := fun p hp => N p ((List.Perm.swap a b l).mem_iff.mp hp)
theorem newsFrom7 {h₀ H : Heap} {L : Addr} {x1 x2 x3 x4 x5 x6 x7 : Addr × Obj} {l : List (Addr × Obj)} (N : News h₀ L H (x1 :: x2 :: x3 :: x4 :: x5 :: x6 :: x7 :: l)) : News h₀ L H l :=
  fun p hp => N p (.tail _ (.tail _ (.tail _ (.tail _ (.tail _ (.tail _ (.tail _ hp)))))))
theorem mul_len_nat (x : Str) (k : Nat) : (Txt.mul x (k : Int)).length = x.length * k := by
  have e := len_mul x (k : Int)
  rw [if_neg (by simp)] at e
  exact_mod_cast e
theorem mul_len_le {x : Str} {k : Int} {a c : Nat} (hx : x.length ≤ a) (hk : k ≤ (c : Int)) : (Txt.mul x k).length ≤ a * c := by
  have e := len_mul x k
  by_cases h : k < 0
  · rw [if_pos (by simpa using h)] at e
    have : (Txt.mul x k).length = 0 := by omega
    omega
  · rw [if_neg (by simpa using h)] at e
    obtain ⟨j, rfl⟩ : ∃ j : Nat, k = (j : Int) := ⟨k.toNat, by omega⟩
    rw [mul_len_nat]
    exact Nat.mul_le_mul hx (by omega)
theorem PS.Bnd.mono {st : PS} {k k' : Nat} (h : st.Bnd k) (hle : k ≤ k') : st.Bnd k' :=
  ⟨by have := h.stk; omega, by have := h.top; omega, fun p hp => by have := h.lev p hp; omega, by have := h.rows; omega, h.row⟩
theorem row_len {stp l0 : Str} {d : Nat} (hs : stp.length < 10) (hd : d ≤ 60) (hl : l0.length ≤ 100) : (Txt.mul stp (d : Int) ++ l0).length ≤ 1200 := by
  rw [Str.length_append, mul_len_nat]
  have := Nat.mul_le_mul (Nat.le_of_lt hs) hd
  omega
theorem bnd_put {st : PS} {k : Nat} {stp l0 : Str} {d : Dat} {rest : List Str} (h : st.Bnd k) (hk : k < 50) (hs : stp.length < 10) (hl : l0.length ≤ 100) (hr : rest.length ≤ 3) (hr2 : ∀ r ∈ rest, r.length ≤ 1200) : (st.put stp d l0 rest).Bnd (k + 1) := by
  refine ⟨?_, ?_, ?_, ?_, ?_⟩
  · have := h.stk; simp only [PS.put]; omega
  · have := h.top; simp only [PS.put, List.length_append, List.length_cons, List.length_nil]; omega
  · intro p hp; have := h.lev p hp; omega
  · have := h.rows; simp only [PS.put, List.length_append, List.length_cons]; omega
  · intro r hp
    rcases List.mem_append.mp hp with hp | hp
    · exact h.row r hp
    · rcases List.mem_cons.mp hp with rfl | hp
      · exact row_len hs (by have := h.stk; omega) hl
      · exact hr2 r hp
theorem bnd_open {st : PS} {k : Nat} {stp x : Str} (h : st.Bnd k) (hk : k < 50) (hs : stp.length < 10) (hl : x.length ≤ 100) : (st.openB stp x).Bnd (k + 1) := by
  refine ⟨?_, ?_, ?_, ?_, ?_⟩
  · have := h.stk; simp only [PS.openB, List.length_append, List.length_cons, List.length_nil]; omega
  · simp only [PS.openB, List.length_nil]; omega
  · intro p hp
    rcases List.mem_append.mp hp with hp | hp
    · have := h.lev p hp; omega
    · rw [List.mem_singleton.mp hp]; have := h.top; show st.top.length ≤ k + 1; omega
  · have := h.rows; simp only [PS.openB, List.length_append, List.length_cons, List.length_nil]; omega
  · intro r hp
    rcases List.mem_append.mp hp with hp | hp
    · exact h.row r hp
    · rw [List.mem_singleton.mp hp]; exact row_len hs (by have := h.stk; omega) hl
theorem endB_stk (st : PS) (stp : Str) : (st.endB stp).stk = st.stk := by unfold PS.endB; split <;> rfl
theorem bnd_endB {st : PS} {k : Nat} {stp : Str} (h : st.Bnd k) (hk : k < 50) (hs : stp.length < 10) : (st.endB stp).Bnd (k + 1) := by
  unfold PS.endB
  split
  · exact bnd_put h hk hs (by decide) (by simp) (by simp)
  · exact h.mono (Nat.le_succ _)
theorem bnd_close {st : PS} {k : Nat} {stp : Str} (h : st.Bnd k) (hk : k < 50) (hs : stp.length < 10) (hne : st.stk ≠ []) : (st.close stp).Bnd (k + 1) := by
  unfold PS.close
  have h1 := bnd_endB h hk hs
  obtain ⟨ps, ⟨ds, X⟩, e⟩ := snoc_of hne
  rw [PS.pop_snoc _ ps ds X (by rw [endB_stk]; exact e)]
  have h2 := h.stk
  have h3 := h.lev (ds, X) (by rw [e]; simp)
  rw [e] at h2
  simp only [List.length_append, List.length_cons, List.length_nil] at h2
  refine ⟨by show ps.length ≤ k + 1; omega, ?_, ?_, h1.rows, h1.row⟩
  · simp only [List.length_append, List.length_cons, List.length_nil]; show ds.length + (0 + 1) ≤ k + 1; have : ds.length ≤ k := h3; omega
  · intro p hp
    have := h.lev p (by rw [e]; exact List.mem_append.mpr (.inl hp))
    omega
theorem at_len {l : List Str} {c : Nat} (h : ∀ x ∈ l, x.length ≤ c) (k : Int) : (at_ l k).length ≤ c := by
  unfold at_
  rw [List.getD_eq_getElem?_getD]
  cases e : l[k.toNat]? with
  | none => exact Nat.zero_le _
  | some x => exact h x (List.mem_of_getElem? e)
theorem emptyL_len : ∀ x ∈ emptyL, x.length ≤ 10 := by decide
theorem signsL_len : ∀ x ∈ signsL, x.length ≤ 10 := by decide
theorem stepsL_len : ∀ x ∈ stepsL, x.length < 10 := by decide
theorem actPS_bnd {st : PS} {k : Nat} {stp : Str} {i n : Int} (h : st.Bnd k) (hk : k < 50) (hs : stp.length < 10) (h0 : 0 ≤ i) (h1 : i < 64) : (actPS stp st i n).Bnd (k + 1) := by
  have hw := word_len h0 h1
  have l2 : (Str.ofString "if ").length = 3 := by decide
  have l3 : (Str.ofString ":").length = 1 := by decide
  have l5 : (Str.ofString "(a,").length = 3 := by decide
  have l7 : (Str.ofString "b,").length = 2 := by decide
  have l9 : (Str.ofString ")").length = 1 := by decide
  have l10 : (Str.ofString "y").length = 1 := by decide
  unfold actPS
  split
  · refine bnd_open h hk hs ?_
    unfold headT
    rw [Str.length_append, Str.length_append]; omega
  split
  · rename_i h3; exact bnd_close h hk hs h3.2
  split
  · have e := at_len emptyL_len (Int.fmod (Int.fdiv n 8) 5)
    refine ⟨by have := h.stk; show st.stk.length ≤ _; omega, by have := h.top; show st.top.length ≤ _; omega, fun p hp => by have := h.lev p hp; omega, ?_, ?_⟩
    · have := h.rows; simp only [PS.empt, List.length_append, List.length_cons, List.length_nil]; omega
    · intro r hp
      rcases List.mem_append.mp hp with hp | hp
      · exact h.row r hp
      · rw [List.mem_singleton.mp hp]; omega
  split
  · refine bnd_put h hk hs ?_ (by simp) ?_
    · rw [Str.length_append]; omega
    · intro r hr
      have f2 := fmod_hi (Int.fdiv n 8) (n := 7) (by decide)
      have f4 := fmod_hi (Int.fdiv (Int.fdiv n 8) 7) (n := 4) (by decide)
      have m1 := mul_len_le (x := Str.ofString " ") (a := 1) (c := 7) (by decide) (Int.le_of_lt f2)
      have m2 := mul_len_le (x := Str.ofString "\t") (a := 1) (c := 4) (by decide) (Int.le_of_lt f4)
      simp only [List.mem_cons, List.not_mem_nil, or_false] at hr
      rcases hr with rfl | rfl <;> rw [Str.length_append] <;> omega
  split
  · have e := at_len signsL_len (Int.fmod (Int.fdiv n 8) 8)
    refine bnd_put h hk hs ?_ (by simp) (by simp)
    unfold signT
    rw [Str.length_append, Str.length_append]; omega
  · exact bnd_put h hk hs (by omega) (by simp) (by simp)
section
variable {prog : Program} {w : World} {A : Around} {E : Value → Shared → Prop} {s : Shared} {env : Env} {Q : Flow → Shared → Prop}
/-- a while by a measure and a word of the whole state -/
noncomputable def WhileEnd (J : Nat → Shared → Prop) (n : Nat) (Q : Flow → Shared → Prop) (f : Flow) (s₃ : Shared) : Prop :=
  match f with
  | .ret v => Q (.ret v) s₃
  | .brk => Q .next s₃
  | _ => ∃ m, m < n ∧ J m s₃
theorem while_tk {test : Expr} {body : List Stmt} {pos : Pos} (J : Nat → Shared → Prop) {n₀ : Nat} (hJ : J n₀ s)
    (turn : ∀ n s₁ W, WhileEnd J n Q = W → J n s₁ → wpAny (model prog w) A (isTrue test env (eval test env)) (fun b s₂ => if b = true then wpAny (model prog w) A (execs body env) W E s₂ else Q .next s₂) E s₁)
    (hE : PassesOwn (model prog w) A env E := by passes_own) :
    wpAny (model prog w) A (exec (.While test body [] pos) env) Q E s := by
  refine wpAny_While (codeAny_whileLoop J (fun n s' hn => ?_) n₀ hJ)
  refine wpAny_mono (turn n s' _ rfl hn) (fun b s₂ h₂ => ?_) hE
  cases b with
  | false =>
    simp only [Bool.false_eq_true, if_false] at h₂ ⊢
    exact wpAny_execs_nil h₂
  | true =>
    simp only [if_true] at h₂ ⊢
    refine wpAny_passesOwn hE (wpAny_mono h₂ (fun f s₃ h₃ => ?_) fun _ _ e => e)
    cases f with
    | ret v => exact h₃
    | brk => exact h₃
    | cont => exact h₃
    | next => exact h₃
end
noncomputable def PS.closeN (stp : Str) : Nat → PS → PS
  | 0, st => st
  | k + 1, st => PS.closeN stp k (st.close stp)
noncomputable def PS.fin (stp : Str) (st : PS) : PS := PS.closeN stp st.stk.length st
theorem close_stk (st : PS) (stp : Str) (h : st.stk ≠ []) : (st.close stp).stk.length + 1 = st.stk.length := by
  obtain ⟨ps, ⟨ds, X⟩, e⟩ := snoc_of h
  unfold PS.close
  rw [PS.pop_snoc _ ps ds X (by rw [endB_stk]; exact e), e]
  simp
theorem fin_close (st : PS) (stp : Str) (h : st.stk ≠ []) : PS.fin stp (st.close stp) = PS.fin stp st := by
  have e := close_stk st stp h
  unfold PS.fin
  rw [← e]
  rfl
theorem fin_nil (st : PS) (stp : Str) (h : st.stk = []) : PS.fin stp st = st := by
  unfold PS.fin
  rw [h]
  rfl
theorem fin_stk (stp : Str) : ∀ (k : Nat) (st : PS), st.stk.length = k → (PS.closeN stp k st).stk = [] := by
  intro k
  induction k with
  | zero => intro st h; exact List.eq_nil_of_length_eq_zero h
  | succ k ih =>
    intro st h
    have := close_stk st stp (fun q => by rw [q] at h; cases h)
    exact ih _ (by omega)
noncomputable def closeBody : List Stmt := bodyIn (bodyIn drawDef)[7]?

theorem noPass {M : Model} {A : Around} {env : Env} : PassesOwn M A env (fun _ _ => False) := fun _ _ h => h.elim
theorem wpAny_noE {α : Type} {M : Model} {A : Around} {t : Sem α} {Q : α → Shared → Prop} {E : Value → Shared → Prop} {s : Shared} (h : wpAny M A t Q (fun _ _ => False) s) : wpAny M A t Q E s := wpAny_mono h (fun _ _ x => x) fun _ _ x => x.elim

section
variable {h₀ h' : Heap} {L P O R nP nO nR T tS b nb nR' nO' nb' tk' : Nat} {step : Str} {ls : List Lev} {its its' rs rs' : List Value} {cl rest : List (Addr × Obj)} {st : PS}
theorem closeCore {top' : List Dat} {rows' : List Str}
    (N : News h₀ L h' ((P, tupOf [Value.ref T, Value.ref O, Value.ref R, Value.str step tS].toArray nP) :: (O, listOf (refsOf ls).toArray nO') :: (R, listOf rs'.toArray nR') :: (levObjs ls b ++ (b, listOf its'.toArray nb') :: (cl ++ rest))))
    (hA : Apart ((P, tupOf [Value.ref T, Value.ref O, Value.ref R, Value.str step tS].toArray nP) :: (O, listOf (refsOf ls ++ [Value.ref b]).toArray nO) :: (R, listOf rs.toArray nR) :: (levObjs ls b ++ (b, listOf its.toArray nb) :: (cl ++ rest))))
    (hlev : LevDat cl ls st.stk) (htop : DatAll cl its' top') (hrow : RowsAre tk' rs' rows') (hbot : T = nextA ls b) (hstp : step.length < 10) (hs : st.stk ≠ [])
    (e : st.endB step = ⟨st.stk, top', rows'⟩) :
    ∃ p' : PR, p'.P = P ∧ p'.step = step ∧ News h₀ L h' (p'.objs ++ rest) ∧ Apart (p'.objs ++ rest) ∧ p'.Is (st.close step) tk' := by
  obtain ⟨ps, ⟨ds, X⟩, hst⟩ := snoc_of hs
  have hlev' := hlev
  rw [hst] at hlev'
  obtain ⟨ls', l, rfl, hX, hl1, hl2⟩ := hlev'.unsnoc
  have ea : st.close step = ⟨ps, ds ++ [.tuple [.str X, .list top']], rows'⟩ := by
    unfold PS.close
    rw [e]
    exact PS.pop_snoc ⟨st.stk, top', rows'⟩ ps ds X hst
  have sub : ∀ q ∈ cl, q ∈ (b, listOf its'.toArray nb') :: (l.t, tupOf [Value.str l.hd l.tk, Value.ref b].toArray l.nt) :: cl := fun q hq => .tail _ (.tail _ hq)
  refine ⟨⟨P, O, R, nP, nO', nR', T, step, tS, ls', l.a, l.vs ++ [Value.ref l.t], l.n, (b, listOf its'.toArray nb') :: (l.t, tupOf [Value.str l.hd l.tk, Value.ref b].toArray l.nt) :: cl, rs'⟩, rfl, rfl, ?_, ?_, ?_⟩
  · simp only [PR.objs, PR.head, PR.tree, levObjs_snoc, Lev.objs, refsOf_snoc, List.cons_append, List.nil_append, List.append_assoc] at N ⊢
    intro p hp
    refine N p ?_
    simp only [List.mem_cons, List.mem_append] at hp ⊢
    grind
  · simp only [PR.objs, PR.head, PR.tree, levObjs_snoc, Lev.objs, refsOf_snoc, List.cons_append, List.nil_append, List.append_assoc] at hA ⊢
    simp only [apart_cons, apart_mid, List.forall_mem_cons, List.forall_mem_append] at hA ⊢
    grind
  · rw [ea]
    refine ⟨hl1.mono sub, ?_, hrow, ?_, hstp⟩
    · refine DatAll.append (hl2.mono sub) (DatAll.one (DatIn.tuple (.tail _ (.head _)) (.cons ?_ (.cons (DatIn.list (.head _) (htop.mono sub)) .nil))))
      rw [hX]
      exact DatIn.str _ _
    · dsimp only
      rw [hbot, nextA_snoc]
end

theorem fin_bnd (stp : Str) (hs : stp.length < 10) : ∀ (j : Nat) (st : PS) (k : Nat), st.stk.length = j → st.Bnd k → k + j < 50 → (PS.closeN stp j st).Bnd (k + j) := by
  intro j
  induction j with
  | zero => intro st k _ h _; exact h
  | succ j ih =>
    intro st k h hb hk
    have hne : st.stk ≠ [] := fun q => by rw [q] at h; cases h
    have := close_stk st stp hne
    have r := ih (st.close stp) (k + 1) (by omega) (bnd_close hb (by omega) hs hne) (by omega)
    have e : k + 1 + j = k + (j + 1) := by omega
    rw [e] at r
    exact r
theorem RowsAre.pairs {tk : Nat} {vs : List Value} {xs : List Str} (h : RowsAre tk vs xs) : ∃ l : List (Str × Tok), vs = strValues l ∧ l.map (·.1) = xs ∧ ∀ p ∈ l, 1 ≤ (p.2 : Nat) ∧ (p.2 : Nat) < tk := by
  induction h with
  | nil => exact ⟨[], rfl, rfl, fun _ hp => nomatch hp⟩
  | @cons x t vs xs h _ ih =>
    obtain ⟨l, h1, h2, h3⟩ := ih
    refine ⟨(x, t) :: l, by rw [h1]; rfl, by rw [← h2]; rfl, fun p hp => ?_⟩
    rcases List.mem_cons.mp hp with rfl | hp
    · exact h
    · exact h3 p hp
theorem sum_len_le {c : Nat} : ∀ {xs : List Str}, (∀ x ∈ xs, x.length ≤ c) → (xs.map (·.length)).sum ≤ xs.length * c
  | [], _ => Nat.zero_le _
  | x :: xs, h => by
    have h1 := h x (.head _)
    have h2 := sum_len_le (xs := xs) fun y hy => h y (.tail _ hy)
    simp only [List.map_cons, List.sum_cons, List.length_cons, Nat.succ_mul]
    omega
theorem join_len_le {sep : Str} {xs : List Str} {c : Nat} (h : ∀ x ∈ xs, x.length ≤ c) (hs : sep.length ≤ 1) : (Txt.join sep xs).length ≤ xs.length * c + xs.length := by
  show (Builtin.Str.glued sep xs).length ≤ _
  rw [StrLaws.glued_eq_join]
  have h1 := StrLaws.join_length_le sep xs
  have h2 := sum_len_le h
  have h3 : xs.length * sep.length ≤ xs.length * 1 := Nat.mul_le_mul_left _ hs
  omega
section
variable {prog : Program} {w : World} {A : Around} {E : Value → Shared → Prop} {s : Shared} {h₀ : Heap} {L D : Addr} {news : List (Addr × Obj)} {n : Nat}
theorem join_rows {sep : Str} {t : Tok} {rs : List Value} {xs : List Str} {tk : Nat} {Q : Value → Shared → Prop} (N : News h₀ L s.heap news) (hm : (D, listOf rs.toArray n) ∈ news) (hr : RowsAre tk rs xs) (hle : tk ≤ s.toks) (htk : 1 ≤ s.toks)
    (hlen : ∀ x ∈ xs, x.length ≤ 1200) (hn : xs.length ≤ 1000) (hs : sep.length ≤ 1)
    (h : ∀ t' tk' : Nat, 1 ≤ t' ∧ t' < tk' → s.toks ≤ tk' → Q (.str (Txt.join sep xs) t') { s with toks := tk' }) : wpAny (model prog w) A (call (.builtin "str.join") [.str sep t, .ref D]) Q E s := by
  obtain ⟨l, rfl, rfl, h3⟩ := hr.pairs
  have hl : s.heap.IsList D (strValues l).toArray := News.isList N hm
  have hok : Builtin.Str.tooLong ((l.map (·.1)).toArray.foldl (· + ·.length + sep.length) 0) = false := by
    rw [StrLaws.joinTotal]
    have h2 := sum_len_le hlen
    have h4 : (l.map (·.1)).length * sep.length ≤ (l.map (·.1)).length * 1 := Nat.mul_le_mul_left _ hs
    unfold Builtin.Str.tooLong
    rw [sizeLine_eq]
    refine decide_eq_false ?_
    have h5 : (l.map (·.1)).length * 1200 ≤ 1000 * 1200 := Nat.mul_le_mul_right _ hn
    omega
  have hfit := joinFit_length hok
  refine call_meets F.slot_str_join (typeIs_str _ _ _) F.entry_str_join (F.args_str_join_2 _ _) (meets_str_join_list sep t D l hok) ⟨hl, ?_⟩
  match l, h3, h, hfit with
  | [p], h3, h, _ =>
    have hp := h3 p (.head _)
    have e : Txt.join sep (List.map (·.1) [p]) = p.1 := by
      show Builtin.Str.glued sep [p.1] = p.1
      rw [StrLaws.glued_eq_join]
      rfl
    rw [e] at h
    exact h p.2 s.toks ⟨hp.1, Nat.lt_of_lt_of_le hp.2 hle⟩ (Nat.le_refl _)
  | [], _, h, hfit => exact ⟨hfit, h s.toks (s.toks + 1) ⟨htk, Nat.lt_succ_self _⟩ (Nat.le_succ _)⟩
  | p :: q :: r, _, h, hfit => exact ⟨hfit, h s.toks (s.toks + 1) ⟨htk, Nat.lt_succ_self _⟩ (Nat.le_succ _)⟩
end
open PyProof.Rows.LCg in
/-- the end of a comprehension's element -/
noncomputable def CompStep (h₀ : Heap) (L : Addr) (m : Str → Option Value) (I : Addr) (oI : Obj) (C : Addr) (oC : Obj) (D : Addr) (ys : List Value) (K : Nat → List Value → List (Addr × Obj) → Prop) (s : Shared) (y : Value) (s' : Shared) : Prop :=
  ∃ h' tk' nx', s' = { s with heap := h', toks := tk' } ∧ Fr h₀ L h' m ∧ News h₀ L h' ((I, oI) :: (C, oC) :: (D, lst ys) :: nx') ∧ Off3 I C D nx' ∧ K tk' (ys ++ [y]) nx'
open PyProof.Rows.LCg in
/-- where a comprehension stands -/
noncomputable abbrev CompJ (h₀ : Heap) (L : Addr) (m : Str → Option Value) (I C D l : Addr) (vs : List Value) (K : Nat → Nat → List Value → List (Addr × Obj) → Prop) (s : Shared) (k : Nat) (s' : Shared) : Prop :=
  ∃ h' tk i ys m' nx, s' = { s with heap := h', toks := tk } ∧ i ≤ vs.length ∧ k = vs.length + 1 - i ∧ ys.length = i ∧ h'.IsListIter I l i ∧ Fr h₀ L h' m ∧ h'.Ns C m' ∧ News h₀ L h' ((D, lst ys) :: nx) ∧ Off3 I C D nx ∧ K i tk ys nx ∧ s.toks ≤ tk
open PyProof.Rows.LCg in
/-- a comprehension over a list of the ledger's, by a word of what is made so far (the count of tokens too) -/
theorem comp_tk {prog : Program} {w : World} {A : Around} {E : Value → Shared → Prop} {s : Shared} {env : Env} {h₀ : Heap} {L : Addr} {m : Str → Option Value} {Q : Value → Shared → Prop}
    {elt iter : Expr} {x : Str} {px : Pos} {scope : Scope} {pos : Pos} {l : Addr} {vs : List Value} {news : List (Addr × Obj)} (K : Nat → Nat → List Value → List (Addr × Obj) → Prop)
    (hh : A.handled = none) (hclos : closureFor scope env = pure []) (hcell : ∀ y ∈ scope.names, y.2 ≠ .cell) (hkind : scope.kind = .function)
    (hnames : ∀ y ∈ scope.names, y.2 = .local → scope.names.lookup y.1 = some .local) (hx : scope.names.lookup x = some .local) (hs : ∀ x, foldedSetIterable iter env x = pure x)
    (hiter : ∀ Q' : Value → Shared → Prop, Q' (.ref l) s → wpAny (model prog w) A (eval iter env) Q' E s) (hl : s.heap.IsList l vs.toArray) (hsz : vs.length ≤ 1000)
    (hst : ∀ i tk ys nx h, K i tk ys nx → Fr h₀ L h m → News h₀ L h nx → h.IsList l vs.toArray) (mono : ∀ i tk tk' ys nx, tk ≤ tk' → K i tk ys nx → K i tk' ys nx)
    (F : Fr h₀ L s.heap m) (N : News h₀ L s.heap news) (hk : K 0 s.toks [] news)
    (turn : ∀ i v tk ys nx h I oI C oC D m₂, vs[i]? = some v → K i tk ys nx → NsObj oC m₂ → m₂ x = some v → Fr h₀ L h m → News h₀ L h ((I, oI) :: (C, oC) :: (D, lst ys) :: nx) → Off3 I C D nx → ((@Ne Nat I C) ∧ (@Ne Nat I D) ∧ (@Ne Nat C D)) → s.toks ≤ tk →
      wpAny (model prog w) A (eval elt (compEnvC scope [] C env)) (CompStep h₀ L m I oI C oC D ys (K (i + 1)) s) (fun _ _ => False) { s with heap := h, toks := tk })
    (done : ∀ tk ys nx h D, K vs.length tk ys nx → Fr h₀ L h m → News h₀ L h ((D, lst ys) :: nx) → Off1 D nx → s.toks ≤ tk → Q (.ref D) { s with heap := h, toks := tk }) :
    wpAny (model prog w) A (eval (.ListComp elt [⟨.Name x px, iter, [], 0⟩] scope pos) env) Q E s := by
  rw [eval_ListComp]
  refine wpAny_comprehension_free (use := none) rfl hs hclos hkind hnames (hiter _ (wpAny_pyIter_list hl (wpAny_newObj_type (wpAny_newFunctionEnv hcell (by intro y hy; simp at hy) (fun h₁ hns₁ hsb₁ => ?_) hkind))))
  dsimp only at hns₁ hsb₁ ⊢
  have szD : (s.heap.push { cls := .type "list_iterator", data := .fields #[.ref l, .int 0 0] }).objs.size = s.heap.objs.size + 1 := Heap.size_push _ _
  generalize hH1 : s.heap.push { cls := .type "list_iterator", data := .fields #[.ref l, .int 0 0] } = H1 at hns₁ hsb₁ szD ⊢
  have szC : (H1.push { cls := .type "list", dict := none, data := .seq ([] : List Value).toArray }).objs.size = s.heap.objs.size + 2 := by rw [Heap.size_push, szD]
  generalize hH2 : H1.push { cls := .type "list", dict := none, data := .seq ([] : List Value).toArray } = H2 at hns₁ hsb₁ szC ⊢
  have o1 : ∀ b o, s.heap.get? b = some o → H1.get? b = some o := fun b o e => hH1 ▸ Heap.get?_push_of_some _ e
  have o2 : ∀ b o, H1.get? b = some o → H2.get? b = some o := fun b o e => hH2 ▸ Heap.get?_push_of_some _ e
  have o3 : ∀ b o, H2.get? b = some o → h₁.get? b = some o := fun b o e => hsb₁.extBut b o (Nat.ne_of_lt (Heap.lt_size e)) (Heap.get?_push_of_some _ e)
  have old : ∀ b o, s.heap.get? b = some o → h₁.get? b = some o := fun b o e => o3 b o (o2 b o (o1 b o e))
  have gI : h₁.get? s.heap.objs.size = some { cls := .type "list_iterator", data := .fields #[.ref l, .int 0 0] } := o3 _ _ (o2 _ _ (hH1 ▸ Heap.get?_push_size _ rfl))
  have gD : h₁.get? H1.objs.size = some (lst []) := o3 _ _ (hH2 ▸ Heap.get?_push_size _ rfl)
  have ID : s.heap.objs.size < H1.objs.size := by rw [szD]; exact Nat.lt_succ_self _
  have DC : H1.objs.size < H2.objs.size := by rw [szD, szC]; exact Nat.lt_succ_self _
  generalize hC : H2.objs.size = C at *
  generalize hD : H1.objs.size = D at *
  generalize hI : s.heap.objs.size = I at *
  have low : ∀ b o, s.heap.get? b = some o → b < I := fun b o e => hI ▸ Heap.lt_size e
  have fresh : ∀ a, I ≤ a → h₀.get? a = none := fun a ha => by
    cases e : h₀.get? a with
    | none => rfl
    | some o' => exact absurd (low _ _ (F.keep a o' e)) (Nat.not_lt.mpr ha)
  have hLI : L < I := hI ▸ F.ns.lt
  have fI := fresh I (Nat.le_refl _)
  have fD := fresh D (Nat.le_of_lt ID)
  have fC := fresh C (Nat.le_of_lt (Nat.lt_trans ID DC))
  have W := Walks.list (prog := prog) (w := w) hh I l (by obtain ⟨o, ho, _⟩ := hl; exact Nat.ne_of_lt (low _ _ ho)) vs.toArray
  rw [List.size_toArray] at W
  have loop : codeAny (model prog w) A (.compLoop (.ListComp elt [⟨.Name x px, iter, [], 0⟩] scope pos) 0 (.ref I) (.ref D) (compEnvC scope [] C env)) (compPost (model prog w) A E none Q (.ref D) C) { s with heap := h₁, toks := s.toks + ([] : List (Str × Value)).length } := by
    refine codeAny_compLoop_tests
      (CompJ h₀ L m I C D l vs K s) ?_ (vs.length + 1)
      ⟨h₁, _, 0, [], _, news, rfl, Nat.zero_le _, rfl, rfl, ⟨_, gI, rfl, rfl⟩, F.keeps old, hns₁, newsCons ⟨gD, Ne.symm (Nat.ne_of_lt (Nat.lt_trans hLI ID)), fD⟩ (fun p hp => ⟨old _ _ (N p hp).1, (N p hp).2⟩), Off3.of fun p hp => ?_, mono _ _ _ _ _ (Nat.le_add_right _ _) hk, Nat.le_add_right _ _⟩
    · rintro k s' ⟨h', tk, i, ys, m', nx, rfl, hi, rfl, hyl, hit, F', hn', N', off', K', hle⟩
      have N'' : News h₀ L h' nx := fun p hp => N' p (.tail _ hp)
      have hlist := hst i tk ys nx h' K' F' N''
      have offm := off'.mem
      by_cases hlt : i < vs.length
      · refine wpAny_toks (W.item i _ _ _ hlt ⟨hit, hlist⟩ fun v h₂ tk₂ hP hst₂ hk₂ hle₂ => ?_)
        have hle₂' : tk ≤ tk₂ := hle₂
        have nI : ∀ b, b ≠ I → b ∉ [I] := fun b hb q => hb (List.mem_singleton.mp q)
        have F₂ : Fr h₀ L h₂ m := fr_but F' hk₂ (Nat.ne_of_lt hLI) fI
        have N₂ : News h₀ L h₂ ((D, lst ys) :: nx) := news_but N' hk₂ fun p hp => by
          rcases List.mem_cons.mp hp with rfl | hp
          · exact Ne.symm (Nat.ne_of_lt ID)
          · exact (offm p hp).1
        refine wpAny_assign_Name (wpAny_storeName_local (lookup_relabel_local hx) (hn'.at' fun o e => hk₂ _ o (nI C (Ne.symm (Nat.ne_of_lt (Nat.lt_trans ID DC)))) e) (fun h₃ hn₃ hs₃ => ?_) (by simp [compEnvC, relabel, hkind]))
        refine wpAny_tests_nil ?_
        simp only [if_true]
        obtain ⟨oI, heI, hIc, hId⟩ := hst₂.1
        obtain ⟨oC, heC, hoC⟩ := ns_obj hn₃
        have hs₃' : Heap.SameBut C h₂ h₃ := hs₃
        have F₃ : Fr h₀ L h₃ m := F₂.change hs₃' (Ne.symm (Nat.ne_of_lt (Nat.lt_trans hLI (Nat.lt_trans ID DC)))) fC
        have N₃ : News h₀ L h₃ ((I, oI) :: (C, oC) :: (D, lst ys) :: nx) := by
          refine newsCons ⟨(hs₃'.2 I (Nat.ne_of_lt (Nat.lt_trans ID DC))).trans heI, Ne.symm (Nat.ne_of_lt hLI), fI⟩ (newsCons ⟨heC, Ne.symm (Nat.ne_of_lt (Nat.lt_trans hLI (Nat.lt_trans ID DC))), fC⟩ fun p hp => ?_)
          refine ⟨(hs₃'.2 p.1 ?_).trans (N₂ p hp).1, (N₂ p hp).2⟩
          rcases List.mem_cons.mp hp with rfl | hp
          · exact Nat.ne_of_lt DC
          · exact (offm p hp).2.1
        refine wpAny_noE (wpAny_toks (wpAny_mono (turn i v (tk₂ + 1) ys nx h₃ I oI C oC D _ (by simpa using hP) (mono _ _ _ _ _ (by omega) K') hoC (by simp) F₃ N₃ off' ⟨Nat.ne_of_lt (Nat.lt_trans ID DC), Nat.ne_of_lt ID, Ne.symm (Nat.ne_of_lt DC)⟩ (by omega)) (fun y s₄ h₄ hle₄ => ?_) fun _ _ e => e))
        obtain ⟨h₄, tk₄, nx₄, rfl, F₄, N₄, off₄, K₄⟩ := h₄
        have hle₄' : tk₂ + 1 ≤ tk₄ := hle₄
        have zI := (N₄ (I, oI) (.head _)).1
        have zC := (N₄ (C, oC) (.tail _ (.head _))).1
        have zD := (N₄ (D, lst ys) (.tail _ (.tail _ (.head _)))).1
        have off4 := off₄.mem
        refine append_at (hsz := by rw [List.size_toArray, sizeLine_eq]; omega) zD fun h₅ hs₅ hD₅ => ?_
        refine ⟨vs.length + 1 - (i + 1), by omega, h₅, tk₄, i + 1, ys ++ [y], _, nx₄, rfl, hlt, rfl, by rw [List.length_append, List.length_singleton, hyl], ⟨oI, (hs₅.2 I (Nat.ne_of_lt ID)).trans zI, hIc, hId⟩, F₄.change hs₅ (Ne.symm (Nat.ne_of_lt (Nat.lt_trans hLI ID))) fD,
          (hoC.ns zC).sameBut hs₅ (Ne.symm (Nat.ne_of_lt DC)), newsCons ⟨hD₅.trans (congrArg some (lst_snoc ys y)), Ne.symm (Nat.ne_of_lt (Nat.lt_trans hLI ID)), fD⟩ (fun p hp => ?_), off₄, K₄, by omega⟩
        have z := N₄ p (.tail _ (.tail _ (.tail _ hp)))
        exact ⟨(hs₅.2 p.1 (off4 p hp).2.2).trans z.1, z.2⟩
      · obtain rfl : i = vs.length := Nat.le_antisymm hi (Nat.not_lt.mp hlt)
        refine wpAny_toks (W.done _ _ _ ⟨hit, hlist⟩ fun h₂ tk₂ hk₂ hle₂ => ?_)
        have hle₂' : tk ≤ tk₂ := hle₂
        have F₂ : Fr h₀ L h₂ m := fr_but F' hk₂ (Nat.ne_of_lt hLI) fI
        have N₂ : News h₀ L h₂ ((D, lst ys) :: nx) := news_but N' hk₂ fun p hp => by
          rcases List.mem_cons.mp hp with rfl | hp
          · exact Ne.symm (Nat.ne_of_lt ID)
          · exact (offm p hp).1
        refine ⟨m', hn'.at' fun o e => hk₂ _ o (fun q => Nat.ne_of_lt (Nat.lt_trans ID DC) (List.mem_singleton.mp q).symm) e, fun h₃ hs₃ => ?_⟩
        refine done tk₂ ys nx h₃ D (mono _ _ _ _ _ hle₂' K') (F₂.change hs₃ (Ne.symm (Nat.ne_of_lt (Nat.lt_trans hLI (Nat.lt_trans ID DC)))) fC) (fun p hp => ⟨(hs₃.2 p.1 ?_).trans (N₂ p hp).1, (N₂ p hp).2⟩) off'.one (by omega)
        rcases List.mem_cons.mp hp with rfl | hp
        · exact Nat.ne_of_lt DC
        · exact (offm p hp).2.1
    · have := low _ _ (N p hp).1
      exact ⟨Nat.ne_of_lt this, Nat.ne_of_lt (Nat.lt_trans this (Nat.lt_trans ID DC)), Nat.ne_of_lt (Nat.lt_trans this ID)⟩
  exact codeAny_compStart_list loop (W.self 0 _ _ _ ⟨⟨_, gI, rfl, rfl⟩, hl.at fun o e => old _ _ e⟩ loop)
theorem fill : (fun (_ : OpenLaw) (_ : Params → Frag) => True) PySem.Challenge.rw_ki0091_01 hd.heap_39 := by
  k_fill
  w_top off
  trivial
section
local macro_rules | `(tactic| walk_at "m sz") => `(tactic| first | decide | omega | (simp only [Str.length_append]; omega) | fail "sz")
local macro_rules | `(tactic| walk_at "m size") => `(tactic| first | (simp only [List.size_toArray, Array.size_push, List.length_append, List.length_cons, List.length_nil]; omega) | fail "size")
local macro_rules | `(tactic| walk_at "m le") => `(tactic| first | (with_reducible first | exact Nat.le_refl _ | exact Nat.lt_succ_self _ | assumption | (refine Nat.le_add_right_of_le ?_; walk_at "m le") | (refine Nat.lt_add_right _ ?_; walk_at "m le") | (refine Nat.le_trans ?_ (by assumption); walk_at "m le") | (refine Nat.lt_of_lt_of_le ?_ (by assumption); walk_at "m le")) | omega)
local macro_rules | `(tactic| walk_at "m tok") => `(tactic| (refine And.intro ?ta ?tb <;> ((try dsimp only); walk_at "m le")))
local macro_rules | `(tactic| walk_at "m room") => `(tactic| first | exact room (by with_reducible assumption) (by decide) | omega)
local macro_rules | `(tactic| walk_at "subscriptTail Name UnaryOp ref int") => `(tactic| ((with_unfolding_all refine' last_item ?k1 ?_ ?k6; (case k1 => is_list); (case k6 => with_unfolding_all rfl))))
local macro_rules | `(tactic| walk_at "call builtin:len") => `(tactic| (k_dflt (refine' len_snoc ?k1 ?k2 ?k3 ?_; (case k1 => k_asm); (case k2 => k_mem); (case k3 => omega))))
local macro_rules | `(tactic| walk_at "binaryOp Mult str int") => `(tactic| (first
  | ((refine' mul_step ?k1 ?k2 ?k3 ?_; (case k1 => exact Int.add_sub_cancel _ _); (case k2 => omega); (case k3 => omega)); intro t' tk' mulLen mulTk; (try dsimp only at mulTk))
  | ((refine' mul_small ?k1 ?k2 ?k3 ?_; (case k1 => omega); (case k2 => omega); (case k3 => walk_at "m sz")); intro t' tk' mulLen mulTk; (try dsimp only at mulTk))))
local macro_rules | `(tactic| walk_at "binaryOp Add str str") => `(tactic| (first
  | ((refine' add_tokR ?k0 ?k2 ?k1 ?_; (case k0 => walk_at "m sz"); (case k2 => walk_at "m tok"); (case k1 => walk_at "m sz")); intro t' tk' addLen addTk ⟨addT1, addT2⟩; (try dsimp only at addTk addT1 addT2))
  | ((refine' add_tokL ?k0 ?k2 ?k1 ?_; (case k0 => walk_at "m sz"); (case k2 => ((try dsimp only); walk_at "m le")); (case k1 => walk_at "m sz")); intro t' tk' addLen addTk ⟨addT1, addT2⟩; (try dsimp only at addTk addT1 addT2))
  | ((refine' add_strs ?k1 ?_; (case k1 => walk_at "m sz")); intro t' tk' addLen addTk; (try dsimp only at addTk))))
local macro_rules | `(tactic| walk_at "call builtin:list.extend") => `(tactic| (k_dflt (first
  | (refine' ext0 ?F ?N ?b ?U ?z ?_; (case F => k_asm); (case N => k_asm); (case b => k_mem); (case U => k_upd); (case z => walk_at "m size"))
  | (refine' ext2 ?F ?N ?b ?U ?z ?_; (case F => k_asm); (case N => k_asm); (case b => k_mem); (case U => k_upd); (case z => walk_at "m size"))); intro h' F' N'; (try dsimp only at N'); (try k_sweep)))
local macro_rules | `(tactic| walk_at "m enter") => `(tactic| (k_dflt (refine' code_defG ?k1 ?k2 ?k3 ?k4 ?k5 ?kA ?kF ?kK ?k6 ?k7 ?k8 ?k9 ?kB ?_ ?c2 ?c3 ?c4 ?c5; (case kA => exact rfl); (case kF => exact rfl); (case kK => assumption); (case k1 => k_asm); (case k2 => k_asm); (case k3 => k_asm); (case k4 => k_asm); (case k5 => k_asm); (case k6 => k_is); (case k7 => k_is); (case k8 => first | exact room (by with_reducible assumption) (by decide) | ktr_room); (case k9 => exact BindsTo.of_eq rfl); (case c5 => decide); (case kB => exact locs rfl); (case c2 => exact rfl); (case c3 => exact rfl); (case c4 => exact rfl))))
local macro_rules | `(tactic| walk_at "m gsub") => `(tactic| first | exact List.forall_mem_nil _ | ((refine List.forall_mem_cons.mpr ⟨?ga, ?gb⟩); (case ga => first | (intro hn; exact absurd (by k_mem) hn) | (intro _; k_mem)); (case gb => walk_at "m gsub")))
local macro_rules | `(tactic| walk_at "m sub") => `(tactic| first | exact List.forall_mem_nil _ | ((refine List.forall_mem_cons.mpr ⟨?ga, ?gb⟩); (case ga => k_mem); (case gb => walk_at "m sub")))
local macro_rules | `(tactic| walk_at "call builtin:list.pop") => `(tactic| ((show wpAny _ _ (call (Value.builtin _) [Value.ref _]) _ _ _); k_dflt (refine' pop_snoc ?F ?N ?U ?z ?_; (case F => k_asm); (case N => k_asm); (case U => k_upd); (case z => omega)); (intro h' F' N'; (try dsimp only at N'); (try k_sweep))))
local macro_rules | `(tactic| walk_at "truthy ref") => `(tactic| (k_dflt (refine' truthy_cons ?k1 ?k2 ?k3 ?_; (case k1 => k_asm); (case k2 => k_mem); (case k3 => omega))))
local macro_rules | `(tactic| walk_at "execs cons") => `(tactic| (first | ((with_reducible show wpAny _ _ _ _ _ (Shared.mk _ _ _ (Shared.toks _) _)); refine gentoksP ?_) | (refine gentoks ?_; intro tk htk; (try dsimp only at htk))))
local macro_rules | `(tactic| walk_at "execs nil") => `(tactic| walk_at "execs cons")
local macro_rules | `(tactic| walk_at "subscriptTail Name BinOp ref int") => `(tactic| ((with_unfolding_all refine' pick_str ?k1 ?k2 ?k3 ?k4 ?k5 ?k7 ?k8 ?_ ?k6; (case k1 => k_asm); (case k2 => k_mem); (case k3 => repeat (first | exact StrVals.nil | apply StrVals.cons)); (case k4 => exact fmod_lo _ (by decide)); (case k5 => exact Int.lt_of_lt_of_le (fmod_hi _ (by decide)) (by simp only [List.length_cons, List.length_nil]; decide)); (case k7 => (simp only [List.length_cons, List.length_nil]; decide)); (case k8 => (repeat (first | exact List.forall_mem_nil _ | refine List.forall_mem_cons.mpr ⟨by dsimp only; decide, ?_⟩))); (case k6 => with_unfolding_all rfl)); intro x t hx hxl))
local macro_rules | `(tactic| walk_at "call builtin:list.append") => `(tactic| (k_dflt (refine' append_K ?k1 ?k2 ?k3 ?_ ?z; (case k1 => k_asm); (case k2 => k_asm); (case k3 => k_upd); (case z => (rw [sizeLine_eq]; walk_at "m size"))); intro h' F' N'; (try k_sweep)))
local macro_rules | `(tactic| walk_at "m ne") => `(tactic| first | exact Off.ne (by assumption) | exact Off.ne' (by assumption) | omega)
local macro_rules | `(tactic| k_ne) => `(tactic| (refine neN ?_; (try dsimp only); walk_at "m ne"))
local macro_rules | `(tactic| walk_at "m notin") => `(tactic| first | exact notin_nil | ((refine notin_cons ?na ?nb); (case na => walk_at "m ne"); (case nb => walk_at "m notin")))
theorem put_spec {w : World} {dp un : Nat} {gd : Option (List Code)} {cn : Str} {cs : Scope} {a : Addr} {ccd : Value} {cl : List (Str × Addr)} {outer : List Env} {A₀ : Around} {base h₀ : Heap} {L : Addr} {m : Str → Option Value}
    {s : Shared} {Q E : Value → Shared → Prop} {mean : ExcName → Option Value} {mg mb : Str → Option Value}
    {P T O R b Ls : Addr} {step l0 : Str} {tS t0 nP nO nR nb nL : Nat} {os rs its : List Value} {said : Value}
    (B : Below A₀ base outer h₀) (F : Fr h₀ L s.heap m) (X : (hd.heap_39 w.params).In h₀)
    (N : News h₀ L s.heap [(P, tupOf [Value.ref T, Value.ref O, Value.ref R, Value.str step tS].toArray nP), (O, listOf (os ++ [Value.ref b]).toArray nO), (R, listOf rs.toArray nR), (b, listOf its.toArray nb), (Ls, listOf [Value.str l0 t0].toArray nL)])
    (Tp : Top hd.view_39 (looseW hd.view_39 []) mean mg mb h₀) (hk : cs.kind = .function)
    (hne : @Ne Nat b P ∧ @Ne Nat b O ∧ @Ne Nat b R ∧ @Ne Nat b Ls ∧ @Ne Nat R P ∧ @Ne Nat R O ∧ @Ne Nat R Ls) (hits : its.length < 10000) (hrs : rs.length < 10000) (hos : os.length < 100) (hst : step.length < 10) (hl0 : l0.length < 1000) (hl1 : 0 < l0.length) (ht0 : 1 ≤ t0 ∧ t0 < s.toks)
    (hd : dp + 1 < recursionLimit) (hu : un + 8 < cLine)
    (hret : ∀ (h' : Heap) (tk' tR nR' nb' : Nat), Fr h₀ L h' m → h'.get? b = some (listOf (its ++ [said]).toArray nb') → h'.get? R = some (listOf (rs ++ [Value.str (Txt.mul step os.length ++ l0) tR]).toArray nR') → GSub s.heap h' [b, R] → s.toks ≤ tk' → 1 ≤ tR ∧ tR < tk' → Q .none { s with heap := h', toks := tk' }) :
    wpAny (model prg w) (ktrTop dp un gd cn cs L a ccd cl outer) (call (.ref 35) [.ref P, said, .ref Ls]) Q E s := by
  have hmul : step.length * os.length ≤ 1000 := Nat.le_trans (Nat.mul_le_mul (Nat.le_of_lt hst) (Nat.le_of_lt hos)) (by decide)
  obtain ⟨q1, q2, q3, q4, q5, q6, q7⟩ := hne
  replace q1 : Off b P := q1
  replace q2 : Off b O := q2
  replace q3 : Off b R := q3
  replace q4 : Off b Ls := q4
  replace q5 : Off R P := q5
  replace q6 : Off R O := q6
  replace q7 : Off R Ls := q7
  refine wpAny_call ?_
  walk_at "m enter"
  intro g' L' h1 FG1 F1 N1 B1 X1 T1 G1
  try dsimp only
  refine gentoksA ?_
  intro tk0 htk0
  try k_fold
  k_steps
  rename News h₀ L _ _ => kN
  rename Fr h₀ L _ _ => kF
  simp only [List.push_toArray] at kN
  refine hret _ _ _ _ _ kF (News.get kN (by k_mem)) (News.get kN (by k_mem)) (gsub_end N G1 (by assumption) kN ?_) (by walk_at "m le") (by walk_at "m tok")
  walk_at "m gsub"
theorem put3_spec {w : World} {dp un : Nat} {gd : Option (List Code)} {cn : Str} {cs : Scope} {a : Addr} {ccd : Value} {cl : List (Str × Addr)} {outer : List Env} {A₀ : Around} {base h₀ : Heap} {L : Addr} {m : Str → Option Value}
    {s : Shared} {Q E : Value → Shared → Prop} {mean : ExcName → Option Value} {mg mb : Str → Option Value}
    {P T O R b Ls : Addr} {step l0 l1 l2 : Str} {tS t0 t1 t2 nP nO nR nb nL : Nat} {os rs its : List Value} {said : Value}
    (B : Below A₀ base outer h₀) (F : Fr h₀ L s.heap m) (X : (hd.heap_39 w.params).In h₀)
    (N : News h₀ L s.heap [(P, tupOf [Value.ref T, Value.ref O, Value.ref R, Value.str step tS].toArray nP), (O, listOf (os ++ [Value.ref b]).toArray nO), (R, listOf rs.toArray nR), (b, listOf its.toArray nb), (Ls, listOf [Value.str l0 t0, Value.str l1 t1, Value.str l2 t2].toArray nL)])
    (Tp : Top hd.view_39 (looseW hd.view_39 []) mean mg mb h₀) (hk : cs.kind = .function)
    (hne : @Ne Nat b P ∧ @Ne Nat b O ∧ @Ne Nat b R ∧ @Ne Nat b Ls ∧ @Ne Nat R P ∧ @Ne Nat R O ∧ @Ne Nat R Ls) (hits : its.length < 10000) (hrs : rs.length < 10000) (hos : os.length < 100) (hst : step.length < 10) (hl0 : l0.length < 1000) (hl1 : 0 < l0.length) (ht0 : 1 ≤ t0 ∧ t0 < s.toks)
    (hd : dp + 1 < recursionLimit) (hu : un + 8 < cLine)
    (hret : ∀ (h' : Heap) (tk' tR nR' nb' : Nat), Fr h₀ L h' m → h'.get? b = some (listOf (its ++ [said]).toArray nb') → h'.get? R = some (listOf (rs ++ [Value.str (Txt.mul step os.length ++ l0) tR, Value.str l1 t1, Value.str l2 t2]).toArray nR') → GSub s.heap h' [b, R] → s.toks ≤ tk' → 1 ≤ tR ∧ tR < tk' → Q .none { s with heap := h', toks := tk' }) :
    wpAny (model prg w) (ktrTop dp un gd cn cs L a ccd cl outer) (call (.ref 35) [.ref P, said, .ref Ls]) Q E s := by
  have hmul : step.length * os.length ≤ 1000 := Nat.le_trans (Nat.mul_le_mul (Nat.le_of_lt hst) (Nat.le_of_lt hos)) (by decide)
  obtain ⟨q1, q2, q3, q4, q5, q6, q7⟩ := hne
  replace q1 : Off b P := q1
  replace q2 : Off b O := q2
  replace q3 : Off b R := q3
  replace q4 : Off b Ls := q4
  replace q5 : Off R P := q5
  replace q6 : Off R O := q6
  replace q7 : Off R Ls := q7
  refine wpAny_call ?_
  walk_at "m enter"
  intro g' L' h1 FG1 F1 N1 B1 X1 T1 G1
  try dsimp only
  refine gentoksA ?_
  intro tk0 htk0
  try k_fold
  k_steps
  rename News h₀ L _ _ => kN
  rename Fr h₀ L _ _ => kF
  simp only [List.push_toArray, List.append_assoc, List.cons_append, List.nil_append] at kN
  refine hret _ _ _ _ _ kF (News.get kN (by k_mem)) (News.get kN (by k_mem)) (gsub_end N G1 (by assumption) kN ?_) (by walk_at "m le") (by walk_at "m tok")
  walk_at "m gsub"
theorem close0_spec {w : World} {dp un : Nat} {gd : Option (List Code)} {cn : Str} {cs : Scope} {a : Addr} {ccd : Value} {cl : List (Str × Addr)} {outer : List Env} {A₀ : Around} {base h₀ : Heap} {L : Addr} {m : Str → Option Value}
    {s : Shared} {Q E : Value → Shared → Prop} {mean : ExcName → Option Value} {mg mb : Str → Option Value}
    {P T O R b : Addr} {step : Str} {tS nP nO nR nb : Nat} {os rs : List Value}
    (B : Below A₀ base outer h₀) (F : Fr h₀ L s.heap m) (X : (hd.heap_39 w.params).In h₀)
    (N : News h₀ L s.heap [(P, tupOf [Value.ref T, Value.ref O, Value.ref R, Value.str step tS].toArray nP), (O, listOf (os ++ [Value.ref b]).toArray nO), (R, listOf rs.toArray nR), (b, listOf ([] : List Value).toArray nb)])
    (Tp : Top hd.view_39 (looseW hd.view_39 []) mean mg mb h₀) (hk : cs.kind = .function)
    (hne : @Ne Nat b P ∧ @Ne Nat b O ∧ @Ne Nat b R ∧ @Ne Nat R P ∧ @Ne Nat R O ∧ @Ne Nat O P) (hrs : rs.length < 10000) (hos : os.length < 100) (hst : step.length < 10) (htk : 1 ≤ s.toks)
    (hd : dp + 2 < recursionLimit) (hu : un + 16 < cLine)
    (hret : ∀ (h' : Heap) (tk' tp tR nO' nR' nb' : Nat), Fr h₀ L h' m → h'.get? O = some (listOf os.toArray nO') → h'.get? b = some (listOf [Value.str (Str.ofString "pass") tp].toArray nb') → h'.get? R = some (listOf (rs ++ [Value.str (Txt.mul step os.length ++ Str.ofString "pass") tR]).toArray nR') → GSub s.heap h' [O, b, R] → s.toks ≤ tk' → 1 ≤ tR ∧ tR < tk' → Q .none { s with heap := h', toks := tk' }) :
    wpAny (model prg w) (ktrTop dp un gd cn cs L a ccd cl outer) (call (.ref 42) [.ref P]) Q E s := by
  have hmul : step.length * os.length ≤ 1000 := Nat.le_trans (Nat.mul_le_mul (Nat.le_of_lt hst) (Nat.le_of_lt hos)) (by decide)
  have hpass : (Str.ofString "pass").length = 4 := by decide
  obtain ⟨q1, q2, q3, q4, q5, q6⟩ := hne
  replace q1 : Off b P := q1
  replace q2 : Off b O := q2
  replace q3 : Off b R := q3
  replace q4 : Off R P := q4
  replace q5 : Off R O := q5
  replace q6 : Off O P := q6
  refine wpAny_call ?_
  walk_at "m enter"
  intro g' L' h1 FG1 F1 N1 B1 X1 T1 G1
  try dsimp only
  refine gentoksA ?_
  intro tk0 htk0
  try k_fold
  k_steps
  rename News _ _ _ _ => cN
  rename Fr _ _ _ _ => cF
  k_dflt (refine' put_spec (b := b) (R := R) ?B cF ?X (cb_drop cN ?N) ?T ?hk ?ne ?i ?r ?o ?s ?l ?l1 ?t0 ?d ?u ?_)
  case B => assumption
  case X => assumption
  case N => walk_at "m sub"
  case T => assumption
  case hk => rfl
  case ne => exact ⟨Off.ne q1, Off.ne q2, Off.ne q3, by walk_at "m ne", Off.ne q4, Off.ne q5, by walk_at "m ne"⟩
  case i => decide
  case r => exact hrs
  case o => exact hos
  case s => exact hst
  case l => omega
  case l1 => omega
  case t0 => walk_at "m tok"
  case d => exact room (a := 2) hd (by decide)
  case u => exact room (a := 11) hu (by decide)
  intro h2 tk2 tR nR' nb' F2 hb2 hR2 G2 hle2 htR2
  dsimp only at hle2
  have N2 := newsCons (keepOne cN G2 (a := P) (by k_mem) (by walk_at "m notin")) (newsCons (keepOne cN G2 (a := O) (by k_mem) (by walk_at "m notin")) (newsCons (newOne cN (by k_mem) hR2) (newsCons (newOne cN (by k_mem) hb2) News.nil)))
  clear cN cF hb2 hR2
  dsimp only
  k_steps
  rename News h₀ L _ _ => kN
  rename Fr h₀ L _ _ => kF
  dsimp only [List.nil_append] at kN
  refine hret _ _ _ _ _ _ _ kF (News.get kN (by k_mem)) (News.get kN (by k_mem)) (News.get kN (by k_mem)) (gsub_end N G1 (by assumption) kN ?_) (by walk_at "m le") (by walk_at "m tok")
  walk_at "m gsub"
theorem close1_spec {w : World} {dp un : Nat} {gd : Option (List Code)} {cn : Str} {cs : Scope} {a : Addr} {ccd : Value} {cl : List (Str × Addr)} {outer : List Env} {A₀ : Around} {base h₀ : Heap} {L : Addr} {m : Str → Option Value}
    {s : Shared} {Q E : Value → Shared → Prop} {mean : ExcName → Option Value} {mg mb : Str → Option Value}
    {P T O R b : Addr} {step : Str} {tS nP nO nR nb : Nat} {v0 : Value} {os rs its : List Value}
    (B : Below A₀ base outer h₀) (F : Fr h₀ L s.heap m) (X : (hd.heap_39 w.params).In h₀)
    (N : News h₀ L s.heap [(P, tupOf [Value.ref T, Value.ref O, Value.ref R, Value.str step tS].toArray nP), (O, listOf (os ++ [Value.ref b]).toArray nO), (R, listOf rs.toArray nR), (b, listOf (v0 :: its).toArray nb)])
    (Tp : Top hd.view_39 (looseW hd.view_39 []) mean mg mb h₀) (hk : cs.kind = .function)
    (hne : @Ne Nat b P ∧ @Ne Nat b O ∧ @Ne Nat b R ∧ @Ne Nat R P ∧ @Ne Nat R O ∧ @Ne Nat O P) (hits : its.length < 10000) (hos : os.length < 100) (hst : step.length < 10)
    (hd : dp + 2 < recursionLimit) (hu : un + 16 < cLine)
    (hret : ∀ (h' : Heap) (tk' nO' : Nat), Fr h₀ L h' m → h'.get? O = some (listOf os.toArray nO') → GSub s.heap h' [O] → s.toks ≤ tk' → Q .none { s with heap := h', toks := tk' }) :
    wpAny (model prg w) (ktrTop dp un gd cn cs L a ccd cl outer) (call (.ref 42) [.ref P]) Q E s := by
  obtain ⟨q1, q2, q3, q4, q5, q6⟩ := hne
  replace q1 : Off b P := q1
  replace q2 : Off b O := q2
  replace q3 : Off b R := q3
  replace q4 : Off R P := q4
  replace q5 : Off R O := q5
  replace q6 : Off O P := q6
  refine wpAny_call ?_
  walk_at "m enter"
  intro g' L' h1 FG1 F1 N1 B1 X1 T1 G1
  try dsimp only
  refine gentoksA ?_
  intro tk0 htk0
  try k_fold
  k_steps
  rename News h₀ L _ _ => kN
  rename Fr h₀ L _ _ => kF
  refine hret _ _ _ kF (News.get kN (by k_mem)) (gsub_end N G1 (by assumption) kN ?_) (by walk_at "m le")
  walk_at "m gsub"
theorem new_spec {w : World} {dp un : Nat} {gd : Option (List Code)} {cn : Str} {cs : Scope} {a : Addr} {ccd : Value} {cl : List (Str × Addr)} {outer : List Env} {A₀ : Around} {base h₀ : Heap} {L : Addr} {m : Str → Option Value}
    {s : Shared} {Q E : Value → Shared → Prop} {mean : ExcName → Option Value} {mg mb : Str → Option Value}
    {step : Str} {tS : Nat}
    (B : Below A₀ base outer h₀) (F : Fr h₀ L s.heap m) (X : (hd.heap_39 w.params).In h₀)
    (Tp : Top hd.view_39 (looseW hd.view_39 []) mean mg mb h₀) (hk : cs.kind = .function)
    (hd : dp + 1 < recursionLimit) (hu : un + 8 < cLine)
    (hret : ∀ (h' : Heap) (P T O R : Nat) (tk' nP nT nO nR : Nat), Fr h₀ L h' m →
      News h₀ L h' [(P, tupOf [Value.ref T, Value.ref O, Value.ref R, Value.str step tS].toArray nP), (O, listOf [Value.ref T].toArray nO), (R, listOf ([] : List Value).toArray nR), (T, listOf ([] : List Value).toArray nT)] →
      (s.heap.get? P = none ∧ s.heap.get? O = none ∧ s.heap.get? R = none ∧ s.heap.get? T = none) → (T < O ∧ O < R ∧ R < P) → GSub s.heap h' [] → s.toks ≤ tk' → Q (.ref P) { s with heap := h', toks := tk' }) :
    wpAny (model prg w) (ktrTop dp un gd cn cs L a ccd cl outer) (call (.ref 28) [.str step tS]) Q E s := by
  have N : News h₀ L s.heap [] := News.nil
  refine wpAny_call ?_
  walk_at "m enter"
  intro g' L' h1 FG1 F1 N1 B1 X1 T1 G1
  try dsimp only
  refine gentoksA ?_
  intro tk0 htk0
  try k_fold
  k_steps
  rename News h₀ L _ _ => kN
  rename Fr h₀ L _ _ => kF
  rename News g' L' _ _ => cN
  rename GSub _ _ _ => cG
  refine hret _ _ _ _ _ _ _ _ _ _ kF (cb_drop kN (by walk_at "m sub")) ⟨fresh_of cG cN (by k_mem) notin_nil, fresh_of cG cN (by k_mem) notin_nil, fresh_of cG cN (by k_mem) notin_nil, fresh_of cG cN (by k_mem) notin_nil⟩ (by omega) (gsub_end N cG (by assumption) kN ?_) (by walk_at "m le")
  walk_at "m gsub"
theorem reindent_spec {w : World} {dp un : Nat} {gd : Option (List Code)} {cn : Str} {cs : Scope} {a : Addr} {ccd : Value} {cl : List (Str × Addr)} {outer : List Env} {A₀ : Around} {base h₀ : Heap} {L : Addr} {m : Str → Option Value}
    {s : Shared} {Q E : Value → Shared → Prop} {mean : ExcName → Option Value} {mg mb : Str → Option Value}
    {src : Str} {k : Int} {t u : Nat}
    (B : Below A₀ base outer h₀) (F : Fr h₀ L s.heap m) (X : (hd.heap_39 w.params).In h₀)
    (Tp : Top hd.view_39 (looseW hd.view_39 []) mean mg mb h₀) (hk : cs.kind = .function)
    (hsrc : src.length ≤ 100000) (h0 : -10 < k) (h1 : k < 10) (htk : 1 ≤ s.toks)
    (hd : dp + 1 < recursionLimit) (hu : un + 8 < cLine)
    (hret : ∀ (h' : Heap) (t' tk' : Nat), Fr h₀ L h' m → GSub s.heap h' [] → s.toks ≤ tk' → t' = t ∨ (s.toks ≤ t' ∧ t' < tk') → Q (.str (Txt.replace src (Str.ofString "\n") (Str.ofString "\n" ++ Txt.mul (Str.ofString " ") k)) t') { s with heap := h', toks := tk' }) :
    wpAny (model prg w) (ktrTop dp un gd cn cs L a ccd cl outer) (call (.ref 21) [.str src t, .int k u]) Q E s := by
  have N : News h₀ L s.heap [] := News.nil
  have hnl : (Str.ofString "\n").length = 1 := by decide
  have hsp : (Str.ofString " ").length = 1 := by decide
  have hmul : (Txt.mul (Str.ofString " ") k).length ≤ 10 := by
    have e := len_mul (Str.ofString " ") k
    rw [hsp] at e
    split at e <;> omega
  refine wpAny_call ?_
  walk_at "m enter"
  intro g' L' h1 FG1 F1 N1 B1 X1 T1 G1
  try dsimp only
  refine gentoksA ?_
  intro tk0 htk0
  try k_fold
  k_steps
  (with_reducible show wpAny _ _ (call (Value.builtin "str.replace") [Value.str _ _, Value.str _ _, Value.str _ _]) _ _ _)
  refine replace_tok (by omega) (by omega) (by omega) hsrc (by omega) (noneBooked_of (Frag.In.keeps X1 F1.keep)) ?_
  intro t2 tk2 hle2 ht2
  dsimp only at hle2 ht2
  k_steps
  rename Fr h₀ L _ _ => kF
  rename News h₀ L _ _ => kN
  refine hret _ _ _ kF (gsub_end N G1 F1 kN ?_) (by walk_at "m le") (by omega)
  walk_at "m gsub"
section
local macro_rules | `(tactic| walk_at "exec For Name Name cons nil") => `(tactic| (refine stop ?_))
local macro_rules | `(tactic| walk_at "exec For Name Call cons nil") => `(tactic| (refine stop ?_))
local macro_rules | `(tactic| walk_at "exec While Compare cons nil") => `(tactic| (refine stop ?_))
local macro_rules | `(tactic| walk_at "exec While BoolOp cons nil") => `(tactic| (refine stop ?_))
local macro_rules | `(tactic| walk_at "eval ListComp") => `(tactic| (refine stop ?_))
local macro_rules | `(tactic| walk_at "subscriptTail Name Name ref int") => `(tactic| ((with_unfolding_all refine' pick_two ?k1 ?k2 ?k3 ?_ ?k6; (case k1 => k_asm); (case k2 => k_mem); (case k3 => assumption); (case k6 => with_unfolding_all rfl))))
local macro_rules | `(tactic| k_all) => `(tactic| (refine tailNe ?a ?b ?c; (case a => assumption); (case b => walk_at "m ne"); (case c => assumption)))
local macro_rules | `(tactic| walk_at "call type:str") => `(tactic| ((refine' str_num ?k1 ?k2 ?_; (case k1 => omega); (case k2 => omega)); intro numLen))
local macro_rules | `(tactic| walk_at "m c") => `(tactic| first | (rw [‹Int.fmod _ 8 = _›]; decide) | ((try simp only [beq_iff_eq, decide_eq_true_eq, Bool.and_eq_true, Bool.not_eq_true']); omega))
local macro_rules | `(tactic| walk_at "ite") => `(tactic| first | ((with_reducible refine if_yes ?c ?_); (case c => walk_at "m c")) | ((with_reducible refine if_no ?c ?_); (case c => walk_at "m c")))
local macro_rules | `(tactic| k_mem) => `(tactic| exact List.mem_append.mpr (Or.inr (List.Mem.head _)))
local macro_rules | `(tactic| k_lt $h:ident) => `(tactic| ((have lt0 := $h); replace $h := allLt_of $h; simp only [AllLt, allLt_app, and_true] at $h:ident))
section
local macro_rules | `(tactic| walk_at "execs cons") => `(tactic| ((with_reducible show wpAny _ _ (execs (Stmt.If _ _ _ _ :: _) _) _ _ _); refine stop ?_))
noncomputable def drawIf : List Stmt := drawTurn.drop 2
noncomputable def mPre (pv : Value) (wd : Str) (tw : Nat) (q : Int) (tq : Nat) (ac : Int) (ta2 : Nat) (i : Int) (ti n' : Nat) (n at' : Int) (ta Pr Em Sg : Nat) (u : Str → Option Value) : Str → Option Value := fun z =>
  if z = Str.ofString "program" then some pv else if z = Str.ofString "word" then some (.str wd tw) else if z = Str.ofString "q" then some (.int q tq) else if z = Str.ofString "act" then some (.int ac ta2) else if z = Str.ofString "i" then some (.int i ti) else
  if z = Str.ofString "n" then some (.int n n') else if z = Str.ofString "at" then some (.int at' ta) else if z = Str.ofString "pair" then some (.ref Pr) else if z = Str.ofString "empty" then some (.ref Em) else if z = Str.ofString "signs" then some (.ref Sg) else u z
theorem mPre_of {pv : Value} {wd : Str} {tw : Nat} {q : Int} {tq : Nat} {ac : Int} {ta2 : Nat} {i : Int} {ti n' : Nat} {n at' : Int} {ta Pr Em Sg : Nat} {m : Str → Option Value} (h1 : m (Str.ofString "program") = some pv) (h2 : m (Str.ofString "word") = some (.str wd tw)) (h3 : m (Str.ofString "q") = some (.int q tq)) (h4 : m (Str.ofString "act") = some (.int ac ta2)) (h5 : m (Str.ofString "i") = some (.int i ti))
    (h6 : m (Str.ofString "n") = some (.int n n')) (h7 : m (Str.ofString "at") = some (.int at' ta)) (h8 : m (Str.ofString "pair") = some (.ref Pr)) (h9 : m (Str.ofString "empty") = some (.ref Em)) (h10 : m (Str.ofString "signs") = some (.ref Sg)) : m = mPre pv wd tw q tq ac ta2 i ti n' n at' ta Pr Em Sg m := by
  funext z
  unfold mPre
  (repeat' split) <;> first | rfl | (subst_vars; assumption)
theorem fr_mPre {h₀ h : Heap} {L : Addr} {pv : Value} {wd : Str} {tw : Nat} {q : Int} {tq : Nat} {ac : Int} {ta2 : Nat} {i : Int} {ti n' : Nat} {n at' : Int} {ta Pr Em Sg : Nat} {m : Str → Option Value} (F : Fr h₀ L h m) (h1 : m (Str.ofString "program") = some pv) (h2 : m (Str.ofString "word") = some (.str wd tw)) (h3 : m (Str.ofString "q") = some (.int q tq)) (h4 : m (Str.ofString "act") = some (.int ac ta2)) (h5 : m (Str.ofString "i") = some (.int i ti))
    (h6 : m (Str.ofString "n") = some (.int n n')) (h7 : m (Str.ofString "at") = some (.int at' ta)) (h8 : m (Str.ofString "pair") = some (.ref Pr)) (h9 : m (Str.ofString "empty") = some (.ref Em)) (h10 : m (Str.ofString "signs") = some (.ref Sg)) : Fr h₀ L h (mPre pv wd tw q tq ac ta2 i ti n' n at' ta Pr Em Sg m) := by
  rw [← mPre_of h1 h2 h3 h4 h5 h6 h7 h8 h9 h10]; exact F
theorem turn_pre {w : World} {dp un : Nat} {gd : Option (List Code)} {outer : List Env} {A₀ : Around} {base h₀ : Heap} {L : Addr}
    {s : Shared} {Q : Flow → Shared → Prop} {E : Value → Shared → Prop} {mean : ExcName → Option Value} {mg mb : Str → Option Value}
    {Pr Em Sg nPr : Nat} {x y pv : Value} {LL : List (Addr × Obj)} {at' i n : Int} {ta ti tn : Nat} {u : Str → Option Value}
    (B : Below A₀ base outer h₀) (X : (hd.heap_39 w.params).In h₀) (Tp : Top hd.view_39 (looseW hd.view_39 []) mean mg mb h₀)
    (F : Fr h₀ L s.heap (fun z => if z = Str.ofString "n" then some (.int n tn) else mDraw Pr Em Sg at' i ta ti u z))
    (N : News h₀ L s.heap ((Pr, listOf [x, y].toArray nPr) :: LL)) (hpk : (at' = 0 ∧ pv = x) ∨ (at' = 1 ∧ pv = y)) (hi0 : 0 ≤ i) (hi1 : i < 40) (htk : 1 ≤ s.toks)
    (next : ∀ (h' : Heap) (tk' tw tq ta2 ti' : Nat) (u' : Str → Option Value), Fr h₀ L h' (mPre pv (Str.ofString "x" ++ num (i + 1)) tw (Int.fdiv n 8) tq (Int.fmod n 8) ta2 (i + 1) ti' tn n at' ta Pr Em Sg u') → News h₀ L h' ((Pr, listOf [x, y].toArray nPr) :: LL) → 1 ≤ tw → tw < tk' → s.toks ≤ tk' → 
      wpAny (model prg w) (ktrTop dp un gd (Str.ofString "_law_draw") drawScope L 47 (.ref 46) [] outer) (execs drawIf (drawEnv L)) Q E { s with heap := h', toks := tk' }) :
    wpAny (model prg w) (ktrTop dp un gd (Str.ofString "_law_draw") drawScope L 47 (.ref 46) [] outer) (execs drawTurn (drawEnv L)) Q E s := by
  obtain ⟨sh, sgn, sdr, stk, sos⟩ := s
  dsimp only at F N htk next
  have l1 : (Str.ofString "x").length = 1 := by decide
  conv in (execs _ _) => arg 1; whnf
  unfold mDraw at F
  try k_fold
  k_steps
  refine unstop ?_
  rename News h₀ L _ _ => cN
  rename Fr h₀ L _ _ => cF
  exact next _ _ _ _ _ _ _ (fr_mPre cF rfl rfl rfl rfl rfl rfl rfl rfl rfl rfl) (newsT cN) (by walk_at "m le") (by walk_at "m le") (by walk_at "m le")
end
theorem turn0 {w : World} {dp un : Nat} {gd : Option (List Code)} {outer : List Env} {A₀ : Around} {base h₀ : Heap} {L : Addr}
    {s : Shared} {E : Value → Shared → Prop} {mean : ExcName → Option Value} {mg mb : Str → Option Value}
    {I Pr Em Sg nPr nEm nSg : Nat} {oI : Obj} {x y : Value} {p : PR} {st : PS} {rest : List (Addr × Obj)} {at' i n : Int} {ta ti tn : Nat} {u : Str → Option Value} {tkE tkS : Nat}
    (B : Below A₀ base outer h₀) (X : (hd.heap_39 w.params).In h₀) (Tp : Top hd.view_39 (looseW hd.view_39 []) mean mg mb h₀)
    (F : Fr h₀ L s.heap (fun z => if z = Str.ofString "n" then some (.int n tn) else mDraw Pr Em Sg at' i ta ti u z))
    (N : News h₀ L s.heap ((I, oI) :: (Pr, listOf [x, y].toArray nPr) :: (Em, listOf (emVals tkE).toArray nEm) :: (Sg, listOf (sgVals tkS).toArray nSg) :: (p.objs ++ rest)))
    (hA : Apart ((I, oI) :: (Pr, listOf [x, y].toArray nPr) :: (Em, listOf (emVals tkE).toArray nEm) :: (Sg, listOf (sgVals tkS).toArray nSg) :: (p.objs ++ rest)))
    (hpk : (at' = 0 ∧ Value.ref p.P = x) ∨ (at' = 1 ∧ Value.ref p.P = y)) (his : p.Is st s.toks) (hb : st.Bnd i.toNat) (hi0 : 0 ≤ i) (hi1 : i < 40) (htk : 1 ≤ s.toks) (hE1 : 1 ≤ tkE ∧ tkE + 10 < s.toks)
    (hact : Int.fmod n 8 = 0 ∨ Int.fmod n 8 = 1)
    (hd : dp + 5 < recursionLimit) (hu : un + 50 < cLine) :
    wpAny (model prg w) (ktrTop dp un gd (Str.ofString "_law_draw") drawScope L 47 (.ref 46) [] outer) (execs drawTurn (drawEnv L))
      (SelEnd h₀ L I oI Pr Em Sg nPr nEm nSg x y (emVals tkE) (sgVals tkS) p st rest at' (i + 1) n s) E s := by
  obtain ⟨P, O, R, nP, nO, nR, T, step, tS, ls, b, its, nb, cl, rs⟩ := p
  obtain ⟨sh, sgn, sdr, stk, sos⟩ := s
  obtain ⟨hlev, htop, hrow, hbot, hstp⟩ := his
  dsimp only at hlev htop hrow hbot hstp hpk F N htk hE1
  try dsimp only at hstk
  simp only [PR.objs, PR.head, PR.tree, List.cons_append, List.nil_append, List.append_assoc] at N hA
  have hne := hA
  simp only [apart_cons, apart_mid, List.forall_mem_cons, List.forall_mem_append] at hne
  have tl : ∀ d ∈ [P, O, R, b], (∀ p ∈ levObjs ls b, @Ne Nat p.1 d) ∧ (∀ p ∈ cl ++ rest, @Ne Nat p.1 d) := by
    simp only [List.forall_mem_cons, List.forall_mem_append]
    grind
  have tO1 : ∀ p ∈ levObjs ls b, p.1 ≠ O := (tl O (by simp)).1
  have tO2 : ∀ p ∈ cl ++ rest, p.1 ≠ O := (tl O (by simp)).2
  have tR1 : ∀ p ∈ levObjs ls b, p.1 ≠ R := (tl R (by simp)).1
  have tR2 : ∀ p ∈ cl ++ rest, p.1 ≠ R := (tl R (by simp)).2
  have o1 : (Off I O ∧ Off Pr O ∧ Off Em O ∧ Off Sg O ∧ Off P O ∧ Off R O ∧ Off b O) ∧ (Off I R ∧ Off Pr R ∧ Off Em R ∧ Off Sg R ∧ Off P R ∧ Off b R) ∧ (Off b P ∧ Off b I ∧ Off b Pr ∧ Off b Em ∧ Off b Sg) := by
    simp only [Off]; grind
  obtain ⟨⟨o1, o2, o3, o4, o5, o6, o7⟩, ⟨o8, o9, o10, o11, o12, o13⟩, ⟨o14, o15, o16, o17, o18⟩⟩ := o1
  clear hne
  have hls : (refsOf ls).length < 100 := by have := hb.stk; have := hlev.length; rw [refsOf_length]; omega
  have hrs : rs.length < 10000 := by have := hb.rows; have := hrow.length; omega
  have hits : its.length < 10000 := by have := hb.top; have := htop.length; omega
  have wl : 2 ≤ (Str.ofString "x" ++ num (i + 1)).length ∧ (Str.ofString "x" ++ num (i + 1)).length ≤ 3 := word_len (i := i + 1) (by omega) (by omega)
  refine wpAny_q fun QQ hQQ => ?_
  refine turn_pre (pv := Value.ref P) B X Tp F (newsSwap N) hpk hi0 hi1 htk ?_
  clear F N
  intro h1 tk1 tw tq ta2 ti2 u2 F N hw1 hw2 hle1
  replace N := newsSwap N
  dsimp only at hle1 ⊢
  conv in (execs _ _) => arg 1; whnf
  unfold mPre at F
  try k_fold
  k_steps
  rename News h₀ L _ _ => cN
  rename Fr h₀ L _ _ => cF
  k_dflt (refine' put_spec (b := b) (R := R) B cF X (cb_drop cN ?N) Tp ?hk ?ne ?i ?r ?o ?s ?l ?l1 ?t0 ?d ?u ?_)
  case N => walk_at "m sub"
  case hk => rfl
  case ne => exact ⟨Off.ne o14, Off.ne o7, Off.ne o13, Nat.ne_of_lt ((by assumption : ∀ p ∈ _, p.1 < _) (b, _) (by k_mem)), Off.ne' o12, Off.ne o6, Nat.ne_of_lt ((by assumption : ∀ p ∈ _, p.1 < _) (R, _) (by k_mem))⟩
  case i => exact hits
  case r => exact hrs
  case o => exact hls
  case s => exact hstp
  case l => omega
  case l1 => omega
  case t0 => walk_at "m tok"
  case d => walk_at "m room"
  case u => walk_at "m room"
  intro h2 tk2 tR nR' nb' F2 hb2 hR2 G2 hle2 htR2
  dsimp only at hle2 G2
  have NT := newsTail (newsFrom1 cN) G2 (off2 (tl b (by simp)).1 (tl R (by simp)).1) (off2 (tl b (by simp)).2 (tl R (by simp)).2) hb2
  have N2 := newsCons (keepOne cN G2 (a := I) (by k_mem) (by walk_at "m notin")) (newsCons (keepOne cN G2 (a := Pr) (by k_mem) (by walk_at "m notin")) (newsCons (keepOne cN G2 (a := Em) (by k_mem) (by walk_at "m notin")) (newsCons (keepOne cN G2 (a := Sg) (by k_mem) (by walk_at "m notin"))
    (newsCons (keepOne cN G2 (a := P) (by k_mem) (by walk_at "m notin")) (newsCons (keepOne cN G2 (a := O) (by k_mem) (by walk_at "m notin")) (newsCons (newOne cN (by k_mem) hR2) NT))))))
  clear hb2 hR2 NT cN cF
  k_steps
  have hl : (refsOf ls).length = st.stk.length := by rw [refsOf_length, hlev.length]
  rw [hl] at N2
  subst hQQ
  refine selPut F2 N2 hA hlev htop hrow (by walk_at "m le") hbot hstp (by omega) (.cons htR2 .nil) ?_ ⟨_, _, rfl, rfl, rfl, rfl, rfl⟩
  unfold actPS
  rw [if_neg (by omega), if_neg (by omega), if_neg (by omega), if_neg (by omega), if_neg (by omega)]
  rfl
theorem turn2 {w : World} {dp un : Nat} {gd : Option (List Code)} {outer : List Env} {A₀ : Around} {base h₀ : Heap} {L : Addr}
    {s : Shared} {E : Value → Shared → Prop} {mean : ExcName → Option Value} {mg mb : Str → Option Value}
    {I Pr Em Sg nPr nEm nSg : Nat} {oI : Obj} {x y : Value} {p : PR} {st : PS} {rest : List (Addr × Obj)} {at' i n : Int} {ta ti tn : Nat} {u : Str → Option Value} {tkE tkS : Nat}
    (B : Below A₀ base outer h₀) (X : (hd.heap_39 w.params).In h₀) (Tp : Top hd.view_39 (looseW hd.view_39 []) mean mg mb h₀)
    (F : Fr h₀ L s.heap (fun z => if z = Str.ofString "n" then some (.int n tn) else mDraw Pr Em Sg at' i ta ti u z))
    (N : News h₀ L s.heap ((I, oI) :: (Pr, listOf [x, y].toArray nPr) :: (Em, listOf (emVals tkE).toArray nEm) :: (Sg, listOf (sgVals tkS).toArray nSg) :: (p.objs ++ rest)))
    (hA : Apart ((I, oI) :: (Pr, listOf [x, y].toArray nPr) :: (Em, listOf (emVals tkE).toArray nEm) :: (Sg, listOf (sgVals tkS).toArray nSg) :: (p.objs ++ rest)))
    (hpk : (at' = 0 ∧ Value.ref p.P = x) ∨ (at' = 1 ∧ Value.ref p.P = y)) (his : p.Is st s.toks) (hb : st.Bnd i.toNat) (hi0 : 0 ≤ i) (hi1 : i < 40) (htk : 1 ≤ s.toks) (hE1 : 1 ≤ tkE ∧ tkE + 10 < s.toks)
    (hact : Int.fmod n 8 = 2)
    (hd : dp + 5 < recursionLimit) (hu : un + 50 < cLine) :
    wpAny (model prg w) (ktrTop dp un gd (Str.ofString "_law_draw") drawScope L 47 (.ref 46) [] outer) (execs drawTurn (drawEnv L))
      (SelEnd h₀ L I oI Pr Em Sg nPr nEm nSg x y (emVals tkE) (sgVals tkS) p st rest at' (i + 1) n s) E s := by
  obtain ⟨P, O, R, nP, nO, nR, T, step, tS, ls, b, its, nb, cl, rs⟩ := p
  obtain ⟨sh, sgn, sdr, stk, sos⟩ := s
  obtain ⟨hlev, htop, hrow, hbot, hstp⟩ := his
  dsimp only at hlev htop hrow hbot hstp hpk F N htk hE1
  try dsimp only at hstk
  simp only [PR.objs, PR.head, PR.tree, List.cons_append, List.nil_append, List.append_assoc] at N hA
  have hne := hA
  simp only [apart_cons, apart_mid, List.forall_mem_cons, List.forall_mem_append] at hne
  have tl : ∀ d ∈ [P, O, R, b], (∀ p ∈ levObjs ls b, @Ne Nat p.1 d) ∧ (∀ p ∈ cl ++ rest, @Ne Nat p.1 d) := by
    simp only [List.forall_mem_cons, List.forall_mem_append]
    grind
  have tO1 : ∀ p ∈ levObjs ls b, p.1 ≠ O := (tl O (by simp)).1
  have tO2 : ∀ p ∈ cl ++ rest, p.1 ≠ O := (tl O (by simp)).2
  have tR1 : ∀ p ∈ levObjs ls b, p.1 ≠ R := (tl R (by simp)).1
  have tR2 : ∀ p ∈ cl ++ rest, p.1 ≠ R := (tl R (by simp)).2
  have o1 : (Off I O ∧ Off Pr O ∧ Off Em O ∧ Off Sg O ∧ Off P O ∧ Off R O ∧ Off b O) ∧ (Off I R ∧ Off Pr R ∧ Off Em R ∧ Off Sg R ∧ Off P R ∧ Off b R) ∧ (Off b P ∧ Off b I ∧ Off b Pr ∧ Off b Em ∧ Off b Sg) := by
    simp only [Off]; grind
  obtain ⟨⟨o1, o2, o3, o4, o5, o6, o7⟩, ⟨o8, o9, o10, o11, o12, o13⟩, ⟨o14, o15, o16, o17, o18⟩⟩ := o1
  clear hne
  have hls : (refsOf ls).length < 100 := by have := hb.stk; have := hlev.length; rw [refsOf_length]; omega
  have hrs : rs.length < 10000 := by have := hb.rows; have := hrow.length; omega
  have hits : its.length < 10000 := by have := hb.top; have := htop.length; omega
  have wl : 2 ≤ (Str.ofString "x" ++ num (i + 1)).length ∧ (Str.ofString "x" ++ num (i + 1)).length ≤ 3 := word_len (i := i + 1) (by omega) (by omega)
  refine wpAny_q fun QQ hQQ => ?_
  refine turn_pre (pv := Value.ref P) B X Tp F (newsSwap N) hpk hi0 hi1 htk ?_
  clear F N
  intro h1 tk1 tw tq ta2 ti2 u2 F N hw1 hw2 hle1
  replace N := newsSwap N
  dsimp only at hle1 ⊢
  have l2 : (Str.ofString "if ").length = 3 := by decide
  have l3 : (Str.ofString ":").length = 1 := by decide
  conv in (execs _ _) => arg 1; whnf
  unfold mPre at F
  try k_fold
  k_steps
  rename News h₀ L _ _ => cN
  rename Fr h₀ L _ _ => cF
  k_dflt (refine' put_spec (b := b) (R := R) B cF X (cb_drop cN ?N) Tp ?hk ?ne ?i ?r ?o ?s ?l ?l1 ?t0 ?d ?u ?_)
  case N => walk_at "m sub"
  case hk => rfl
  case ne => exact ⟨Off.ne o14, Off.ne o7, Off.ne o13, Nat.ne_of_lt ((by assumption : ∀ p ∈ _, p.1 < _) (b, _) (by k_mem)), Off.ne' o12, Off.ne o6, Nat.ne_of_lt ((by assumption : ∀ p ∈ _, p.1 < _) (R, _) (by k_mem))⟩
  case i => exact hits
  case r => exact hrs
  case o => exact hls
  case s => exact hstp
  case l => omega
  case l1 => omega
  case t0 => walk_at "m tok"
  case d => walk_at "m room"
  case u => walk_at "m room"
  intro h2 tk2 tR nR' nb' F2 hb2 hR2 G2 hle2 htR2
  dsimp only at hle2 G2
  have NT := newsTail (newsFrom1 (newsT (newsT cN))) G2 (off2 (tl b (by simp)).1 (tl R (by simp)).1) (off2 (tl b (by simp)).2 (tl R (by simp)).2) hb2
  have N2 := newsCons (keepOne cN G2 (.tail _ (.head _)) (by walk_at "m notin")) (newsCons (keepOne cN G2 (.tail _ (.tail _ (.head _))) (by walk_at "m notin")) (newsCons (keepOne cN G2 (a := I) (by k_mem) (by walk_at "m notin")) (newsCons (keepOne cN G2 (a := Pr) (by k_mem) (by walk_at "m notin")) (newsCons (keepOne cN G2 (a := Em) (by k_mem) (by walk_at "m notin")) (newsCons (keepOne cN G2 (a := Sg) (by k_mem) (by walk_at "m notin"))
    (newsCons (keepOne cN G2 (a := P) (by k_mem) (by walk_at "m notin")) (newsCons (keepOne cN G2 (a := O) (by k_mem) (by walk_at "m notin")) (newsCons (newOne cN (by k_mem) hR2) NT))))))))
  clear hb2 hR2 NT cN cF
  dsimp only
  k_steps
  have hl : (refsOf ls).length = st.stk.length := by rw [refsOf_length, hlev.length]
  rename News h₀ L _ _ => eN
  rename Fr h₀ L _ _ => eF
  simp only [List.push_toArray] at eN
  rw [hl] at eN
  subst hQQ
  refine selOpen eF eN hA (by assumption) (by omega) hlev htop hrow (by walk_at "m le") hbot hstp (by rw [hact]; decide) (by omega) ?_ ⟨_, _, rfl, rfl, rfl, rfl, rfl⟩
  unfold actPS
  rw [if_pos hact]
  rfl
theorem turn3 {w : World} {dp un : Nat} {gd : Option (List Code)} {outer : List Env} {A₀ : Around} {base h₀ : Heap} {L : Addr}
    {s : Shared} {E : Value → Shared → Prop} {mean : ExcName → Option Value} {mg mb : Str → Option Value}
    {I Pr Em Sg nPr nEm nSg : Nat} {oI : Obj} {x y : Value} {p : PR} {st : PS} {rest : List (Addr × Obj)} {at' i n : Int} {ta ti tn : Nat} {u : Str → Option Value} {tkE tkS : Nat}
    (B : Below A₀ base outer h₀) (X : (hd.heap_39 w.params).In h₀) (Tp : Top hd.view_39 (looseW hd.view_39 []) mean mg mb h₀)
    (F : Fr h₀ L s.heap (fun z => if z = Str.ofString "n" then some (.int n tn) else mDraw Pr Em Sg at' i ta ti u z))
    (N : News h₀ L s.heap ((I, oI) :: (Pr, listOf [x, y].toArray nPr) :: (Em, listOf (emVals tkE).toArray nEm) :: (Sg, listOf (sgVals tkS).toArray nSg) :: (p.objs ++ rest)))
    (hA : Apart ((I, oI) :: (Pr, listOf [x, y].toArray nPr) :: (Em, listOf (emVals tkE).toArray nEm) :: (Sg, listOf (sgVals tkS).toArray nSg) :: (p.objs ++ rest)))
    (hpk : (at' = 0 ∧ Value.ref p.P = x) ∨ (at' = 1 ∧ Value.ref p.P = y)) (his : p.Is st s.toks) (hb : st.Bnd i.toNat) (hi0 : 0 ≤ i) (hi1 : i < 40) (htk : 1 ≤ s.toks) (hE1 : 1 ≤ tkE ∧ tkE + 10 < s.toks)
    (hact : Int.fmod n 8 = 3) (hstk : 1 ≤ (refsOf p.ls).length)
    (hd : dp + 5 < recursionLimit) (hu : un + 50 < cLine) :
    wpAny (model prg w) (ktrTop dp un gd (Str.ofString "_law_draw") drawScope L 47 (.ref 46) [] outer) (execs drawTurn (drawEnv L))
      (SelEnd h₀ L I oI Pr Em Sg nPr nEm nSg x y (emVals tkE) (sgVals tkS) p st rest at' (i + 1) n s) E s := by
  obtain ⟨P, O, R, nP, nO, nR, T, step, tS, ls, b, its, nb, cl, rs⟩ := p
  obtain ⟨sh, sgn, sdr, stk, sos⟩ := s
  obtain ⟨hlev, htop, hrow, hbot, hstp⟩ := his
  dsimp only at hlev htop hrow hbot hstp hpk F N htk hE1
  try dsimp only at hstk
  simp only [PR.objs, PR.head, PR.tree, List.cons_append, List.nil_append, List.append_assoc] at N hA
  have hne := hA
  simp only [apart_cons, apart_mid, List.forall_mem_cons, List.forall_mem_append] at hne
  have tl : ∀ d ∈ [P, O, R, b], (∀ p ∈ levObjs ls b, @Ne Nat p.1 d) ∧ (∀ p ∈ cl ++ rest, @Ne Nat p.1 d) := by
    simp only [List.forall_mem_cons, List.forall_mem_append]
    grind
  have tO1 : ∀ p ∈ levObjs ls b, p.1 ≠ O := (tl O (by simp)).1
  have tO2 : ∀ p ∈ cl ++ rest, p.1 ≠ O := (tl O (by simp)).2
  have tR1 : ∀ p ∈ levObjs ls b, p.1 ≠ R := (tl R (by simp)).1
  have tR2 : ∀ p ∈ cl ++ rest, p.1 ≠ R := (tl R (by simp)).2
  have o1 : (Off I O ∧ Off Pr O ∧ Off Em O ∧ Off Sg O ∧ Off P O ∧ Off R O ∧ Off b O) ∧ (Off I R ∧ Off Pr R ∧ Off Em R ∧ Off Sg R ∧ Off P R ∧ Off b R) ∧ (Off b P ∧ Off b I ∧ Off b Pr ∧ Off b Em ∧ Off b Sg) := by
    simp only [Off]; grind
  obtain ⟨⟨o1, o2, o3, o4, o5, o6, o7⟩, ⟨o8, o9, o10, o11, o12, o13⟩, ⟨o14, o15, o16, o17, o18⟩⟩ := o1
  clear hne
  have hls : (refsOf ls).length < 100 := by have := hb.stk; have := hlev.length; rw [refsOf_length]; omega
  have hrs : rs.length < 10000 := by have := hb.rows; have := hrow.length; omega
  have hits : its.length < 10000 := by have := hb.top; have := htop.length; omega
  have wl : 2 ≤ (Str.ofString "x" ++ num (i + 1)).length ∧ (Str.ofString "x" ++ num (i + 1)).length ≤ 3 := word_len (i := i + 1) (by omega) (by omega)
  refine wpAny_q fun QQ hQQ => ?_
  refine turn_pre (pv := Value.ref P) B X Tp F (newsSwap N) hpk hi0 hi1 htk ?_
  clear F N
  intro h1 tk1 tw tq ta2 ti2 u2 F N hw1 hw2 hle1
  replace N := newsSwap N
  dsimp only at hle1 ⊢
  conv in (execs _ _) => arg 1; whnf
  unfold mPre at F
  try k_fold
  k_steps
  rename News h₀ L _ _ => cN
  rename Fr h₀ L _ _ => cF
  have hl : (refsOf ls).length = st.stk.length := by rw [refsOf_length, hlev.length]
  have hs0 : st.stk ≠ [] := fun q => by
    have h0 : st.stk.length = 0 := by rw [q]; rfl
    omega
  cases its with
  | nil =>
    k_dflt (refine' close0_spec (b := b) (R := R) (O := O) B cF X (cb_drop cN ?N) Tp ?hk ?ne ?r ?o ?s ?t0 ?d ?u ?_)
    case N => walk_at "m sub"
    case hk => rfl
    case ne => exact ⟨Off.ne o14, Off.ne o7, Off.ne o13, Off.ne' o12, Off.ne o6, Off.ne' o5⟩
    case r => exact hrs
    case o => exact hls
    case s => exact hstp
    case t0 => ((try dsimp only); walk_at "m le")
    case d => walk_at "m room"
    case u => walk_at "m room"
    intro h2 tk2 tp tR nO' nR' nb' F2 hO2 hb2 hR2 G2 hle2 htR2
    dsimp only at hle2 G2
    have NT := newsTail (newsFrom7 cN) G2 (off3 (tl O (by simp)).1 (tl b (by simp)).1 (tl R (by simp)).1) (off3 (tl O (by simp)).2 (tl b (by simp)).2 (tl R (by simp)).2) hb2
    have N2 := newsCons (keepOne cN G2 (a := I) (by k_mem) (by walk_at "m notin")) (newsCons (keepOne cN G2 (a := Pr) (by k_mem) (by walk_at "m notin")) (newsCons (keepOne cN G2 (a := Em) (by k_mem) (by walk_at "m notin")) (newsCons (keepOne cN G2 (a := Sg) (by k_mem) (by walk_at "m notin"))
      (newsCons (keepOne cN G2 (a := P) (by k_mem) (by walk_at "m notin")) (newsCons (newOne cN (by k_mem) hO2) (newsCons (newOne cN (by k_mem) hR2) NT))))))
    clear hb2 hR2 hO2 NT cN cF
    k_steps
    rw [hl] at N2
    have et : st.top = [] := by
      have h0 := htop.length
      exact List.eq_nil_of_length_eq_zero (by simpa using h0.symm)
    subst hQQ
    refine selClose F2 N2 hA hlev (DatAll.one (DatIn.str _ _)) ((hrow.mono (by walk_at "m le")).append (.cons htR2 .nil)) hbot hstp hact hs0 ?_ ⟨_, _, rfl, rfl, rfl, rfl, rfl⟩
    unfold PS.endB PS.put
    rw [et]
    rfl
  | cons v0 its =>
    k_dflt (refine' close1_spec (b := b) (R := R) (O := O) B cF X (cb_drop cN ?N) Tp ?hk ?ne ?r ?o ?s ?d ?u ?_)
    case N => walk_at "m sub"
    case hk => rfl
    case ne => exact ⟨Off.ne o14, Off.ne o7, Off.ne o13, Off.ne' o12, Off.ne o6, Off.ne' o5⟩
    case r => (simp only [List.length_cons] at hits; omega)
    case o => exact hls
    case s => exact hstp
    case d => walk_at "m room"
    case u => walk_at "m room"
    intro h2 tk2 nO' F2 hO2 G2 hle2
    dsimp only at hle2 G2
    have NT := newsTailK (newsFrom7 cN) G2 (off1 (tl O (by simp)).1) (notin_cons (Off.ne o7) notin_nil) (off1 (tl O (by simp)).2)
    have N2 := newsCons (keepOne cN G2 (a := I) (by k_mem) (by walk_at "m notin")) (newsCons (keepOne cN G2 (a := Pr) (by k_mem) (by walk_at "m notin")) (newsCons (keepOne cN G2 (a := Em) (by k_mem) (by walk_at "m notin")) (newsCons (keepOne cN G2 (a := Sg) (by k_mem) (by walk_at "m notin"))
      (newsCons (keepOne cN G2 (a := P) (by k_mem) (by walk_at "m notin")) (newsCons (newOne cN (by k_mem) hO2) (newsCons (keepOne cN G2 (a := R) (by k_mem) (by walk_at "m notin")) NT))))))
    clear hO2 NT cN cF
    k_steps
    obtain ⟨d0, ds0, et⟩ : ∃ d0 ds0, st.top = d0 :: ds0 := by
      have h0 := htop.length
      cases h9 : st.top with
      | nil => rw [h9] at h0; simp at h0
      | cons a c => exact ⟨a, c, rfl⟩
    subst hQQ
    refine selClose F2 N2 hA hlev htop (hrow.mono (by walk_at "m le")) hbot hstp hact hs0 ?_ ⟨_, _, rfl, rfl, rfl, rfl, rfl⟩
    unfold PS.endB
    rw [et]
    dsimp only
    rw [← et]
theorem turn3b {w : World} {dp un : Nat} {gd : Option (List Code)} {outer : List Env} {A₀ : Around} {base h₀ : Heap} {L : Addr}
    {s : Shared} {E : Value → Shared → Prop} {mean : ExcName → Option Value} {mg mb : Str → Option Value}
    {I Pr Em Sg nPr nEm nSg : Nat} {oI : Obj} {x y : Value} {p : PR} {st : PS} {rest : List (Addr × Obj)} {at' i n : Int} {ta ti tn : Nat} {u : Str → Option Value} {tkE tkS : Nat}
    (B : Below A₀ base outer h₀) (X : (hd.heap_39 w.params).In h₀) (Tp : Top hd.view_39 (looseW hd.view_39 []) mean mg mb h₀)
    (F : Fr h₀ L s.heap (fun z => if z = Str.ofString "n" then some (.int n tn) else mDraw Pr Em Sg at' i ta ti u z))
    (N : News h₀ L s.heap ((I, oI) :: (Pr, listOf [x, y].toArray nPr) :: (Em, listOf (emVals tkE).toArray nEm) :: (Sg, listOf (sgVals tkS).toArray nSg) :: (p.objs ++ rest)))
    (hA : Apart ((I, oI) :: (Pr, listOf [x, y].toArray nPr) :: (Em, listOf (emVals tkE).toArray nEm) :: (Sg, listOf (sgVals tkS).toArray nSg) :: (p.objs ++ rest)))
    (hpk : (at' = 0 ∧ Value.ref p.P = x) ∨ (at' = 1 ∧ Value.ref p.P = y)) (his : p.Is st s.toks) (hb : st.Bnd i.toNat) (hi0 : 0 ≤ i) (hi1 : i < 40) (htk : 1 ≤ s.toks) (hE1 : 1 ≤ tkE ∧ tkE + 10 < s.toks)
    (hact : Int.fmod n 8 = 3) (hstk : (refsOf p.ls).length = 0)
    (hd : dp + 5 < recursionLimit) (hu : un + 50 < cLine) :
    wpAny (model prg w) (ktrTop dp un gd (Str.ofString "_law_draw") drawScope L 47 (.ref 46) [] outer) (execs drawTurn (drawEnv L))
      (SelEnd h₀ L I oI Pr Em Sg nPr nEm nSg x y (emVals tkE) (sgVals tkS) p st rest at' (i + 1) n s) E s := by
  obtain ⟨P, O, R, nP, nO, nR, T, step, tS, ls, b, its, nb, cl, rs⟩ := p
  obtain ⟨sh, sgn, sdr, stk, sos⟩ := s
  obtain ⟨hlev, htop, hrow, hbot, hstp⟩ := his
  dsimp only at hlev htop hrow hbot hstp hpk F N htk hE1
  try dsimp only at hstk
  simp only [PR.objs, PR.head, PR.tree, List.cons_append, List.nil_append, List.append_assoc] at N hA
  have hne := hA
  simp only [apart_cons, apart_mid, List.forall_mem_cons, List.forall_mem_append] at hne
  have tl : ∀ d ∈ [P, O, R, b], (∀ p ∈ levObjs ls b, @Ne Nat p.1 d) ∧ (∀ p ∈ cl ++ rest, @Ne Nat p.1 d) := by
    simp only [List.forall_mem_cons, List.forall_mem_append]
    grind
  have tO1 : ∀ p ∈ levObjs ls b, p.1 ≠ O := (tl O (by simp)).1
  have tO2 : ∀ p ∈ cl ++ rest, p.1 ≠ O := (tl O (by simp)).2
  have tR1 : ∀ p ∈ levObjs ls b, p.1 ≠ R := (tl R (by simp)).1
  have tR2 : ∀ p ∈ cl ++ rest, p.1 ≠ R := (tl R (by simp)).2
  have o1 : (Off I O ∧ Off Pr O ∧ Off Em O ∧ Off Sg O ∧ Off P O ∧ Off R O ∧ Off b O) ∧ (Off I R ∧ Off Pr R ∧ Off Em R ∧ Off Sg R ∧ Off P R ∧ Off b R) ∧ (Off b P ∧ Off b I ∧ Off b Pr ∧ Off b Em ∧ Off b Sg) := by
    simp only [Off]; grind
  obtain ⟨⟨o1, o2, o3, o4, o5, o6, o7⟩, ⟨o8, o9, o10, o11, o12, o13⟩, ⟨o14, o15, o16, o17, o18⟩⟩ := o1
  clear hne
  have hls : (refsOf ls).length < 100 := by have := hb.stk; have := hlev.length; rw [refsOf_length]; omega
  have hrs : rs.length < 10000 := by have := hb.rows; have := hrow.length; omega
  have hits : its.length < 10000 := by have := hb.top; have := htop.length; omega
  have wl : 2 ≤ (Str.ofString "x" ++ num (i + 1)).length ∧ (Str.ofString "x" ++ num (i + 1)).length ≤ 3 := word_len (i := i + 1) (by omega) (by omega)
  refine wpAny_q fun QQ hQQ => ?_
  refine turn_pre (pv := Value.ref P) B X Tp F (newsSwap N) hpk hi0 hi1 htk ?_
  clear F N
  intro h1 tk1 tw tq ta2 ti2 u2 F N hw1 hw2 hle1
  replace N := newsSwap N
  dsimp only at hle1 ⊢
  conv in (execs _ _) => arg 1; whnf
  unfold mPre at F
  try k_fold
  k_steps
  rename News h₀ L _ _ => cN
  rename Fr h₀ L _ _ => cF
  k_dflt (refine' put_spec (b := b) (R := R) B cF X (cb_drop cN ?N) Tp ?hk ?ne ?i ?r ?o ?s ?l ?l1 ?t0 ?d ?u ?_)
  case N => walk_at "m sub"
  case hk => rfl
  case ne => exact ⟨Off.ne o14, Off.ne o7, Off.ne o13, Nat.ne_of_lt ((by assumption : ∀ p ∈ _, p.1 < _) (b, _) (by k_mem)), Off.ne' o12, Off.ne o6, Nat.ne_of_lt ((by assumption : ∀ p ∈ _, p.1 < _) (R, _) (by k_mem))⟩
  case i => exact hits
  case r => exact hrs
  case o => exact hls
  case s => exact hstp
  case l => omega
  case l1 => omega
  case t0 => walk_at "m tok"
  case d => walk_at "m room"
  case u => walk_at "m room"
  intro h2 tk2 tR nR' nb' F2 hb2 hR2 G2 hle2 htR2
  dsimp only at hle2 G2
  have NT := newsTail (newsFrom1 cN) G2 (off2 (tl b (by simp)).1 (tl R (by simp)).1) (off2 (tl b (by simp)).2 (tl R (by simp)).2) hb2
  have N2 := newsCons (keepOne cN G2 (a := I) (by k_mem) (by walk_at "m notin")) (newsCons (keepOne cN G2 (a := Pr) (by k_mem) (by walk_at "m notin")) (newsCons (keepOne cN G2 (a := Em) (by k_mem) (by walk_at "m notin")) (newsCons (keepOne cN G2 (a := Sg) (by k_mem) (by walk_at "m notin"))
    (newsCons (keepOne cN G2 (a := P) (by k_mem) (by walk_at "m notin")) (newsCons (keepOne cN G2 (a := O) (by k_mem) (by walk_at "m notin")) (newsCons (newOne cN (by k_mem) hR2) NT))))))
  clear hb2 hR2 NT cN cF
  k_steps
  have hl : (refsOf ls).length = st.stk.length := by rw [refsOf_length, hlev.length]
  rw [hl] at N2
  subst hQQ
  refine selPut F2 N2 hA hlev htop hrow (by walk_at "m le") hbot hstp (by rw [hact]; decide) (.cons htR2 .nil) ?_ ⟨_, _, rfl, rfl, rfl, rfl, rfl⟩
  unfold actPS
  have e0 : st.stk = [] := List.eq_nil_of_length_eq_zero (by omega)
  rw [if_neg (by rw [hact]; decide), if_neg (by rw [e0]; simp), if_neg (by rw [hact]; decide), if_neg (by rw [hact]; decide), if_neg (by rw [hact]; decide)]
  rfl
theorem turn4 {w : World} {dp un : Nat} {gd : Option (List Code)} {outer : List Env} {A₀ : Around} {base h₀ : Heap} {L : Addr}
    {s : Shared} {E : Value → Shared → Prop} {mean : ExcName → Option Value} {mg mb : Str → Option Value}
    {I Pr Em Sg nPr nEm nSg : Nat} {oI : Obj} {x y : Value} {p : PR} {st : PS} {rest : List (Addr × Obj)} {at' i n : Int} {ta ti tn : Nat} {u : Str → Option Value} {tkE tkS : Nat}
    (B : Below A₀ base outer h₀) (X : (hd.heap_39 w.params).In h₀) (Tp : Top hd.view_39 (looseW hd.view_39 []) mean mg mb h₀)
    (F : Fr h₀ L s.heap (fun z => if z = Str.ofString "n" then some (.int n tn) else mDraw Pr Em Sg at' i ta ti u z))
    (N : News h₀ L s.heap ((I, oI) :: (Pr, listOf [x, y].toArray nPr) :: (Em, listOf (emVals tkE).toArray nEm) :: (Sg, listOf (sgVals tkS).toArray nSg) :: (p.objs ++ rest)))
    (hA : Apart ((I, oI) :: (Pr, listOf [x, y].toArray nPr) :: (Em, listOf (emVals tkE).toArray nEm) :: (Sg, listOf (sgVals tkS).toArray nSg) :: (p.objs ++ rest)))
    (hpk : (at' = 0 ∧ Value.ref p.P = x) ∨ (at' = 1 ∧ Value.ref p.P = y)) (his : p.Is st s.toks) (hb : st.Bnd i.toNat) (hi0 : 0 ≤ i) (hi1 : i < 40) (htk : 1 ≤ s.toks) (hE1 : 1 ≤ tkE ∧ tkE + 10 < s.toks)
    (hact : Int.fmod n 8 = 4)
    (hd : dp + 5 < recursionLimit) (hu : un + 50 < cLine) :
    wpAny (model prg w) (ktrTop dp un gd (Str.ofString "_law_draw") drawScope L 47 (.ref 46) [] outer) (execs drawTurn (drawEnv L))
      (SelEnd h₀ L I oI Pr Em Sg nPr nEm nSg x y (emVals tkE) (sgVals tkS) p st rest at' (i + 1) n s) E s := by
  obtain ⟨P, O, R, nP, nO, nR, T, step, tS, ls, b, its, nb, cl, rs⟩ := p
  obtain ⟨sh, sgn, sdr, stk, sos⟩ := s
  obtain ⟨hlev, htop, hrow, hbot, hstp⟩ := his
  dsimp only at hlev htop hrow hbot hstp hpk F N htk hE1
  try dsimp only at hstk
  simp only [PR.objs, PR.head, PR.tree, List.cons_append, List.nil_append, List.append_assoc] at N hA
  have hne := hA
  simp only [apart_cons, apart_mid, List.forall_mem_cons, List.forall_mem_append] at hne
  have tl : ∀ d ∈ [P, O, R, b], (∀ p ∈ levObjs ls b, @Ne Nat p.1 d) ∧ (∀ p ∈ cl ++ rest, @Ne Nat p.1 d) := by
    simp only [List.forall_mem_cons, List.forall_mem_append]
    grind
  have tO1 : ∀ p ∈ levObjs ls b, p.1 ≠ O := (tl O (by simp)).1
  have tO2 : ∀ p ∈ cl ++ rest, p.1 ≠ O := (tl O (by simp)).2
  have tR1 : ∀ p ∈ levObjs ls b, p.1 ≠ R := (tl R (by simp)).1
  have tR2 : ∀ p ∈ cl ++ rest, p.1 ≠ R := (tl R (by simp)).2
  have o1 : (Off I O ∧ Off Pr O ∧ Off Em O ∧ Off Sg O ∧ Off P O ∧ Off R O ∧ Off b O) ∧ (Off I R ∧ Off Pr R ∧ Off Em R ∧ Off Sg R ∧ Off P R ∧ Off b R) ∧ (Off b P ∧ Off b I ∧ Off b Pr ∧ Off b Em ∧ Off b Sg) := by
    simp only [Off]; grind
  obtain ⟨⟨o1, o2, o3, o4, o5, o6, o7⟩, ⟨o8, o9, o10, o11, o12, o13⟩, ⟨o14, o15, o16, o17, o18⟩⟩ := o1
  clear hne
  have hls : (refsOf ls).length < 100 := by have := hb.stk; have := hlev.length; rw [refsOf_length]; omega
  have hrs : rs.length < 10000 := by have := hb.rows; have := hrow.length; omega
  have hits : its.length < 10000 := by have := hb.top; have := htop.length; omega
  have wl : 2 ≤ (Str.ofString "x" ++ num (i + 1)).length ∧ (Str.ofString "x" ++ num (i + 1)).length ≤ 3 := word_len (i := i + 1) (by omega) (by omega)
  refine wpAny_q fun QQ hQQ => ?_
  refine turn_pre (pv := Value.ref P) B X Tp F (newsSwap N) hpk hi0 hi1 htk ?_
  clear F N
  intro h1 tk1 tw tq ta2 ti2 u2 F N hw1 hw2 hle1
  replace N := newsSwap N
  dsimp only at hle1 ⊢
  simp only [emVals] at N
  conv in (execs _ _) => arg 1; whnf
  unfold mPre at F
  try k_fold
  k_steps
  rename News h₀ L _ _ => cN
  rename Fr h₀ L _ _ => cF
  rename (_ : List (Str × Nat))[_]? = some _ => hx
  have ex := pick_at (l := emptyL) hx rfl
  have hm := List.mem_of_getElem? hx
  simp only [List.mem_cons, Prod.mk.injEq, List.not_mem_nil, or_false] at hm
  simp only [List.push_toArray] at cN
  subst hQQ
  refine selEmpt cF cN hA hlev htop hrow (by walk_at "m le") hbot hstp (by rw [hact]; decide) ⟨Nat.le_trans hE1.1 (tok5 hm).1, Nat.lt_of_lt_of_le (Nat.lt_trans (tok5 hm).2 hE1.2) (by walk_at "m le")⟩ ?_ ⟨_, _, rfl, rfl, rfl, rfl, rfl⟩
  unfold actPS
  rw [if_neg (by rw [hact]; decide), if_neg (fun q => absurd q.1 (by rw [hact]; decide)), if_pos hact, ex]
theorem turn5 {w : World} {dp un : Nat} {gd : Option (List Code)} {outer : List Env} {A₀ : Around} {base h₀ : Heap} {L : Addr}
    {s : Shared} {E : Value → Shared → Prop} {mean : ExcName → Option Value} {mg mb : Str → Option Value}
    {I Pr Em Sg nPr nEm nSg : Nat} {oI : Obj} {x y : Value} {p : PR} {st : PS} {rest : List (Addr × Obj)} {at' i n : Int} {ta ti tn : Nat} {u : Str → Option Value} {tkE tkS : Nat}
    (B : Below A₀ base outer h₀) (X : (hd.heap_39 w.params).In h₀) (Tp : Top hd.view_39 (looseW hd.view_39 []) mean mg mb h₀)
    (F : Fr h₀ L s.heap (fun z => if z = Str.ofString "n" then some (.int n tn) else mDraw Pr Em Sg at' i ta ti u z))
    (N : News h₀ L s.heap ((I, oI) :: (Pr, listOf [x, y].toArray nPr) :: (Em, listOf (emVals tkE).toArray nEm) :: (Sg, listOf (sgVals tkS).toArray nSg) :: (p.objs ++ rest)))
    (hA : Apart ((I, oI) :: (Pr, listOf [x, y].toArray nPr) :: (Em, listOf (emVals tkE).toArray nEm) :: (Sg, listOf (sgVals tkS).toArray nSg) :: (p.objs ++ rest)))
    (hpk : (at' = 0 ∧ Value.ref p.P = x) ∨ (at' = 1 ∧ Value.ref p.P = y)) (his : p.Is st s.toks) (hb : st.Bnd i.toNat) (hi0 : 0 ≤ i) (hi1 : i < 40) (htk : 1 ≤ s.toks) (hE1 : 1 ≤ tkE ∧ tkE + 10 < s.toks)
    (hact : Int.fmod n 8 = 5)
    (hd : dp + 5 < recursionLimit) (hu : un + 50 < cLine) :
    wpAny (model prg w) (ktrTop dp un gd (Str.ofString "_law_draw") drawScope L 47 (.ref 46) [] outer) (execs drawTurn (drawEnv L))
      (SelEnd h₀ L I oI Pr Em Sg nPr nEm nSg x y (emVals tkE) (sgVals tkS) p st rest at' (i + 1) n s) E s := by
  obtain ⟨P, O, R, nP, nO, nR, T, step, tS, ls, b, its, nb, cl, rs⟩ := p
  obtain ⟨sh, sgn, sdr, stk, sos⟩ := s
  obtain ⟨hlev, htop, hrow, hbot, hstp⟩ := his
  dsimp only at hlev htop hrow hbot hstp hpk F N htk hE1
  try dsimp only at hstk
  simp only [PR.objs, PR.head, PR.tree, List.cons_append, List.nil_append, List.append_assoc] at N hA
  have hne := hA
  simp only [apart_cons, apart_mid, List.forall_mem_cons, List.forall_mem_append] at hne
  have tl : ∀ d ∈ [P, O, R, b], (∀ p ∈ levObjs ls b, @Ne Nat p.1 d) ∧ (∀ p ∈ cl ++ rest, @Ne Nat p.1 d) := by
    simp only [List.forall_mem_cons, List.forall_mem_append]
    grind
  have tO1 : ∀ p ∈ levObjs ls b, p.1 ≠ O := (tl O (by simp)).1
  have tO2 : ∀ p ∈ cl ++ rest, p.1 ≠ O := (tl O (by simp)).2
  have tR1 : ∀ p ∈ levObjs ls b, p.1 ≠ R := (tl R (by simp)).1
  have tR2 : ∀ p ∈ cl ++ rest, p.1 ≠ R := (tl R (by simp)).2
  have o1 : (Off I O ∧ Off Pr O ∧ Off Em O ∧ Off Sg O ∧ Off P O ∧ Off R O ∧ Off b O) ∧ (Off I R ∧ Off Pr R ∧ Off Em R ∧ Off Sg R ∧ Off P R ∧ Off b R) ∧ (Off b P ∧ Off b I ∧ Off b Pr ∧ Off b Em ∧ Off b Sg) := by
    simp only [Off]; grind
  obtain ⟨⟨o1, o2, o3, o4, o5, o6, o7⟩, ⟨o8, o9, o10, o11, o12, o13⟩, ⟨o14, o15, o16, o17, o18⟩⟩ := o1
  clear hne
  have hls : (refsOf ls).length < 100 := by have := hb.stk; have := hlev.length; rw [refsOf_length]; omega
  have hrs : rs.length < 10000 := by have := hb.rows; have := hrow.length; omega
  have hits : its.length < 10000 := by have := hb.top; have := htop.length; omega
  have wl : 2 ≤ (Str.ofString "x" ++ num (i + 1)).length ∧ (Str.ofString "x" ++ num (i + 1)).length ≤ 3 := word_len (i := i + 1) (by omega) (by omega)
  refine wpAny_q fun QQ hQQ => ?_
  refine turn_pre (pv := Value.ref P) B X Tp F (newsSwap N) hpk hi0 hi1 htk ?_
  clear F N
  intro h1 tk1 tw tq ta2 ti2 u2 F N hw1 hw2 hle1
  replace N := newsSwap N
  dsimp only at hle1 ⊢
  have f1 := fmod_lo (Int.fdiv n 8) (n := 7) (by decide)
  have f2 := fmod_hi (Int.fdiv n 8) (n := 7) (by decide)
  have f3 := fmod_lo (Int.fdiv (Int.fdiv n 8) 7) (n := 4) (by decide)
  have f4 := fmod_hi (Int.fdiv (Int.fdiv n 8) 7) (n := 4) (by decide)
  have l4 : (Str.ofString "(a, b, )").length = 8 := by decide
  have l5 : (Str.ofString "(a,").length = 3 := by decide
  have l6 : (Str.ofString " ").length = 1 := by decide
  have l7 : (Str.ofString "b,").length = 2 := by decide
  have l8 : (Str.ofString "\t").length = 1 := by decide
  have l9 : (Str.ofString ")").length = 1 := by decide
  conv in (execs _ _) => arg 1; whnf
  unfold mPre at F
  try k_fold
  k_steps
  rename News h₀ L _ _ => cN
  rename Fr h₀ L _ _ => cF
  k_dflt (refine' put3_spec (b := b) (R := R) B cF X (cb_drop cN ?N) Tp ?hk ?ne ?i ?r ?o ?s ?l ?l1 ?t0 ?d ?u ?_)
  case N => walk_at "m sub"
  case hk => rfl
  case ne => exact ⟨Off.ne o14, Off.ne o7, Off.ne o13, Nat.ne_of_lt ((by assumption : ∀ p ∈ _, p.1 < _) (b, _) (by k_mem)), Off.ne' o12, Off.ne o6, Nat.ne_of_lt ((by assumption : ∀ p ∈ _, p.1 < _) (R, _) (by k_mem))⟩
  case i => exact hits
  case r => exact hrs
  case o => exact hls
  case s => exact hstp
  case l => omega
  case l1 => omega
  case t0 => walk_at "m tok"
  case d => walk_at "m room"
  case u => walk_at "m room"
  intro h2 tk2 tR nR' nb' F2 hb2 hR2 G2 hle2 htR2
  dsimp only at hle2 G2
  have NT := newsTail (newsFrom1 cN) G2 (off2 (tl b (by simp)).1 (tl R (by simp)).1) (off2 (tl b (by simp)).2 (tl R (by simp)).2) hb2
  have N2 := newsCons (keepOne cN G2 (a := I) (by k_mem) (by walk_at "m notin")) (newsCons (keepOne cN G2 (a := Pr) (by k_mem) (by walk_at "m notin")) (newsCons (keepOne cN G2 (a := Em) (by k_mem) (by walk_at "m notin")) (newsCons (keepOne cN G2 (a := Sg) (by k_mem) (by walk_at "m notin"))
    (newsCons (keepOne cN G2 (a := P) (by k_mem) (by walk_at "m notin")) (newsCons (keepOne cN G2 (a := O) (by k_mem) (by walk_at "m notin")) (newsCons (newOne cN (by k_mem) hR2) NT))))))
  clear hb2 hR2 NT cN cF
  k_steps
  have hl : (refsOf ls).length = st.stk.length := by rw [refsOf_length, hlev.length]
  rw [hl] at N2
  subst hQQ
  refine selPut F2 N2 hA hlev htop hrow (by walk_at "m le") hbot hstp (by rw [hact]; decide) (.cons htR2 (.cons (by walk_at "m tok") (.cons (by walk_at "m tok") .nil))) ?_ ⟨_, _, rfl, rfl, rfl, rfl, rfl⟩
  unfold actPS
  rw [if_neg (by rw [hact]; decide), if_neg (fun q => absurd q.1 (by rw [hact]; decide)), if_neg (by rw [hact]; decide), if_pos hact]
  rfl
theorem turn6 {w : World} {dp un : Nat} {gd : Option (List Code)} {outer : List Env} {A₀ : Around} {base h₀ : Heap} {L : Addr}
    {s : Shared} {E : Value → Shared → Prop} {mean : ExcName → Option Value} {mg mb : Str → Option Value}
    {I Pr Em Sg nPr nEm nSg : Nat} {oI : Obj} {x y : Value} {p : PR} {st : PS} {rest : List (Addr × Obj)} {at' i n : Int} {ta ti tn : Nat} {u : Str → Option Value} {tkE tkS : Nat}
    (B : Below A₀ base outer h₀) (X : (hd.heap_39 w.params).In h₀) (Tp : Top hd.view_39 (looseW hd.view_39 []) mean mg mb h₀)
    (F : Fr h₀ L s.heap (fun z => if z = Str.ofString "n" then some (.int n tn) else mDraw Pr Em Sg at' i ta ti u z))
    (N : News h₀ L s.heap ((I, oI) :: (Pr, listOf [x, y].toArray nPr) :: (Em, listOf (emVals tkE).toArray nEm) :: (Sg, listOf (sgVals tkS).toArray nSg) :: (p.objs ++ rest)))
    (hA : Apart ((I, oI) :: (Pr, listOf [x, y].toArray nPr) :: (Em, listOf (emVals tkE).toArray nEm) :: (Sg, listOf (sgVals tkS).toArray nSg) :: (p.objs ++ rest)))
    (hpk : (at' = 0 ∧ Value.ref p.P = x) ∨ (at' = 1 ∧ Value.ref p.P = y)) (his : p.Is st s.toks) (hb : st.Bnd i.toNat) (hi0 : 0 ≤ i) (hi1 : i < 40) (htk : 1 ≤ s.toks) (hE1 : 1 ≤ tkE ∧ tkE + 10 < s.toks)
    (hact : Int.fmod n 8 = 6)
    (hd : dp + 5 < recursionLimit) (hu : un + 50 < cLine) :
    wpAny (model prg w) (ktrTop dp un gd (Str.ofString "_law_draw") drawScope L 47 (.ref 46) [] outer) (execs drawTurn (drawEnv L))
      (SelEnd h₀ L I oI Pr Em Sg nPr nEm nSg x y (emVals tkE) (sgVals tkS) p st rest at' (i + 1) n s) E s := by
  obtain ⟨P, O, R, nP, nO, nR, T, step, tS, ls, b, its, nb, cl, rs⟩ := p
  obtain ⟨sh, sgn, sdr, stk, sos⟩ := s
  obtain ⟨hlev, htop, hrow, hbot, hstp⟩ := his
  dsimp only at hlev htop hrow hbot hstp hpk F N htk hE1
  try dsimp only at hstk
  simp only [PR.objs, PR.head, PR.tree, List.cons_append, List.nil_append, List.append_assoc] at N hA
  have hne := hA
  simp only [apart_cons, apart_mid, List.forall_mem_cons, List.forall_mem_append] at hne
  have tl : ∀ d ∈ [P, O, R, b], (∀ p ∈ levObjs ls b, @Ne Nat p.1 d) ∧ (∀ p ∈ cl ++ rest, @Ne Nat p.1 d) := by
    simp only [List.forall_mem_cons, List.forall_mem_append]
    grind
  have tO1 : ∀ p ∈ levObjs ls b, p.1 ≠ O := (tl O (by simp)).1
  have tO2 : ∀ p ∈ cl ++ rest, p.1 ≠ O := (tl O (by simp)).2
  have tR1 : ∀ p ∈ levObjs ls b, p.1 ≠ R := (tl R (by simp)).1
  have tR2 : ∀ p ∈ cl ++ rest, p.1 ≠ R := (tl R (by simp)).2
  have o1 : (Off I O ∧ Off Pr O ∧ Off Em O ∧ Off Sg O ∧ Off P O ∧ Off R O ∧ Off b O) ∧ (Off I R ∧ Off Pr R ∧ Off Em R ∧ Off Sg R ∧ Off P R ∧ Off b R) ∧ (Off b P ∧ Off b I ∧ Off b Pr ∧ Off b Em ∧ Off b Sg) := by
    simp only [Off]; grind
  obtain ⟨⟨o1, o2, o3, o4, o5, o6, o7⟩, ⟨o8, o9, o10, o11, o12, o13⟩, ⟨o14, o15, o16, o17, o18⟩⟩ := o1
  clear hne
  have hls : (refsOf ls).length < 100 := by have := hb.stk; have := hlev.length; rw [refsOf_length]; omega
  have hrs : rs.length < 10000 := by have := hb.rows; have := hrow.length; omega
  have hits : its.length < 10000 := by have := hb.top; have := htop.length; omega
  have wl : 2 ≤ (Str.ofString "x" ++ num (i + 1)).length ∧ (Str.ofString "x" ++ num (i + 1)).length ≤ 3 := word_len (i := i + 1) (by omega) (by omega)
  refine wpAny_q fun QQ hQQ => ?_
  refine turn_pre (pv := Value.ref P) B X Tp F (newsSwap N) hpk hi0 hi1 htk ?_
  clear F N
  intro h1 tk1 tw tq ta2 ti2 u2 F N hw1 hw2 hle1
  replace N := newsSwap N
  dsimp only at hle1 ⊢
  conv in (execs _ _) => arg 1; whnf
  unfold mPre at F
  try k_fold
  k_steps
  rename News h₀ L _ _ => cN
  rename Fr h₀ L _ _ => cF
  subst hQQ
  exact selFlip cF cN hA hlev htop hrow (by walk_at "m le") hbot hstp hact ⟨_, _, rfl, rfl, rfl, rfl, rfl⟩
theorem turn7 {w : World} {dp un : Nat} {gd : Option (List Code)} {outer : List Env} {A₀ : Around} {base h₀ : Heap} {L : Addr}
    {s : Shared} {E : Value → Shared → Prop} {mean : ExcName → Option Value} {mg mb : Str → Option Value}
    {I Pr Em Sg nPr nEm nSg : Nat} {oI : Obj} {x y : Value} {p : PR} {st : PS} {rest : List (Addr × Obj)} {at' i n : Int} {ta ti tn : Nat} {u : Str → Option Value} {tkE tkS : Nat}
    (B : Below A₀ base outer h₀) (X : (hd.heap_39 w.params).In h₀) (Tp : Top hd.view_39 (looseW hd.view_39 []) mean mg mb h₀)
    (F : Fr h₀ L s.heap (fun z => if z = Str.ofString "n" then some (.int n tn) else mDraw Pr Em Sg at' i ta ti u z))
    (N : News h₀ L s.heap ((I, oI) :: (Pr, listOf [x, y].toArray nPr) :: (Em, listOf (emVals tkE).toArray nEm) :: (Sg, listOf (sgVals tkS).toArray nSg) :: (p.objs ++ rest)))
    (hA : Apart ((I, oI) :: (Pr, listOf [x, y].toArray nPr) :: (Em, listOf (emVals tkE).toArray nEm) :: (Sg, listOf (sgVals tkS).toArray nSg) :: (p.objs ++ rest)))
    (hpk : (at' = 0 ∧ Value.ref p.P = x) ∨ (at' = 1 ∧ Value.ref p.P = y)) (his : p.Is st s.toks) (hb : st.Bnd i.toNat) (hi0 : 0 ≤ i) (hi1 : i < 40) (htk : 1 ≤ s.toks) (hE1 : 1 ≤ tkE ∧ tkE + 10 < s.toks)
    (hact : Int.fmod n 8 = 7)
    (hd : dp + 5 < recursionLimit) (hu : un + 50 < cLine) :
    wpAny (model prg w) (ktrTop dp un gd (Str.ofString "_law_draw") drawScope L 47 (.ref 46) [] outer) (execs drawTurn (drawEnv L))
      (SelEnd h₀ L I oI Pr Em Sg nPr nEm nSg x y (emVals tkE) (sgVals tkS) p st rest at' (i + 1) n s) E s := by
  obtain ⟨P, O, R, nP, nO, nR, T, step, tS, ls, b, its, nb, cl, rs⟩ := p
  obtain ⟨sh, sgn, sdr, stk, sos⟩ := s
  obtain ⟨hlev, htop, hrow, hbot, hstp⟩ := his
  dsimp only at hlev htop hrow hbot hstp hpk F N htk hE1
  try dsimp only at hstk
  simp only [PR.objs, PR.head, PR.tree, List.cons_append, List.nil_append, List.append_assoc] at N hA
  have hne := hA
  simp only [apart_cons, apart_mid, List.forall_mem_cons, List.forall_mem_append] at hne
  have tl : ∀ d ∈ [P, O, R, b], (∀ p ∈ levObjs ls b, @Ne Nat p.1 d) ∧ (∀ p ∈ cl ++ rest, @Ne Nat p.1 d) := by
    simp only [List.forall_mem_cons, List.forall_mem_append]
    grind
  have tO1 : ∀ p ∈ levObjs ls b, p.1 ≠ O := (tl O (by simp)).1
  have tO2 : ∀ p ∈ cl ++ rest, p.1 ≠ O := (tl O (by simp)).2
  have tR1 : ∀ p ∈ levObjs ls b, p.1 ≠ R := (tl R (by simp)).1
  have tR2 : ∀ p ∈ cl ++ rest, p.1 ≠ R := (tl R (by simp)).2
  have o1 : (Off I O ∧ Off Pr O ∧ Off Em O ∧ Off Sg O ∧ Off P O ∧ Off R O ∧ Off b O) ∧ (Off I R ∧ Off Pr R ∧ Off Em R ∧ Off Sg R ∧ Off P R ∧ Off b R) ∧ (Off b P ∧ Off b I ∧ Off b Pr ∧ Off b Em ∧ Off b Sg) := by
    simp only [Off]; grind
  obtain ⟨⟨o1, o2, o3, o4, o5, o6, o7⟩, ⟨o8, o9, o10, o11, o12, o13⟩, ⟨o14, o15, o16, o17, o18⟩⟩ := o1
  clear hne
  have hls : (refsOf ls).length < 100 := by have := hb.stk; have := hlev.length; rw [refsOf_length]; omega
  have hrs : rs.length < 10000 := by have := hb.rows; have := hrow.length; omega
  have hits : its.length < 10000 := by have := hb.top; have := htop.length; omega
  have wl : 2 ≤ (Str.ofString "x" ++ num (i + 1)).length ∧ (Str.ofString "x" ++ num (i + 1)).length ≤ 3 := word_len (i := i + 1) (by omega) (by omega)
  refine wpAny_q fun QQ hQQ => ?_
  refine turn_pre (pv := Value.ref P) B X Tp F (newsSwap N) hpk hi0 hi1 htk ?_
  clear F N
  intro h1 tk1 tw tq ta2 ti2 u2 F N hw1 hw2 hle1
  replace N := newsSwap N
  dsimp only at hle1 ⊢
  simp only [sgVals] at N
  have l10 : (Str.ofString "y").length = 1 := by decide
  conv in (execs _ _) => arg 1; whnf
  unfold mPre at F
  try k_fold
  k_steps
  rename News h₀ L _ _ => cN
  rename Fr h₀ L _ _ => cF
  k_dflt (refine' put_spec (b := b) (R := R) B cF X (cb_drop cN ?N) Tp ?hk ?ne ?i ?r ?o ?s ?l ?l1 ?t0 ?d ?u ?_)
  case N => walk_at "m sub"
  case hk => rfl
  case ne => exact ⟨Off.ne o14, Off.ne o7, Off.ne o13, Nat.ne_of_lt ((by assumption : ∀ p ∈ _, p.1 < _) (b, _) (by k_mem)), Off.ne' o12, Off.ne o6, Nat.ne_of_lt ((by assumption : ∀ p ∈ _, p.1 < _) (R, _) (by k_mem))⟩
  case i => exact hits
  case r => exact hrs
  case o => exact hls
  case s => exact hstp
  case l => omega
  case l1 => omega
  case t0 => walk_at "m tok"
  case d => walk_at "m room"
  case u => walk_at "m room"
  intro h2 tk2 tR nR' nb' F2 hb2 hR2 G2 hle2 htR2
  dsimp only at hle2 G2
  have NT := newsTail (newsFrom1 cN) G2 (off2 (tl b (by simp)).1 (tl R (by simp)).1) (off2 (tl b (by simp)).2 (tl R (by simp)).2) hb2
  have N2 := newsCons (keepOne cN G2 (a := I) (by k_mem) (by walk_at "m notin")) (newsCons (keepOne cN G2 (a := Pr) (by k_mem) (by walk_at "m notin")) (newsCons (keepOne cN G2 (a := Em) (by k_mem) (by walk_at "m notin")) (newsCons (keepOne cN G2 (a := Sg) (by k_mem) (by walk_at "m notin"))
    (newsCons (keepOne cN G2 (a := P) (by k_mem) (by walk_at "m notin")) (newsCons (keepOne cN G2 (a := O) (by k_mem) (by walk_at "m notin")) (newsCons (newOne cN (by k_mem) hR2) NT))))))
  clear hb2 hR2 NT cN cF
  k_steps
  have hl : (refsOf ls).length = st.stk.length := by rw [refsOf_length, hlev.length]
  rw [hl] at N2
  subst hQQ
  refine selPut F2 N2 hA hlev htop hrow (by walk_at "m le") hbot hstp (by rw [hact]; decide) (.cons htR2 .nil) ?_ ⟨_, _, rfl, rfl, rfl, rfl, rfl⟩
  unfold actPS
  rw [if_neg (by rw [hact]; decide), if_neg (fun q => absurd q.1 (by rw [hact]; decide)), if_neg (by rw [hact]; decide), if_neg (by rw [hact]; decide), if_pos hact]
  rename (_ : List (Str × Nat))[_]? = some _ => hx
  have ex := pick_at (l := signsL) hx rfl
  unfold signT
  rw [ex]
  rfl
theorem draw_turn {w : World} {dp un : Nat} {gd : Option (List Code)} {outer : List Env} {A₀ : Around} {base h₀ : Heap} {L : Addr}
    {s : Shared} {E : Value → Shared → Prop} {mean : ExcName → Option Value} {mg mb : Str → Option Value}
    {I Pr Em Sg nPr nEm nSg : Nat} {oI : Obj} {x y : Value} {p : PR} {st : PS} {rest : List (Addr × Obj)} {at' i n : Int} {ta ti tn : Nat} {u : Str → Option Value} {tkE tkS : Nat}
    (B : Below A₀ base outer h₀) (X : (hd.heap_39 w.params).In h₀) (Tp : Top hd.view_39 (looseW hd.view_39 []) mean mg mb h₀)
    (F : Fr h₀ L s.heap (fun z => if z = Str.ofString "n" then some (.int n tn) else mDraw Pr Em Sg at' i ta ti u z))
    (N : News h₀ L s.heap ((I, oI) :: (Pr, listOf [x, y].toArray nPr) :: (Em, listOf (emVals tkE).toArray nEm) :: (Sg, listOf (sgVals tkS).toArray nSg) :: (p.objs ++ rest)))
    (hA : Apart ((I, oI) :: (Pr, listOf [x, y].toArray nPr) :: (Em, listOf (emVals tkE).toArray nEm) :: (Sg, listOf (sgVals tkS).toArray nSg) :: (p.objs ++ rest)))
    (hpk : (at' = 0 ∧ Value.ref p.P = x) ∨ (at' = 1 ∧ Value.ref p.P = y)) (his : p.Is st s.toks) (hb : st.Bnd i.toNat) (hi0 : 0 ≤ i) (hi1 : i < 40) (htk : 1 ≤ s.toks) (hE1 : 1 ≤ tkE ∧ tkE + 10 < s.toks)
    (hd : dp + 5 < recursionLimit) (hu : un + 50 < cLine) :
    wpAny (model prg w) (ktrTop dp un gd (Str.ofString "_law_draw") drawScope L 47 (.ref 46) [] outer) (execs drawTurn (drawEnv L))
      (SelEnd h₀ L I oI Pr Em Sg nPr nEm nSg x y (emVals tkE) (sgVals tkS) p st rest at' (i + 1) n s) E s := by
  have f1 := fmod_lo n (n := 8) (by decide)
  have f2 := fmod_hi n (n := 8) (by decide)
  by_cases h2 : Int.fmod n 8 = 2
  · exact turn2 B X Tp F N hA hpk his hb hi0 hi1 htk hE1 h2 hd hu
  by_cases h3 : Int.fmod n 8 = 3
  · by_cases hz : (refsOf p.ls).length = 0
    · exact turn3b B X Tp F N hA hpk his hb hi0 hi1 htk hE1 h3 hz hd hu
    · exact turn3 B X Tp F N hA hpk his hb hi0 hi1 htk hE1 h3 (by omega) hd hu
  by_cases h4 : Int.fmod n 8 = 4
  · exact turn4 B X Tp F N hA hpk his hb hi0 hi1 htk hE1 h4 hd hu
  by_cases h5 : Int.fmod n 8 = 5
  · exact turn5 B X Tp F N hA hpk his hb hi0 hi1 htk hE1 h5 hd hu
  by_cases h6 : Int.fmod n 8 = 6
  · exact turn6 B X Tp F N hA hpk his hb hi0 hi1 htk hE1 h6 hd hu
  by_cases h7 : Int.fmod n 8 = 7
  · exact turn7 B X Tp F N hA hpk his hb hi0 hi1 htk hE1 h7 hd hu
  exact turn0 B X Tp F N hA hpk his hb hi0 hi1 htk hE1 (by omega) hd hu

theorem draw_step {w : World} {dp un : Nat} {gd : Option (List Code)} {outer : List Env} {A₀ : Around} {base h₀ : Heap} {L : Addr} {m₁ : Str → Option Value}
    {s : Shared} {h : Heap} {tk : Nat} {Q : Flow → Shared → Prop} {E : Value → Shared → Prop} {mean : ExcName → Option Value} {mg mb : Str → Option Value}
    {I Pr Em Sg nPr nEm nSg : Nat} {oI : Obj} {n : Int} {tn i tkE tkS : Nat} {d : DS} {s0 s1 : Str} {nx : List (Addr × Obj)}
    (B : Below A₀ base outer h₀) (X : (hd.heap_39 w.params).In h₀) (Tp : Top hd.view_39 (looseW hd.view_39 []) mean mg mb h₀)
    (F : Fr h₀ L h (fun z => if z = Str.ofString "n" then some (.int n tn) else m₁ z)) (N : News h₀ L h ((I, oI) :: nx)) (hI : ∀ p ∈ nx, @Ne Nat p.1 I)
    (K : DrawIs Pr Em Sg nPr nEm nSg (emVals tkE) (sgVals tkS) s0 s1 d i tk m₁ nx) (hi : i < 30) (htk : 1 ≤ tk) (hE1 : 1 ≤ tkE ∧ tkE + 10 < tk)
    (hd : dp + 5 < recursionLimit) (hu : un + 50 < cLine) :
    wpAny (model prg w) (ktrTop dp un gd (Str.ofString "_law_draw") drawScope L 47 (.ref 46) [] outer) (execs drawTurn (drawEnv L))
      (TurnEnd h₀ L I oI (DrawIs Pr Em Sg nPr nEm nSg (emVals tkE) (sgVals tkS) s0 s1 (d.step s0 s1 ((i : Int) + 1) n) (i + 1)) s Q) E { s with heap := h, toks := tk } := by
  obtain ⟨p0, p1, ta, ti, u, rfl, hA, hp0, hp1, rfl, rfl, hat, hb0, hb1, rfl⟩ := K
  have hA' : Apart ((I, oI) :: (Pr, listOf [Value.ref p0.P, Value.ref p1.P].toArray nPr) :: (Em, listOf (emVals tkE).toArray nEm) :: (Sg, listOf (sgVals tkS).toArray nSg) :: (p0.objs ++ p1.objs)) := apart_cons.mpr ⟨hI, hA⟩
  have hs0 := hp0.step
  have hs1 := hp1.step
  rcases hat with hat | hat
  · refine wpAny_toks (wpAny_mono (draw_turn (p := p0) (st := d.p0) (rest := p1.objs) (at' := d.at') (i := i) B X Tp F N hA' (.inl ⟨hat, rfl⟩) hp0 (by simpa using hb0) (by omega) (by omega) htk hE1 hd hu) (fun f s' h9 hle => ?_) fun _ _ e => e)
    obtain ⟨hf, h', tk', m', p', at'', ta', ti', rfl, F', N', A', hP, hS, hI', hm⟩ := h9
    have hle' : tk ≤ tk' := hle
    have fin : ∃ h'' tk'' m'' nx', ({ ({ s with heap := h, toks := tk } : Shared) with heap := h', toks := tk' } : Shared) = { s with heap := h'', toks := tk'' } ∧ Fr h₀ L h'' m'' ∧ News h₀ L h'' ((I, oI) :: nx') ∧ (∀ p ∈ nx', @Ne Nat p.1 I) ∧ DrawIs Pr Em Sg nPr nEm nSg (emVals tkE) (sgVals tkS) p0.step p1.step (d.step p0.step p1.step ((i : Int) + 1) n) (i + 1) tk'' m'' nx' := by
      obtain ⟨q1, q2⟩ := apart_cons.mp A'
      refine ⟨h', tk', m', _, rfl, F', N', q1, ?_⟩
      rw [← hP] at q2 ⊢
      unfold DS.step
      by_cases h6 : Int.fmod n 8 = 6
      · rw [if_pos h6] at hI' ⊢
        obtain ⟨rfl, hI'⟩ := hI'
        exact ⟨p', p1, ta', ti', m', rfl, q2, hI', hp1.mono hle', hS, rfl, .inr (by show 1 - d.at' = 1; omega), hb0.mono (Nat.le_succ _), hb1.mono (Nat.le_succ _), hm⟩
      · rw [if_neg h6] at hI' ⊢
        rw [if_pos hat]
        obtain ⟨rfl, hI'⟩ := hI'
        exact ⟨p', p1, ta', ti', m', rfl, q2, hI', hp1.mono hle', hS, rfl, .inl hat, actPS_bnd hb0 (by omega) hs0 (by omega) (by omega), hb1.mono (Nat.le_succ _), hm⟩
    rcases hf with rfl | rfl <;> exact fin
  · have pm : ((I, oI) :: (Pr, listOf [Value.ref p0.P, Value.ref p1.P].toArray nPr) :: (Em, listOf (emVals tkE).toArray nEm) :: (Sg, listOf (sgVals tkS).toArray nSg) :: (p0.objs ++ p1.objs)).Perm ((I, oI) :: (Pr, listOf [Value.ref p0.P, Value.ref p1.P].toArray nPr) :: (Em, listOf (emVals tkE).toArray nEm) :: (Sg, listOf (sgVals tkS).toArray nSg) :: (p1.objs ++ p0.objs)) :=
      .cons _ (.cons _ (.cons _ (.cons _ List.perm_append_comm)))
    refine wpAny_toks (wpAny_mono (draw_turn (p := p1) (st := d.p1) (rest := p0.objs) (at' := d.at') (i := i) B X Tp F (fun p hp => N p (pm.mem_iff.mpr hp)) (apart_perm hA' pm) (.inr ⟨hat, rfl⟩) hp1 (by simpa using hb1) (by omega) (by omega) htk hE1 hd hu) (fun f s' h9 hle => ?_) fun _ _ e => e)
    obtain ⟨hf, h', tk', m', p', at'', ta', ti', rfl, F', N', A', hP, hS, hI', hm⟩ := h9
    have hle' : tk ≤ tk' := hle
    have pm2 : ((I, oI) :: (Pr, listOf [Value.ref p0.P, Value.ref p1.P].toArray nPr) :: (Em, listOf (emVals tkE).toArray nEm) :: (Sg, listOf (sgVals tkS).toArray nSg) :: (p'.objs ++ p0.objs)).Perm ((I, oI) :: (Pr, listOf [Value.ref p0.P, Value.ref p1.P].toArray nPr) :: (Em, listOf (emVals tkE).toArray nEm) :: (Sg, listOf (sgVals tkS).toArray nSg) :: (p0.objs ++ p'.objs)) :=
      .cons _ (.cons _ (.cons _ (.cons _ List.perm_append_comm)))
    have fin : ∃ h'' tk'' m'' nx', ({ ({ s with heap := h, toks := tk } : Shared) with heap := h', toks := tk' } : Shared) = { s with heap := h'', toks := tk'' } ∧ Fr h₀ L h'' m'' ∧ News h₀ L h'' ((I, oI) :: nx') ∧ (∀ p ∈ nx', @Ne Nat p.1 I) ∧ DrawIs Pr Em Sg nPr nEm nSg (emVals tkE) (sgVals tkS) p0.step p1.step (d.step p0.step p1.step ((i : Int) + 1) n) (i + 1) tk'' m'' nx' := by
      have A2 := apart_perm A' pm2
      obtain ⟨q1, q2⟩ := apart_cons.mp A2
      refine ⟨h', tk', m', _, rfl, F', (fun p hp => N' p (pm2.mem_iff.mpr hp)), q1, ?_⟩
      rw [← hP] at q2 ⊢
      unfold DS.step
      by_cases h6 : Int.fmod n 8 = 6
      · rw [if_pos h6] at hI' ⊢
        obtain ⟨rfl, hI'⟩ := hI'
        exact ⟨p0, p', ta', ti', m', rfl, q2, hp0.mono hle', hI', rfl, hS, .inl (by show 1 - d.at' = 0; omega), hb0.mono (Nat.le_succ _), hb1.mono (Nat.le_succ _), hm⟩
      · rw [if_neg h6] at hI' ⊢
        rw [if_neg (by omega)]
        obtain ⟨rfl, hI'⟩ := hI'
        exact ⟨p0, p', ta', ti', m', rfl, q2, hp0.mono hle', hI', rfl, hS, .inr hat, hb0.mono (Nat.le_succ _), actPS_bnd hb1 (by omega) hs1 (by omega) (by omega), hm⟩
    rcases hf with rfl | rfl <;> exact fin
theorem close_all {w : World} {dp un : Nat} {gd : Option (List Code)} {outer : List Env} {A₀ : Around} {base h₀ : Heap} {L : Addr} {m : Str → Option Value}
    {s : Shared} {Q : Flow → Shared → Prop} {E : Value → Shared → Prop} {mean : ExcName → Option Value} {mg mb : Str → Option Value}
    {p : PR} {st : PS} {rest : List (Addr × Obj)} {k : Nat}
    (B : Below A₀ base outer h₀) (X : (hd.heap_39 w.params).In h₀) (Tp : Top hd.view_39 (looseW hd.view_39 []) mean mg mb h₀)
    (F : Fr h₀ L s.heap (fun z => if z = Str.ofString "program" then some (.ref p.P) else m z)) (N : News h₀ L s.heap (p.objs ++ rest)) (hA : Apart (p.objs ++ rest))
    (his : p.Is st s.toks) (hb : st.Bnd k) (hk : k + st.stk.length < 48) (htk : 1 ≤ s.toks)
    (hd : dp + 5 < recursionLimit) (hu : un + 50 < cLine)
    (hret : ∀ (h' : Heap) (tk' : Nat) (p' : PR), Fr h₀ L h' (fun z => if z = Str.ofString "program" then some (.ref p.P) else m z) → News h₀ L h' (p'.objs ++ rest) → Apart (p'.objs ++ rest) → p'.P = p.P → p'.step = p.step → p'.Is (PS.fin p.step st) tk' → s.toks ≤ tk' → Q .next { s with heap := h', toks := tk' }) :
    wpAny (model prg w) (ktrTop dp un gd (Str.ofString "_law_draw") drawScope L 47 (.ref 46) [] outer) (execs closeBody (drawEnv L)) Q E s := by
  refine wpAny_noE ?_
  obtain ⟨sh, sgn, sdr, stk, sos⟩ := s
  dsimp only at F N his htk hret
  conv in (execs _ _) => arg 1; whnf
  try k_fold
  k_steps
  refine unstop ?_
  refine while_tk (J := fun n s₁ => ∃ (h : Heap) (tk : Nat) (p' : PR) (st' : PS) (k' : Nat), s₁ = ⟨h, sgn, sdr, tk, sos⟩ ∧ Fr h₀ L h (fun z => if z = Str.ofString "program" then some (.ref p.P) else m z) ∧ News h₀ L h (p'.objs ++ rest) ∧ Apart (p'.objs ++ rest) ∧ p'.P = p.P ∧ p'.step = p.step ∧ p'.Is st' tk ∧ st'.Bnd k' ∧ k' + st'.stk.length < 48 ∧ PS.fin p.step st' = PS.fin p.step st ∧ n = st'.stk.length ∧ stk ≤ tk) (n₀ := st.stk.length) ⟨sh, _, p, st, k, rfl, F, N, hA, rfl, rfl, his.mono (by omega), hb, hk, rfl, rfl, by walk_at "m le"⟩ ?_ noPass
  clear F N hA his hb hk
  rintro n s₁ W hW ⟨h, tk, ⟨P, O, R, nP, nO, nR, T, step, tS, ls, b, its, nb, cl, rs⟩, st', k', rfl, F, N, hA, hP, hS, his, hb, hk, hfin, rfl, hle⟩
  dsimp only at hP hS
  subst hP hS
  obtain ⟨hlev, htop, hrow, hbot, hstp⟩ := his
  dsimp only at hlev htop hrow hbot hstp
  simp only [PR.objs, PR.head, PR.tree, List.cons_append, List.nil_append, List.append_assoc] at N hA
  have hne := hA
  simp only [apart_cons, apart_mid, List.forall_mem_cons, List.forall_mem_append] at hne
  have tl : ∀ d ∈ [p.P, O, R, b], (∀ p ∈ levObjs ls b, @Ne Nat p.1 d) ∧ (∀ p ∈ cl ++ rest, @Ne Nat p.1 d) := by
    simp only [List.forall_mem_cons, List.forall_mem_append]
    grind
  have o1 : Off p.P O ∧ Off R O ∧ Off b O ∧ Off p.P R ∧ Off b R ∧ Off b p.P := by simp only [Off]; grind
  obtain ⟨o5, o6, o7, o12, o13, o14⟩ := o1
  clear hne
  have hl : (refsOf ls).length = st'.stk.length := by rw [refsOf_length, hlev.length]
  have hls : (refsOf ls).length < 100 := by omega
  have hrs : rs.length < 10000 := by have := hb.rows; have := hrow.length; omega
  have hits : its.length < 10000 := by have := hb.top; have := htop.length; omega
  by_cases hz : (refsOf ls).length = 0
  · k_steps
    have e0 : st'.stk = [] := List.eq_nil_of_length_eq_zero (by omega)
    have ef : PS.fin p.step st = st' := by rw [← hfin]; exact fin_nil st' p.step e0
    rw [ef] at hret
    refine hret h _ ⟨p.P, O, R, nP, nO, nR, T, p.step, tS, ls, b, its, nb, cl, rs⟩ F ?_ ?_ rfl rfl ⟨hlev, htop, hrow.mono (by walk_at "m le"), hbot, hstp⟩ (by walk_at "m le")
    · simp only [PR.objs, PR.head, PR.tree, List.cons_append, List.nil_append, List.append_assoc]
      exact N
    · simp only [PR.objs, PR.head, PR.tree, List.cons_append, List.nil_append, List.append_assoc]
      exact hA
  · have hs0 : st'.stk ≠ [] := fun q => by
      have h0 : st'.stk.length = 0 := by rw [q]; rfl
      omega
    have hcl := close_stk st' p.step hs0
    have hbc := bnd_close hb (by omega) hstp hs0
    k_steps
    cases its with
    | nil =>
      k_dflt (refine' close0_spec (b := b) (R := R) (O := O) B F X (cb_drop N ?N) Tp ?hk ?ne ?r ?o ?s ?t0 ?d ?u ?_)
      case N => walk_at "m sub"
      case hk => rfl
      case ne => exact ⟨Off.ne o14, Off.ne o7, Off.ne o13, Off.ne' o12, Off.ne o6, Off.ne' o5⟩
      case r => exact hrs
      case o => exact hls
      case s => exact hstp
      case t0 => ((try dsimp only); walk_at "m le")
      case d => walk_at "m room"
      case u => walk_at "m room"
      intro h2 tk2 tp tR nO' nR' nb' F2 hO2 hb2 hR2 G2 hle2 htR2
      dsimp only at hle2 G2
      have NT := newsTail (newsT (newsT (newsT N))) G2 (off3 (tl O (by simp)).1 (tl b (by simp)).1 (tl R (by simp)).1) (off3 (tl O (by simp)).2 (tl b (by simp)).2 (tl R (by simp)).2) hb2
      have N2 := newsCons (keepOne N G2 (a := p.P) (by k_mem) (by walk_at "m notin")) (newsCons (newOne N (by k_mem) hO2) (newsCons (newOne N (by k_mem) hR2) NT))
      clear hb2 hR2 hO2 NT
      rw [hl] at N2
      have et : st'.top = [] := by
        have h0 := htop.length
        exact List.eq_nil_of_length_eq_zero (by simpa using h0.symm)
      obtain ⟨p'', q1, q2, q3, q4, q5⟩ := closeCore (tk' := tk2) N2 hA hlev (DatAll.one (DatIn.str _ _)) ((hrow.mono (by walk_at "m le")).append (.cons htR2 .nil)) hbot hstp hs0 (by unfold PS.endB PS.put; rw [et]; rfl)
      clear N F
      k_steps
      subst hW
      exact ⟨(st'.close p.step).stk.length, by omega, h2, _, p'', st'.close p.step, k' + 1, rfl, F2, q3, q4, q1, q2, q5.mono (by walk_at "m le"), hbc, by omega, by rw [fin_close _ _ hs0]; exact hfin, rfl, by walk_at "m le"⟩
    | cons v0 its =>
      k_dflt (refine' close1_spec (b := b) (R := R) (O := O) B F X (cb_drop N ?N) Tp ?hk ?ne ?r ?o ?s ?d ?u ?_)
      case N => walk_at "m sub"
      case hk => rfl
      case ne => exact ⟨Off.ne o14, Off.ne o7, Off.ne o13, Off.ne' o12, Off.ne o6, Off.ne' o5⟩
      case r => (simp only [List.length_cons] at hits; omega)
      case o => exact hls
      case s => exact hstp
      case d => walk_at "m room"
      case u => walk_at "m room"
      intro h2 tk2 nO' F2 hO2 G2 hle2
      dsimp only at hle2 G2
      have NT := newsTailK (newsT (newsT (newsT N))) G2 (off1 (tl O (by simp)).1) (notin_cons (Off.ne o7) notin_nil) (off1 (tl O (by simp)).2)
      have N2 := newsCons (keepOne N G2 (a := p.P) (by k_mem) (by walk_at "m notin")) (newsCons (newOne N (by k_mem) hO2) (newsCons (keepOne N G2 (a := R) (by k_mem) (by walk_at "m notin")) NT))
      clear hO2 NT
      obtain ⟨d0, ds0, et⟩ : ∃ d0 ds0, st'.top = d0 :: ds0 := by
        have h0 := htop.length
        cases h9 : st'.top with
        | nil => rw [h9] at h0; simp at h0
        | cons a c => exact ⟨a, c, rfl⟩
      obtain ⟨p'', q1, q2, q3, q4, q5⟩ := closeCore (tk' := tk2) N2 hA hlev htop (hrow.mono (by walk_at "m le")) hbot hstp hs0 (by unfold PS.endB; rw [et]; dsimp only; rw [← et])
      clear N F
      k_steps
      subst hW
      exact ⟨(st'.close p.step).stk.length, by omega, h2, _, p'', st'.close p.step, k' + 1, rfl, F2, q3, q4, q1, q2, q5.mono (by walk_at "m le"), hbc, by omega, by rw [fin_close _ _ hs0]; exact hfin, rfl, by walk_at "m le"⟩
section
local macro_rules | `(tactic| walk_at "call builtin:str.join") => `(tactic| ((refine' join_rows ?k1 ?k2 ?k3 ?k4 ?k5 ?k6 ?k7 ?k8 ?_; (case k1 => k_asm); (case k2 => k_mem); (case k3 => assumption); (case k4 => ((try dsimp only); omega)); (case k5 => ((try dsimp only); omega)); (case k6 => assumption); (case k7 => assumption); (case k8 => decide)); intro t' tk' jT jL; (try dsimp only at jL)))
noncomputable def drawRest : List Stmt := (bodyIn drawDef).drop 7
noncomputable def mPair (Pr : Nat) (u : Str → Option Value) : Str → Option Value := fun y => if y = Str.ofString "pair" then some (.ref Pr) else u y
theorem mPair_of {Pr : Nat} {m : Str → Option Value} (h : m (Str.ofString "pair") = some (.ref Pr)) : m = mPair Pr m := by
  funext y
  unfold mPair
  split
  · subst_vars; exact h
  · rfl
noncomputable def EndIs (Pr nPr P0 P1 : Nat) (s0 s1 : Str) (a0 a1 : PS) (tk : Nat) (m : Str → Option Value) (nx : List (Addr × Obj)) : Prop :=
  ∃ (p0 p1 : PR) (u : Str → Option Value), nx = (Pr, listOf [Value.ref P0, Value.ref P1].toArray nPr) :: (p0.objs ++ p1.objs) ∧ Apart nx ∧ (p0.P = P0 ∧ p0.step = s0) ∧ (p1.P = P1 ∧ p1.step = s1) ∧ p0.Is a0 tk ∧ p1.Is a1 tk ∧ m = mPair Pr u

inductive CompIs (LL : List (Addr × Obj)) (T0 T1 : Nat) (x0 x1 : Str) : Nat → Nat → List Value → List (Addr × Obj) → Prop
  | nil {tk : Nat} : CompIs LL T0 T1 x0 x1 0 tk [] LL
  | one {tk D0 t0 n0 : Nat} : 1 ≤ t0 ∧ t0 < tk → CompIs LL T0 T1 x0 x1 1 tk [Value.ref D0] ((D0, tupOf [Value.ref T0, Value.str x0 t0].toArray n0) :: LL)
  | two {tk D0 t0 n0 D1 t1 n1 : Nat} : 1 ≤ t0 ∧ t0 < tk → 1 ≤ t1 ∧ t1 < tk → CompIs LL T0 T1 x0 x1 2 tk [Value.ref D0, Value.ref D1] ((D1, tupOf [Value.ref T1, Value.str x1 t1].toArray n1) :: (D0, tupOf [Value.ref T0, Value.str x0 t0].toArray n0) :: LL)
theorem CompIs.sub {LL : List (Addr × Obj)} {T0 T1 : Nat} {x0 x1 : Str} {j tk : Nat} {ys : List Value} {nx : List (Addr × Obj)} (h : CompIs LL T0 T1 x0 x1 j tk ys nx) : ∀ p ∈ LL, p ∈ nx := by
  cases h with
  | nil => exact fun _ h => h
  | one => exact fun _ h => .tail _ h
  | two => exact fun _ h => .tail _ (.tail _ h)
theorem CompIs.mono {LL : List (Addr × Obj)} {T0 T1 : Nat} {x0 x1 : Str} {j tk tk' : Nat} {ys : List Value} {nx : List (Addr × Obj)} (h : CompIs LL T0 T1 x0 x1 j tk ys nx) (hle : tk ≤ tk') : CompIs LL T0 T1 x0 x1 j tk' ys nx := by
  cases h with
  | nil => exact .nil
  | one h => exact .one ⟨h.1, Nat.lt_of_lt_of_le h.2 hle⟩
  | two h k => exact .two ⟨h.1, Nat.lt_of_lt_of_le h.2 hle⟩ ⟨k.1, Nat.lt_of_lt_of_le k.2 hle⟩
theorem draw_tail {w : World} {dp un : Nat} {gd : Option (List Code)} {outer : List Env} {A₀ : Around} {base h₀ : Heap} {L : Addr} {m : Str → Option Value}
    {s : Shared} {Q : Flow → Shared → Prop} {E : Value → Shared → Prop} {mean : ExcName → Option Value} {mg mb : Str → Option Value}
    {Pr Em Sg nPr nEm nSg : Nat} {emv sgv : List Value} {s0 s1 : Str} {d : DS} {i : Nat} {nx : List (Addr × Obj)}
    (B : Below A₀ base outer h₀) (X : (hd.heap_39 w.params).In h₀) (Tp : Top hd.view_39 (looseW hd.view_39 []) mean mg mb h₀)
    (F : Fr h₀ L s.heap m) (N : News h₀ L s.heap nx) (K : DrawIs Pr Em Sg nPr nEm nSg emv sgv s0 s1 d i s.toks m nx) (hi : i ≤ 20) (htk : 1 ≤ s.toks)
    (hd : dp + 5 < recursionLimit) (hu : un + 50 < cLine)
    (hret : ∀ (h' : Heap) (m' : Str → Option Value) (tk' D D0 D1 T0 T1 nD n0 n1 a0 a1 t0 t1 : Nat) (vs0 vs1 : List Value) (cl0 cl1 : List (Addr × Obj)), Fr h₀ L h' m' →
      News h₀ L h' ((D, listOf [Value.ref D0, Value.ref D1].toArray nD) :: (D0, tupOf [Value.ref T0, Value.str (Txt.join (Str.ofString "\n") (PS.fin s0 d.p0).rows) t0].toArray n0) :: (D1, tupOf [Value.ref T1, Value.str (Txt.join (Str.ofString "\n") (PS.fin s1 d.p1).rows) t1].toArray n1) :: (T0, listOf vs0.toArray a0) :: (T1, listOf vs1.toArray a1) :: (cl0 ++ cl1)) →
      DatAll cl0 vs0 (PS.fin s0 d.p0).top → DatAll cl1 vs1 (PS.fin s1 d.p1).top → 1 ≤ t0 ∧ t0 < tk' → 1 ≤ t1 ∧ t1 < tk' → s.toks ≤ tk' → Q (.ret (.ref D)) { s with heap := h', toks := tk' }) :
    wpAny (model prg w) (ktrTop dp un gd (Str.ofString "_law_draw") drawScope L 47 (.ref 46) [] outer) (execs drawRest (drawEnv L)) Q E s := by
  refine wpAny_noE ?_
  obtain ⟨sh, sgn, sdr, stk, sos⟩ := s
  dsimp only at F N K htk hret
  obtain ⟨p0, p1, ta, ti, u, rfl, hA, hp0, hp1, rfl, rfl, hat, hb0, hb1, rfl⟩ := K
  conv in (execs _ _) => arg 1; whnf
  unfold mDraw at F
  try k_fold
  k_steps
  refine unstop ?_
  refine wpAny_For ?_
  walk1
  have N1 : News h₀ L sh ((Pr, listOf [Value.ref p0.P, Value.ref p1.P].toArray nPr) :: (p0.objs ++ p1.objs)) := fun p hp => N p (by
    rcases List.mem_cons.mp hp with rfl | hp
    · exact .head _
    · exact .tail _ (.tail _ (.tail _ hp)))
  have hA1 : Apart ((Pr, listOf [Value.ref p0.P, Value.ref p1.P].toArray nPr) :: (p0.objs ++ p1.objs)) := by
    simp only [apart_cons, List.forall_mem_cons] at hA ⊢
    exact ⟨hA.1.2.2, hA.2.2.2⟩
  refine iter_tk (h₀ := h₀) (vs := [Value.ref p0.P, Value.ref p1.P]) (news := (Pr, listOf [Value.ref p0.P, Value.ref p1.P].toArray nPr) :: (p0.objs ++ p1.objs))
    (K := fun j tk m nx => EndIs Pr nPr p0.P p1.P p0.step p1.step (if 1 ≤ j then PS.fin p0.step d.p0 else d.p0) (if 2 ≤ j then PS.fin p1.step d.p1 else d.p1) tk m nx) rfl rfl rfl (News.isList N (.head _)) ?hst ?mono F N1 ?hk ?turn ?done noPass
  case hst =>
    rintro j tk m nx h ⟨q0, q1, u', rfl, _⟩ _ N'
    exact News.isList N' (.head _)
  case mono =>
    rintro j tk tk' m nx hle ⟨q0, q1, u', h1, h2, h3, h4, h5, h6, h7⟩
    exact ⟨q0, q1, u', h1, h2, h3, h4, h5.mono hle, h6.mono hle, h7⟩
  case hk =>
    refine ⟨p0, p1, _, rfl, hA1, ⟨rfl, rfl⟩, ⟨rfl, rfl⟩, hp0.mono ?_, hp1.mono ?_, mPair_of rfl⟩
    · dsimp only; omega
    · dsimp only; omega
  case turn =>
    rintro j v tk m₁ nx h oI hv ⟨q0, q1, u', rfl, hA2, ⟨hP0, hS0⟩, ⟨hP1, hS1⟩, hI0, hI1, rfl⟩ hoff F2 N2 hle
    have hA3 : Apart ((sh.objs.size, oI) :: (Pr, listOf [Value.ref p0.P, Value.ref p1.P].toArray nPr) :: (q0.objs ++ q1.objs)) := apart_cons.mpr ⟨hoff, hA2⟩
    have hle' : stk ≤ tk := hle
    have b0 := hb0.stk
    have b1 := hb1.stk
    rcases j with _ | _ | j
    · have ev : v = Value.ref q0.P := by rw [hP0]; simpa using hv.symm
      subst ev
      have pm : ((sh.objs.size, oI) :: (Pr, listOf [Value.ref p0.P, Value.ref p1.P].toArray nPr) :: (q0.objs ++ q1.objs)).Perm (q0.objs ++ (sh.objs.size, oI) :: (Pr, listOf [Value.ref p0.P, Value.ref p1.P].toArray nPr) :: q1.objs) := by
        refine List.Perm.trans (.cons _ List.perm_middle.symm) List.perm_middle.symm
      refine close_all (p := q0) (st := d.p0) (rest := (sh.objs.size, oI) :: (Pr, listOf [Value.ref p0.P, Value.ref p1.P].toArray nPr) :: q1.objs) (k := i) B X Tp F2 (fun p hp => N2 p (pm.mem_iff.mpr hp)) (apart_perm hA3 pm) hI0 hb0 (by omega) (by show 1 ≤ tk; walk_at "m le") hd hu ?_
      intro h' tk' p' F' N' A' hP' hS' hI' hle2
      have pm' : (p'.objs ++ (sh.objs.size, oI) :: (Pr, listOf [Value.ref p0.P, Value.ref p1.P].toArray nPr) :: q1.objs).Perm ((sh.objs.size, oI) :: (Pr, listOf [Value.ref p0.P, Value.ref p1.P].toArray nPr) :: (p'.objs ++ q1.objs)) := by
        refine List.Perm.trans List.perm_middle (.cons _ List.perm_middle)
      have A2 := apart_perm A' pm'
      obtain ⟨w1, w2⟩ := apart_cons.mp A2
      refine ⟨h', tk', _, _, rfl, F', (fun p hp => N' p (pm'.mem_iff.mpr hp)), w1, p', q1, _, rfl, w2, ⟨hP'.trans hP0, hS'.trans hS0⟩, ⟨hP1, hS1⟩, ?_, hI1.mono hle2, mPair_of rfl⟩
      rw [hS0] at hI'
      exact hI'
    · have ev : v = Value.ref q1.P := by rw [hP1]; simpa using hv.symm
      subst ev
      have pm : ((sh.objs.size, oI) :: (Pr, listOf [Value.ref p0.P, Value.ref p1.P].toArray nPr) :: (q0.objs ++ q1.objs)).Perm (q1.objs ++ (sh.objs.size, oI) :: (Pr, listOf [Value.ref p0.P, Value.ref p1.P].toArray nPr) :: q0.objs) := by
        refine List.Perm.trans (.cons _ (.cons _ List.perm_append_comm)) (List.Perm.trans (.cons _ List.perm_middle.symm) List.perm_middle.symm)
      refine close_all (p := q1) (st := d.p1) (rest := (sh.objs.size, oI) :: (Pr, listOf [Value.ref p0.P, Value.ref p1.P].toArray nPr) :: q0.objs) (k := i) B X Tp F2 (fun p hp => N2 p (pm.mem_iff.mpr hp)) (apart_perm hA3 pm) hI1 hb1 (by omega) (by show 1 ≤ tk; walk_at "m le") hd hu ?_
      intro h' tk' p' F' N' A' hP' hS' hI' hle2
      have pm' : (p'.objs ++ (sh.objs.size, oI) :: (Pr, listOf [Value.ref p0.P, Value.ref p1.P].toArray nPr) :: q0.objs).Perm ((sh.objs.size, oI) :: (Pr, listOf [Value.ref p0.P, Value.ref p1.P].toArray nPr) :: (q0.objs ++ p'.objs)) := by
        refine List.Perm.trans (List.Perm.trans List.perm_middle (.cons _ List.perm_middle)) (.cons _ (.cons _ List.perm_append_comm))
      have A2 := apart_perm A' pm'
      obtain ⟨w1, w2⟩ := apart_cons.mp A2
      refine ⟨h', tk', _, _, rfl, F', (fun p hp => N' p (pm'.mem_iff.mpr hp)), w1, q0, p', _, rfl, w2, ⟨hP0, hS0⟩, ⟨hP'.trans hP1, hS'.trans hS1⟩, hI0.mono hle2, ?_, mPair_of rfl⟩
      rw [hS1] at hI'
      exact hI'
    · simp at hv
  case done =>
    rintro m₁ nx h tk ⟨⟨P0, O0, R0, nP0, nO0, nR0, T0, st0, tS0, ls0, b0, its0, nb0, cl0, rs0⟩, ⟨P1, O1, R1, nP1, nO1, nR1, T1, st1, tS1, ls1, b1, its1, nb1, cl1, rs1⟩, u', rfl, hA2, ⟨hP0, hS0⟩, ⟨hP1, hS1⟩, hI0, hI1, rfl⟩ F2 N2 hle
    have hle' : stk ≤ tk := hle
    dsimp only at hP0 hP1 hS0 hS1
    replace hI0 : PR.Is ⟨P0, O0, R0, nP0, nO0, nR0, T0, st0, tS0, ls0, b0, its0, nb0, cl0, rs0⟩ (PS.fin p0.step d.p0) tk := hI0
    replace hI1 : PR.Is ⟨P1, O1, R1, nP1, nO1, nR1, T1, st1, tS1, ls1, b1, its1, nb1, cl1, rs1⟩ (PS.fin p1.step d.p1) tk := hI1
    obtain ⟨v1, v2, v3, v4, v5⟩ := hI0
    obtain ⟨w1, w2, w3, w4, w5⟩ := hI1
    dsimp only at v1 v2 v3 v4 v5 w1 w2 w3 w4 w5
    have z0 : (PS.fin p0.step d.p0).stk = [] := fin_stk p0.step _ _ rfl
    have z1 : (PS.fin p1.step d.p1).stk = [] := fin_stk p1.step _ _ rfl
    rw [z0] at v1
    rw [z1] at w1
    cases v1
    cases w1
    have g0 := fin_bnd p0.step hp0.step _ d.p0 i rfl hb0 (by have := hb0.stk; omega)
    have g1 := fin_bnd p1.step hp1.step _ d.p1 i rfl hb1 (by have := hb1.stk; omega)
    have r0 : ∀ x ∈ (PS.fin p0.step d.p0).rows, x.length ≤ 1200 := g0.row
    have r1 : ∀ x ∈ (PS.fin p1.step d.p1).rows, x.length ≤ 1200 := g1.row
    have c0 : (PS.fin p0.step d.p0).rows.length ≤ 1000 := by have := g0.rows; have := hb0.stk; show (PS.closeN p0.step d.p0.stk.length d.p0).rows.length ≤ 1000; omega
    have c1 : (PS.fin p1.step d.p1).rows.length ≤ 1000 := by have := g1.rows; have := hb1.stk; show (PS.closeN p1.step d.p1.stk.length d.p1).rows.length ≤ 1000; omega
    clear g0 g1
    simp only [PR.objs, PR.head, PR.tree, levObjs, refsOf, List.map_nil, List.nil_append, List.cons_append, List.append_assoc] at N2
    simp only [nextA] at v4 w4
    subst v4 w4 hS0 hS1
    have F3 : Fr h₀ L h (fun y => if y = Str.ofString "pair" then some (.ref Pr) else u' y) := F2
    have N3 : News h₀ L h ((Pr, listOf [Value.ref P0, Value.ref P1].toArray nPr) :: (P0, tupOf [Value.ref T0, Value.ref O0, Value.ref R0, Value.str p0.step tS0].toArray nP0) :: (R0, listOf rs0.toArray nR0) :: (P1, tupOf [Value.ref T1, Value.ref O1, Value.ref R1, Value.str p1.step tS1].toArray nP1) :: (R1, listOf rs1.toArray nR1) :: (T0, listOf its0.toArray nb0) :: (T1, listOf its1.toArray nb1) :: (cl0 ++ cl1)) := by
      intro p hp
      refine N2 p ?_
      rw [← hP0, ← hP1]
      simp only [List.mem_cons, List.mem_append] at hp ⊢
      grind
    clear F2 N2 F N N1 hA hA1 hA2 hp0 hp1
    dsimp only
    try k_fold
    k_steps
    refine unstop ?_
    generalize hLL : ((Pr, listOf [Value.ref P0, Value.ref P1].toArray nPr) :: (P0, tupOf [Value.ref T0, Value.ref O0, Value.ref R0, Value.str p0.step tS0].toArray nP0) :: (R0, listOf rs0.toArray nR0) :: (P1, tupOf [Value.ref T1, Value.ref O1, Value.ref R1, Value.str p1.step tS1].toArray nP1) :: (R1, listOf rs1.toArray nR1) :: (T0, listOf its0.toArray nb0) :: (T1, listOf its1.toArray nb1) :: (cl0 ++ cl1) : List (Addr × Obj)) = LL at N3
    have hPr : (Pr, listOf [Value.ref P0, Value.ref P1].toArray nPr) ∈ LL := by rw [← hLL]; exact .head _
    refine comp_tk (h₀ := h₀) (L := L) (l := Pr) (vs := [Value.ref P0, Value.ref P1]) (news := LL) (K := fun j tk ys nx => CompIs LL T0 T1 (Txt.join (Str.ofString "\n") (PS.fin p0.step d.p0).rows) (Txt.join (Str.ofString "\n") (PS.fin p1.step d.p1).rows) j tk ys nx) rfl (closureFor_none (by decide)) (by decide) rfl (by decide) rfl (by intro _; rfl) (fun Q' h9 => ld F3 rfl h9) (News.isList N3 hPr) (by simp) ?hst ?mono F3 N3 ?hk ?turn ?done
    case hst =>
      intro j tk ys nx h K' _ N'
      exact News.isList N' (K'.sub _ hPr)
    case mono =>
      intro j tk tk' ys nx hle K'
      exact K'.mono hle
    case hk => exact .nil
    case turn =>
      intro j v tk ys nx h I oI C oC D m₂ hv K' hC hm F' N' off ne hle9
      dsimp only at hle9
      clear F3 N3
      cases K' with
      | nil =>
        have ev : v = Value.ref P0 := by simpa using hv.symm
        subst ev
        subst hLL
        refine wpAny_q fun QQ hQQ => ?_
        try k_fold
        k_steps
        subst hQQ
        rename News h₀ L _ _ => eN
        rename Fr h₀ L _ _ => eF
        refine ⟨_, _, (_, tupOf [Value.ref T0, Value.str (Txt.join (Str.ofString "\n") (PS.fin p0.step d.p0).rows) _].toArray 0) :: _, rfl, eF, cb_drop eN ?_, ?_, .one (by omega)⟩
        · intro p hp
          simp only [List.mem_cons, List.mem_append] at hp ⊢
          grind
        · exact ⟨⟨by omega, by omega, by omega⟩, off⟩
      | @one _ D0 t0 n0 hT =>
        have ev : v = Value.ref P1 := by simpa using hv.symm
        subst ev
        subst hLL
        refine wpAny_q fun QQ hQQ => ?_
        try k_fold
        k_steps
        subst hQQ
        rename News h₀ L _ _ => eN
        rename Fr h₀ L _ _ => eF
        refine ⟨_, _, (_, tupOf [Value.ref T1, Value.str (Txt.join (Str.ofString "\n") (PS.fin p1.step d.p1).rows) _].toArray 0) :: _, rfl, eF, cb_drop eN ?_, ?_, .two (t0 := t0) (n0 := n0) ⟨hT.1, by have := hT.2; dsimp only; omega⟩ (by dsimp only; omega)⟩
        · intro p hp
          simp only [List.mem_cons, List.mem_append] at hp ⊢
          grind
        · exact ⟨⟨by omega, by omega, by omega⟩, off⟩
      | two hT hT' => simp at hv
    case done =>
      intro tk ys nx h D K' F' N' off hle9
      cases K' with
      | @two _ D0 t0 n0 D1 t1 n1 hT hT' =>
        dsimp only at hle9
        subst hLL
        refine hret h _ tk D D0 D1 T0 T1 2 n0 n1 nb0 nb1 t0 t1 its0 its1 cl0 cl1 F' (fun p hp => N' p ?_) v2 w2 hT hT' (by walk_at "m le")
        rcases List.mem_cons.mp hp with rfl | hp
        · exact .head _
        refine .tail _ ?_
        rcases List.mem_cons.mp hp with rfl | hp
        · exact .tail _ (.head _)
        rcases List.mem_cons.mp hp with rfl | hp
        · exact .head _
        exact .tail _ (.tail _ (.tail _ (.tail _ (.tail _ (.tail _ (.tail _ hp))))))
end
noncomputable def step0 (n0 : Int) : Str := at_ stepsL (Int.fmod n0 4)
noncomputable def step1 (n0 : Int) : Str := at_ stepsL (Int.fmod (Int.fdiv n0 4) 4)
noncomputable def drawAll (n0 : Int) (ns : List Int) : DS := drawn (step0 n0) (step1 n0) ⟨PS.nil, PS.nil, Int.fmod (Int.fdiv n0 16) 2⟩ 0 (n0 :: ns)
noncomputable def fin0 (n0 : Int) (ns : List Int) : PS := PS.fin (step0 n0) (drawAll n0 ns).p0
noncomputable def fin1 (n0 : Int) (ns : List Int) : PS := PS.fin (step1 n0) (drawAll n0 ns).p1
noncomputable def drawText0 (n0 : Int) (ns : List Int) : Str := Txt.join (Str.ofString "\n") (fin0 n0 ns).rows
noncomputable def drawText1 (n0 : Int) (ns : List Int) : Str := Txt.join (Str.ofString "\n") (fin1 n0 ns).rows
theorem off_new {h₀ h : Heap} {L : Addr} {nx : List (Addr × Obj)} {a : Nat} (hn : h.get? a = none) (N : News h₀ L h nx) : ∀ p ∈ nx, @Ne Nat a p.1 := by
  intro p hp e
  have := (N p hp).1
  rw [← e, hn] at this
  cases this
theorem intsAre_at {vs : List Value} {ns : List Int} (h : IntsAre vs ns) {i : Nat} {v : Value} (hv : vs[i]? = some v) : ∃ n t, v = .int n t ∧ ns[i]? = some n := by
  induction h generalizing i with
  | nil => simp at hv
  | cons n t _ ih =>
    cases i with
    | zero => simp at hv; exact ⟨n, t, hv.symm, rfl⟩
    | succ i => simp at hv; simpa using ih hv
theorem drawn_take {s0 s1 : Str} {d : DS} {l : List Int} {i : Nat} {n : Int} (h : l[i]? = some n) : drawn s0 s1 d 0 (l.take (i + 1)) = (drawn s0 s1 d 0 (l.take i)).step s0 s1 ((i : Int) + 1) n := by
  rw [List.take_succ, h]
  have := drawn_append s0 s1 (l.take i) n d 0
  have hl : (l.take i).length = i := by
    rw [List.length_take]
    have := (List.getElem?_eq_some_iff.mp h).1
    omega
  rw [hl] at this
  simpa using this
theorem steps_len : ∀ x ∈ stepsL, x.length < 10 := by decide +kernel
theorem nil_bnd : PS.nil.Bnd 0 := ⟨Nat.le_refl _, Nat.le_refl _, (fun p hp => nomatch hp), Nat.le_refl _, (fun p hp => nomatch hp)⟩
theorem pick_in {ps : List (Str × Nat)} {l : List Str} {k : Int} {x : Str} {t : Nat} (h : ps[k.toNat]? = some (x, t)) (e : ps.map (·.1) = l) : x ∈ l := by
  rw [← e]
  exact List.mem_map.mpr ⟨_, List.mem_of_getElem? h, rfl⟩
theorem four_of {y P0 O0 R0 T0 Sg Em : Nat} {oP oO oR oT oS oE : Obj} {r : List (Addr × Obj)} (h : ∀ p ∈ ((P0, oP) :: (O0, oO) :: (R0, oR) :: (T0, oT) :: (Sg, oS) :: (Em, oE) :: r : List (Addr × Obj)), @Ne Nat y p.1) :
    (@Ne Nat y Em ∧ @Ne Nat y Sg) ∧ @Ne Nat y P0 ∧ @Ne Nat y O0 ∧ @Ne Nat y R0 ∧ @Ne Nat y T0 :=
  ⟨⟨h _ (.tail _ (.tail _ (.tail _ (.tail _ (.tail _ (.head _)))))), h _ (.tail _ (.tail _ (.tail _ (.tail _ (.head _)))))⟩, h _ (.head _), h _ (.tail _ (.head _)), h _ (.tail _ (.tail _ (.head _))), h _ (.tail _ (.tail _ (.tail _ (.head _))))⟩
theorem apart_eleven {Pr Em Sg P0 O0 R0 T0 P1 O1 R1 T1 : Nat} {a1 a2 a3 a4 a5 a6 a7 a8 a9 a10 a11 : Obj} (hPr : ∀ y ∈ [Em, Sg, P0, O0, R0, T0, P1, O1, R1, T1], @Ne Nat y Pr) (hE : @Ne Nat Sg Em) (h0 : ∀ y ∈ [P0, O0, R0, T0], @Ne Nat y Em ∧ @Ne Nat y Sg) (h1 : ∀ y ∈ [P1, O1, R1, T1], @Ne Nat y Em ∧ @Ne Nat y Sg)
    (h2 : ∀ y ∈ [P1, O1, R1, T1], @Ne Nat y P0 ∧ @Ne Nat y O0 ∧ @Ne Nat y R0 ∧ @Ne Nat y T0) (l0 : T0 < O0 ∧ O0 < R0 ∧ R0 < P0) (l1 : T1 < O1 ∧ O1 < R1 ∧ R1 < P1) :
    Apart [(Pr, a1), (Em, a2), (Sg, a3), (P0, a4), (O0, a5), (R0, a6), (T0, a7), (P1, a8), (O1, a9), (R1, a10), (T1, a11)] := by
  have n4 : ∀ {p o r t : Nat}, t < o ∧ o < r ∧ r < p → [p, o, r, t].Nodup := by
    intro p o r t h
    simp only [List.nodup_cons, List.mem_cons, List.not_mem_nil, or_false, not_or]
    exact ⟨⟨Nat.ne_of_gt (Nat.lt_trans h.2.1 h.2.2), Nat.ne_of_gt h.2.2, Nat.ne_of_gt (Nat.lt_trans h.1 (Nat.lt_trans h.2.1 h.2.2))⟩, ⟨Nat.ne_of_lt h.2.1, Nat.ne_of_gt h.1⟩, Nat.ne_of_gt (Nat.lt_trans h.1 h.2.1), not_false, List.nodup_nil⟩
  show (Pr :: Em :: Sg :: ([P0, O0, R0, T0] ++ [P1, O1, R1, T1]) : List Nat).Nodup
  have hs : ∀ y ∈ ([P0, O0, R0, T0] ++ [P1, O1, R1, T1] : List Nat), @Ne Nat y Em ∧ @Ne Nat y Sg := fun y hy => (List.mem_append.mp hy).elim (h0 y) (h1 y)
  refine List.nodup_cons.mpr ⟨fun q => hPr Pr q rfl, List.nodup_cons.mpr ⟨fun q => ?_, List.nodup_cons.mpr ⟨fun q => (hs Sg q).2 rfl, List.nodup_append.mpr ⟨n4 l0, n4 l1, fun x hx y hy e => ?_⟩⟩⟩⟩
  · rcases List.mem_cons.mp q with e | q
    · exact hE e.symm
    · exact (hs Em q).1 rfl
  · have := h2 y hy
    rw [← e] at this
    simp only [List.mem_cons, List.not_mem_nil, or_false] at hx
    rcases hx with rfl | rfl | rfl | rfl
    · exact this.1 rfl
    · exact this.2.1 rfl
    · exact this.2.2.1 rfl
    · exact this.2.2.2 rfl
theorem draw_spec {w : World} {dp un : Nat} {gd : Option (List Code)} {cn : Str} {cs : Scope} {a : Addr} {ccd : Value} {cl : List (Str × Addr)} {outer : List Env} {A₀ : Around} {base h₀ : Heap} {L : Addr} {m : Str → Option Value}
    {s : Shared} {Q E : Value → Shared → Prop} {mean : ExcName → Option Value} {mg mb : Str → Option Value}
    {nl : Addr} {vs : List Value} {n0 : Int} {ns : List Int}
    (B : Below A₀ base outer h₀) (F : Fr h₀ L s.heap m) (X : (hd.heap_39 w.params).In h₀)
    (Tp : Top hd.view_39 (looseW hd.view_39 []) mean mg mb h₀) (hk : cs.kind = .function)
    (hl : s.heap.IsList nl vs.toArray) (hi : IntsAre vs (n0 :: ns)) (hlen : ns.length < 20) (htk : 1 ≤ s.toks)
    (hd : dp + 10 < recursionLimit) (hu : un + 100 < cLine)
    (hret : ∀ (h' : Heap) (tk' D D0 D1 T0 T1 nD k0 k1 a0 a1 t0 t1 : Nat) (vs0 vs1 : List Value) (cl0 cl1 : List (Addr × Obj)), Fr h₀ L h' m →
      News h₀ L h' ((D, listOf [Value.ref D0, Value.ref D1].toArray nD) :: (D0, tupOf [Value.ref T0, Value.str (drawText0 n0 ns) t0].toArray k0) :: (D1, tupOf [Value.ref T1, Value.str (drawText1 n0 ns) t1].toArray k1) :: (T0, listOf vs0.toArray a0) :: (T1, listOf vs1.toArray a1) :: (cl0 ++ cl1)) →
      DatAll cl0 vs0 (fin0 n0 ns).top → DatAll cl1 vs1 (fin1 n0 ns).top → 1 ≤ t0 ∧ t0 < tk' → 1 ≤ t1 ∧ t1 < tk' → s.toks ≤ tk' → GSub s.heap h' [] → (∀ p ∈ ((D, listOf [Value.ref D0, Value.ref D1].toArray nD) :: (D0, tupOf [Value.ref T0, Value.str (drawText0 n0 ns) t0].toArray k0) :: (D1, tupOf [Value.ref T1, Value.str (drawText1 n0 ns) t1].toArray k1) :: (T0, listOf vs0.toArray a0) :: (T1, listOf vs1.toArray a1) :: (cl0 ++ cl1) : List (Addr × Obj)), s.heap.get? p.1 = none) → Q (.ref D) { s with heap := h', toks := tk' }) :
    wpAny (model prg w) (ktrTop dp un gd cn cs L a ccd cl outer) (call (.ref 47) [.ref nl]) Q E s := by
  have N : News h₀ L s.heap [] := News.nil
  refine wpAny_call ?_
  walk_at "m enter"
  intro g' L' h1 FG1 F1 N1 B1 X1 T1 G1
  try dsimp only
  refine gentoksA ?_
  intro tk0 htk0
  try k_fold
  have gl : g'.IsList nl vs.toArray := by
    obtain ⟨o, ho, r⟩ := hl
    exact ⟨o, G1 _ _ ho notin_nil, r⟩
  k_steps
  rename News g' L' _ _ => N2
  rename Fr g' L' _ _ => F2
  rename_i St h12 lt4' l14' h11 tkE htkE Em h10 lt3' l13' h9 tkG htkG Sg h8 lt2' l12' h7 tk3' htk3' t2' h6 tk2' htk2' x0 tx0 hx0 hxl0
  have N2 : News g' L' _ [(Sg, listOf (sgVals tkG).toArray 0), (Em, listOf (emVals tkE).toArray 0), (St, listOf [Value.str (Str.ofString " ") _, Value.str (Str.ofString "  ") _, Value.str (Str.ofString "   ") _, Value.str (Str.ofString "\t") _].toArray 0)] := N2
  k_dflt (refine' new_spec B1 F2 X1 T1 ?hk ?d ?u ?_)
  case hk => rfl
  case d => exact room (a := 2) hd (by decide)
  case u => exact room (a := 11) hu (by decide)
  intro h3 P0 T0 O0 R0 tk3 nP0 nT0 nO0 nR0 F3 N3 fr3 lt3 G3 hle3
  dsimp only at fr3 G3 hle3
  have N4 := news_app N3 (news_all N2 G3)
  dsimp only [List.cons_append, List.nil_append] at N4
  clear F2
  k_steps
  rename Fr g' L' _ _ => F4
  rename_i x1 tx1 hx1 hxl1
  k_dflt (refine' new_spec B1 F4 X1 T1 ?hk ?d ?u ?_)
  case hk => rfl
  case d => exact room (a := 2) hd (by decide)
  case u => exact room (a := 11) hu (by decide)
  intro h5 P1 T1' O1 R1 tk5 nP1 nT1 nO1 nR1 F5 N5 fr5 lt5 G5 hle5
  dsimp only at fr5 G5 hle5
  have N6 := news_app N5 (news_all N4 G5)
  dsimp only [List.cons_append, List.nil_append] at N6
  clear F4
  have o3 := off_new (a := P0) fr3.1 N2
  have o3b := off_new (a := O0) fr3.2.1 N2
  have o3c := off_new (a := R0) fr3.2.2.1 N2
  have o3d := off_new (a := T0) fr3.2.2.2 N2
  have o5 := off_new (a := P1) fr5.1 N4
  have o5b := off_new (a := O1) fr5.2.1 N4
  have o5c := off_new (a := R1) fr5.2.2.1 N4
  have o5d := off_new (a := T1') fr5.2.2.2 N4
  have hES : Off Em Sg := by (try clear o3 o3b o3c o3d o5 o5b o5c o5d); (show @Ne Nat Em Sg); omega
  have hb0 : ∀ y ∈ [P0, O0, R0, T0], @Ne Nat y Em ∧ @Ne Nat y Sg := List.forall_mem_cons.mpr ⟨⟨o3 _ (.tail _ (.head _)), o3 _ (.head _)⟩, List.forall_mem_cons.mpr ⟨⟨o3b _ (.tail _ (.head _)), o3b _ (.head _)⟩, List.forall_mem_cons.mpr ⟨⟨o3c _ (.tail _ (.head _)), o3c _ (.head _)⟩, List.forall_mem_cons.mpr ⟨⟨o3d _ (.tail _ (.head _)), o3d _ (.head _)⟩, List.forall_mem_nil _⟩⟩⟩⟩
  have q5 := four_of o5
  have q5b := four_of o5b
  have q5c := four_of o5c
  have q5d := four_of o5d
  have hb1 : ∀ y ∈ [P1, O1, R1, T1'], @Ne Nat y Em ∧ @Ne Nat y Sg := List.forall_mem_cons.mpr ⟨q5.1, List.forall_mem_cons.mpr ⟨q5b.1, List.forall_mem_cons.mpr ⟨q5c.1, List.forall_mem_cons.mpr ⟨q5d.1, List.forall_mem_nil _⟩⟩⟩⟩
  have h10 : ∀ y ∈ [P1, O1, R1, T1'], @Ne Nat y P0 ∧ @Ne Nat y O0 ∧ @Ne Nat y R0 ∧ @Ne Nat y T0 := List.forall_mem_cons.mpr ⟨q5.2, List.forall_mem_cons.mpr ⟨q5b.2, List.forall_mem_cons.mpr ⟨q5c.2, List.forall_mem_cons.mpr ⟨q5d.2, List.forall_mem_nil _⟩⟩⟩⟩
  clear N2 N4 fr3 fr5 o3 o3b o3c o3d o5 o5b o5c o5d q5 q5b q5c q5d
  k_steps
  refine unstop ?_
  refine wpAny_noE ?_
  refine wpAny_For ?_
  walk1
  rename News g' L' _ _ => N7
  rename Fr g' L' _ _ => F7
  rename_i Pr h5' ltP l1P h4' tkP htkP D' h3' ltD l1D h2' h1' h0' tkF htkF
  have hPr : ∀ y ∈ [Em, Sg, P0, O0, R0, T0, P1, O1, R1, T1'], @Ne Nat y Pr := List.forall_mem_cons.mpr ⟨Nat.ne_of_lt (ltP _ (.tail _ (.tail _ (.tail _ (.tail _ (.tail _ (.tail _ (.tail _ (.tail _ (.tail _ (.head _))))))))))), List.forall_mem_cons.mpr ⟨Nat.ne_of_lt (ltP _ (.tail _ (.tail _ (.tail _ (.tail _ (.tail _ (.tail _ (.tail _ (.tail _ (.head _)))))))))), List.forall_mem_cons.mpr ⟨Nat.ne_of_lt (ltP _ (.tail _ (.tail _ (.tail _ (.tail _ (.head _)))))), List.forall_mem_cons.mpr ⟨Nat.ne_of_lt (ltP _ (.tail _ (.tail _ (.tail _ (.tail _ (.tail _ (.head _))))))), List.forall_mem_cons.mpr ⟨Nat.ne_of_lt (ltP _ (.tail _ (.tail _ (.tail _ (.tail _ (.tail _ (.tail _ (.head _)))))))), List.forall_mem_cons.mpr ⟨Nat.ne_of_lt (ltP _ (.tail _ (.tail _ (.tail _ (.tail _ (.tail _ (.tail _ (.tail _ (.head _))))))))), List.forall_mem_cons.mpr ⟨Nat.ne_of_lt (ltP _ (.head _)), List.forall_mem_cons.mpr ⟨Nat.ne_of_lt (ltP _ (.tail _ (.head _))), List.forall_mem_cons.mpr ⟨Nat.ne_of_lt (ltP _ (.tail _ (.tail _ (.head _)))), List.forall_mem_cons.mpr ⟨Nat.ne_of_lt (ltP _ (.tail _ (.tail _ (.tail _ (.head _))))), List.forall_mem_nil _⟩⟩⟩⟩⟩⟩⟩⟩⟩⟩
  have es0 : step0 n0 = x0 := pick_at (l := stepsL) hx0 rfl
  have es1 : step1 n0 = x1 := pick_at (l := stepsL) hx1 rfl
  have ex0 := steps_len _ (pick_in (l := stepsL) hx0 rfl)
  have ex1 := steps_len _ (pick_in (l := stepsL) hx1 rfl)
  clear hx0 hx1 ltP ltD lt4' lt3' lt2' G3 G5
  refine iter_tk (h₀ := g') (vs := vs) (news := (Pr, listOf [Value.ref P0, Value.ref P1].toArray 0) :: (Em, listOf (emVals tkE).toArray 0) :: (Sg, listOf (sgVals tkG).toArray 0) :: (P0, tupOf [Value.ref T0, Value.ref O0, Value.ref R0, Value.str x0 tx0].toArray nP0) :: (O0, listOf [Value.ref T0].toArray nO0) :: (R0, listOf ([] : List Value).toArray nR0) :: (T0, listOf ([] : List Value).toArray nT0) :: (P1, tupOf [Value.ref T1', Value.ref O1, Value.ref R1, Value.str x1 tx1].toArray nP1) :: (O1, listOf [Value.ref T1'].toArray nO1) :: (R1, listOf ([] : List Value).toArray nR1) :: (T1', listOf ([] : List Value).toArray nT1) :: [])
    (K := fun j tk m nx => DrawIs Pr Em Sg 0 0 0 (emVals tkE) (sgVals tkG) x0 x1 (drawn x0 x1 ⟨PS.nil, PS.nil, Int.fmod (Int.fdiv n0 16) 2⟩ 0 ((n0 :: ns).take j)) j tk m nx) rfl rfl rfl (gl.at (F7.keep _)) ?hst ?mono F7 (cb_drop N7 (by walk_at "m sub")) ?hk ?turn ?done noPass
  case hst =>
    intro j tk m nx h _ F' _
    exact gl.at (F'.keep _)
  case mono =>
    intro j tk tk' m nx hle K'
    exact K'.mono hle
  case hk =>
    refine ⟨⟨P0, O0, R0, nP0, nO0, nR0, T0, x0, tx0, [], T0, [], nT0, [], []⟩, ⟨P1, O1, R1, nP1, nO1, nR1, T1', x1, tx1, [], T1', [], nT1, [], []⟩, _, _, _, rfl, ?_, ⟨.nil, .nil, .nil, rfl, ex0⟩, ⟨.nil, .nil, .nil, rfl, ex1⟩, rfl, rfl, ?_, nil_bnd, nil_bnd, mDraw_of rfl rfl rfl rfl rfl⟩
    · exact apart_eleven hPr (Off.ne' hES) hb0 hb1 h10 lt3 lt5
    · have h2 := Int.fmod_nonneg_of_pos (Int.fdiv n0 16) (b := 2) (by decide)
      have h3 := Int.fmod_lt_of_pos (Int.fdiv n0 16) (b := 2) (by decide)
      show Int.fmod (Int.fdiv n0 16) 2 = 0 ∨ Int.fmod (Int.fdiv n0 16) 2 = 1
      omega
  case turn =>
    intro j v tk m₁ nx h oI hv K' hoff F' N' hle
    obtain ⟨n, tn, rfl, hn⟩ := intsAre_at hi hv
    have hj := (List.getElem?_eq_some_iff.mp hn).1
    rw [List.length_cons] at hj
    have hle' : s.toks ≤ tk := by dsimp only at hle; walk_at "m le"
    rw [drawn_take hn]
    exact draw_step B1 X1 T1 F' N' hoff K' (by omega) (by walk_at "m le") (by dsimp only at hle; refine And.intro ?_ ?_ <;> walk_at "m le") (room (a := 6) hd (by decide)) (room (a := 53) hu (by decide))
  case done =>
    intro m₁ nx h tk K' F' N' hle
    have hvl := hi.length
    rw [hvl, List.take_length] at K'
    dsimp only
    try k_fold
    refine draw_tail B1 X1 T1 F' N' K' (by simp only [List.length_cons]; omega) (by dsimp only at hle ⊢; walk_at "m le") (room (a := 6) hd (by decide)) (room (a := 53) hu (by decide)) ?_
    intro h' m' tk' D D0 D1 T0 T1 nD k0 k1 a0 a1 t0 t1 vs0 vs1 cl0 cl1 F8 N8 hA0 hA1 ht0 ht1 hle8
    dsimp only at hle8 hle ⊢
    clear F' N' K'
    k_steps
    subst es0 es1
    rename News h₀ L _ _ => kN
    rename Fr h₀ L _ _ => kF
    refine hret _ _ D D0 D1 T0 T1 nD k0 k1 a0 a1 t0 t1 vs0 vs1 cl0 cl1 kF ?_ hA0 hA1 ht0 ht1 (by walk_at "m le") (gsub_end N G1 F8 kN ?_) (fun p hp => fresh_of G1 N8 hp notin_nil)
    · exact kN
    · exact fun p hp => nomatch hp
/-- the reader's state, as plain data -/
structure RS where
  leads : List Str
  stk : List (List Dat × Str)
  top : List Dat
  aw : Bool
  held : Str
noncomputable def RS.closeOne (st : RS) : RS := match st.stk.reverse with
  | [] => st
  | (ds, x) :: r => { st with stk := r.reverse, top := ds ++ [.tuple [.str x, .list st.top]] }
theorem RS.closeOne_snoc {l : List Str} {ps : List (List Dat × Str)} {ds tp : List Dat} {x : Str} {aw : Bool} {h : Str} : RS.closeOne ⟨l, ps ++ [(ds, x)], tp, aw, h⟩ = ⟨l, ps, ds ++ [.tuple [.str x, .list tp]], aw, h⟩ := by
  simp [RS.closeOne]
noncomputable def RS.closeN : Nat → RS → RS
  | 0, st => st
  | k + 1, st => RS.closeN k st.closeOne
/-- the end of a row: the text held is h -/
inductive FinIs (st : RS) (h : Str) : RS → Prop
  | keep {i j : Int} : (Txt.count h (Str.ofString "(") : Int) = i → (Txt.count h (Str.ofString ")") : Int) = j → i ≠ j → FinIs st h { st with held := h }
  | opn {i j : Int} : (Txt.count h (Str.ofString "(") : Int) = i → (Txt.count h (Str.ofString ")") : Int) = j → i = j → 1 ≤ h.length → Txt.item h (-1) = Str.ofString ":" → FinIs st h { st with stk := st.stk ++ [(st.top, h)], top := [], aw := true, held := Str.ofString "" }
  | put {i j : Int} {c : Str} : (Txt.count h (Str.ofString "(") : Int) = i → (Txt.count h (Str.ofString ")") : Int) = j → i = j → 1 ≤ h.length → Txt.item h (-1) = c → c ≠ Str.ofString ":" → FinIs st h { st with top := st.top ++ [.str h], held := Str.ofString "" }
inductive RdRow : RS → Str → RS → Prop
  | blank {st : RS} {row bare : Str} : Txt.lstripChars row (Str.ofString " \t") = bare → Txt.strip bare = Str.ofString "" → row.length ≤ 5000 → bare.length ≤ 5000 → RdRow st row st
  | hold {st st' : RS} {row bare y lead : Str} : Txt.lstripChars row (Str.ofString " \t") = bare → Txt.strip bare = y → 1 ≤ y.length → y.length ≤ 5000 → row.length ≤ 5000 → bare.length ≤ 5000 →
      Txt.slice row none (some ((row.length : Int) - (bare.length : Int))) = lead → 1 ≤ st.held.length → Txt.item st.held (-1) = Str.ofString "," → st.held.length ≤ 5000 → st.aw = false →
      FinIs { st with held := Str.ofString "" } (st.held ++ (Str.ofString " " ++ bare)) st' → RdRow st row st'
  | fresh {st st' : RS} {row bare y lead : Str} {A C : List Str} : Txt.lstripChars row (Str.ofString " \t") = bare → Txt.strip bare = y → 1 ≤ y.length → y.length ≤ 5000 → row.length ≤ 5000 → bare.length ≤ 5000 →
      Txt.slice row none (some ((row.length : Int) - (bare.length : Int))) = lead → st.held = Str.ofString "" → st.aw = false → st.leads = A ++ lead :: C → (∀ x ∈ C, x ≠ lead) →
      FinIs { RS.closeN C.length st with leads := A ++ [lead] } bare st' → RdRow st row st'
  | deep {st st' : RS} {row bare y lead l : Str} {A : List Str} : Txt.lstripChars row (Str.ofString " \t") = bare → Txt.strip bare = y → 1 ≤ y.length → y.length ≤ 5000 → row.length ≤ 5000 → bare.length ≤ 5000 →
      Txt.slice row none (some ((row.length : Int) - (bare.length : Int))) = lead → st.held = Str.ofString "" → st.aw = true → st.leads = A ++ [l] → lead ≠ l → Txt.startswith lead l = true →
      FinIs { st with leads := A ++ [l] ++ [lead], aw := false } bare st' → RdRow st row st'
inductive Rds : RS → List Str → RS → Prop
  | nil {st : RS} : Rds st [] st
  | cons {st st' st'' : RS} {row : Str} {rows : List Str} : RdRow st row st' → Rds st' rows st'' → Rds st (row :: rows) st''
structure RS.Bnd (st : RS) (k : Nat) : Prop where
  stk : st.stk.length ≤ k
  top : st.top.length ≤ k
  lev : ∀ p ∈ st.stk, p.1.length + 1 ≤ k
  leads : st.leads.length + (if st.aw then 1 else 0) = st.stk.length + 1
/-- the reader's state in the heap -/
structure RR where
  LA : Nat
  BA : Nat
  nL : Nat
  nB : Nat
  lv : List Value
  ls : List Lev
  b : Nat
  its : List Value
  nb : Nat
  cl : List (Addr × Obj)
noncomputable def RR.objs (r : RR) : List (Addr × Obj) := (r.LA, listOf r.lv.toArray r.nL) :: (r.BA, listOf (refsOf r.ls ++ [Value.ref r.b]).toArray r.nB) :: (levObjs r.ls r.b ++ (r.b, listOf r.its.toArray r.nb) :: r.cl)
structure RR.Is (r : RR) (T : Nat) (st : RS) : Prop where
  lev : LevDat r.cl r.ls st.stk
  top : DatAll r.cl r.its st.top
  leads : StrsAre r.lv st.leads
  bot : T = nextA r.ls r.b
noncomputable def mRead (T LA BA : Nat) (aw : Bool) (held : Str) (th : Nat) (u : Str → Option Value) : Str → Option Value := fun y =>
  if y = Str.ofString "tree" then some (.ref T) else if y = Str.ofString "leads" then some (.ref LA) else if y = Str.ofString "blocks" then some (.ref BA) else if y = Str.ofString "awaited" then some (.bool aw) else if y = Str.ofString "held" then some (.str held th) else u y
theorem mRead_of {T LA BA : Nat} {aw : Bool} {held : Str} {th : Nat} {m : Str → Option Value} (h1 : m (Str.ofString "tree") = some (.ref T)) (h2 : m (Str.ofString "leads") = some (.ref LA)) (h3 : m (Str.ofString "blocks") = some (.ref BA)) (h4 : m (Str.ofString "awaited") = some (.bool aw)) (h5 : m (Str.ofString "held") = some (.str held th)) :
    m = mRead T LA BA aw held th m := by
  funext y
  unfold mRead
  (repeat' split) <;> first | rfl | (subst_vars; assumption)
noncomputable def ReadIs (Sp nSp : Nat) (spv : List Value) (T : Nat) (st : RS) (k : Nat) (m : Str → Option Value) (nx : List (Addr × Obj)) : Prop :=
  ∃ (r : RR) (th : Nat) (u : Str → Option Value), nx = (Sp, listOf spv.toArray nSp) :: r.objs ∧ Apart nx ∧ r.Is T st ∧ st.Bnd k ∧ m = mRead T r.LA r.BA st.aw st.held th u
noncomputable def readDef : Option Stmt := prg.main.body[8]?
noncomputable def readTurn : List Stmt := bodyIn (bodyIn readDef)[2]?
noncomputable def readFin : List Stmt := readTurn.drop 4
noncomputable def readIf : Stmt := readTurn.getD 4 (.Pass ⟨0, 0, 0, 0⟩)
noncomputable def readScope : Scope := scopeIn readDef
noncomputable def readEnv (L : Addr) : Env := envOf (Str.ofString "_law_read") readScope L 54 (.ref 53)
theorem item_last {prog : Program} {w : World} {A : Around} {E : Value → Shared → Prop} {s : Shared} {value slice : PySem.Expr} {x c : Str} {t u : Tok} {Q : Value → Shared → Prop} (e : Txt.item x (-1) = c) (hl : 1 ≤ x.length)
    (h : Q (.str c s.toks) { s with toks := s.toks + 1 })
    (hs : subscripted slice false (.str x t) (.int (-1) u) = operate [.str x t, .int (-1) u] (getItem (.str x t) (.int (-1) u)))
    (ht : ∀ r, letTemporaryGo value (.str x t) r = pure ()) :
    wpAny (model prog w) A (subscriptTail value slice (.str x t) (.int (-1) u)) Q E s :=
  item_str (by decide) (by omega) (by omega) (fun _ => by rw [e]; exact h) hs ht
theorem slice_to {prog : Program} {w : World} {A : Around} {E : Value → Shared → Prop} {s : Shared} {value slice : PySem.Expr} {x y : Str} {t : Tok} {Q : Value → Shared → Prop} {h₀ : Heap} {L : Addr} {m : Str → Option Value} {news : List (Addr × Obj)} {j : Int} {uj : Tok}
    (hF : Fr h₀ L s.heap m) (hN : News h₀ L s.heap news) (e : Txt.slice x none (some j) = y) (hsz : x.length ≤ sizeLine) (h : ∀ h' t' k, Fr h₀ L h' m → News h₀ L h' news → y.length ≤ x.length → Q (.str y t') { s with heap := h', toks := k })
    (hs : subscripted slice false (.str x t) (.ref s.heap.objs.size) = operate [.ref s.heap.objs.size, .str x t] (getItem (.str x t) (.ref s.heap.objs.size)) := by with_unfolding_all rfl)
    (ht : ∀ r, letTemporaryGo value (.str x t) r = pure () := by intro _; with_unfolding_all rfl) :
    wpAny (model prog w) A (subscriptTail value slice (.str x t) (.ref s.heap.objs.size)) Q E { s with heap := s.heap.push { cls := .type "slice", data := .fields #[.none, .int j uj, .none] } } :=
  slice_strN_ns hF hN (fun h' t' k a b => by rw [e]; exact h h' t' k a b (e ▸ PyProof.Txt.length_slice_le x _ _)) hs ht hsz
section
variable {prog : Program} {w : World} {A : Around} {E : Value → Shared → Prop} {s : Shared} {x y : Str} {t u : Tok} {Q : Value → Shared → Prop}
theorem eq_no (e : x ≠ y) (h : Q (.bool false) s) : wpAny (model prog w) A (compareOp .Eq (.str x t) (.str y u)) Q E s :=
  PyProof.Rows.eq_str (by rw [beq_eq_false_iff_ne.mpr e]; exact h)
theorem eq_yes (e : x = y) (h : Q (.bool true) s) : wpAny (model prog w) A (compareOp .Eq (.str x t) (.str y u)) Q E s :=
  PyProof.Rows.eq_str (by rw [beq_iff_eq.mpr e]; exact h)
theorem ne_no (e : x = y) (h : Q (.bool false) s) : wpAny (model prog w) A (compareOp .NotEq (.str x t) (.str y u)) Q E s :=
  PyProof.Rows.ne_str (by subst e; rw [bne_self_eq_false]; exact h)
theorem ne_yes (e : x ≠ y) (h : Q (.bool true) s) : wpAny (model prog w) A (compareOp .NotEq (.str x t) (.str y u)) Q E s :=
  PyProof.Rows.ne_str (by rw [bne_iff_ne.mpr e]; exact h)
theorem starts_yes (e : Txt.startswith x y = true) (h : Q (.bool true) s) : wpAny (model prog w) A (call (.builtin "str.startswith") [.str x t, .str y u]) Q E s := SC.startswith (by rw [e]; exact h)
end
theorem truthy_snoc {prog : Program} {w : World} {A : Around} {E : Value → Shared → Prop} {s : Shared} {h₀ : Heap} {L D : Addr} {news : List (Addr × Obj)} {n : Nat} {v : Value} {vs : List Value} {Q : Bool → Shared → Prop} (N : News h₀ L s.heap news) (hm : (D, listOf (vs ++ [v]).toArray n) ∈ news) (hz : vs.length < 100000) (h : Q true { s with toks := s.toks + 1 + 1 }) :
    wpAny (model prog w) A (truthy (.ref D)) Q E s := by
  refine wpAny_truthy_list (News.isList N hm) (by simp; omega) ?_
  have e : (!(vs ++ [v]).toArray.isEmpty) = true := by simp
  rw [e]
  exact h
noncomputable def elseIn : Option Stmt → List Stmt
  | some (.If (orelse := e) ..) => e
  | _ => []
noncomputable def readElse : List Stmt := elseIn readTurn[3]?
noncomputable def readWhile : Stmt := readElse.getD 1 (.Pass ⟨0, 0, 0, 0⟩)
noncomputable def mPop (LA BA : Nat) (lead : Str) (tl : Nat) (u : Str → Option Value) : Str → Option Value := fun y =>
  if y = Str.ofString "leads" then some (.ref LA) else if y = Str.ofString "blocks" then some (.ref BA) else if y = Str.ofString "lead" then some (.str lead tl) else u y
theorem mPop_of {LA BA : Nat} {lead : Str} {tl : Nat} {m : Str → Option Value} (h2 : m (Str.ofString "leads") = some (.ref LA)) (h3 : m (Str.ofString "blocks") = some (.ref BA)) (h4 : m (Str.ofString "lead") = some (.str lead tl)) :
    m = mPop LA BA lead tl m := by
  funext y
  unfold mPop
  (repeat' split) <;> first | rfl | (subst_vars; assumption)
noncomputable def RS.nil : RS := ⟨[Str.ofString ""], [], [], false, Str.ofString ""⟩
section
variable {h₀ h' : Heap} {L I Sp nSp LA BA nL nB T b nb nB' nb' : Nat} {oI : Obj} {spv lv its : List Value} {ls : List Lev} {cl : List (Addr × Obj)} {st : RS} {k : Nat}
theorem rMid {I Sp LA BA b : Nat} {oI oS oL oB ob : Obj} {P Q : List (Addr × Obj)} (N : News h₀ L h' ((I, oI) :: (Sp, oS) :: (LA, oL) :: (BA, oB) :: (P ++ (b, ob) :: Q))) : News h₀ L h' ((I, oI) :: (Sp, oS) :: (LA, oL) :: (BA, oB) :: (b, ob) :: (P ++ Q)) := by
  intro p hp
  refine N p ?_
  simp only [List.mem_cons, List.mem_append] at hp ⊢
  grind
theorem rOpen {X : Str} {t D1 D2 n1 n2 : Nat}
    (N : News h₀ L h' ((D2, tupOf [Value.str X t, Value.ref D1].toArray n2) :: (D1, listOf ([] : List Value).toArray n1) :: (I, oI) :: (Sp, listOf spv.toArray nSp) :: (LA, listOf lv.toArray nL) :: (BA, listOf (refsOf ls ++ [Value.ref b] ++ [Value.ref D1]).toArray nB') :: (b, listOf (its ++ [Value.ref D2]).toArray nb') :: (levObjs ls b ++ cl)))
    (hA : Apart ((I, oI) :: (Sp, listOf spv.toArray nSp) :: (LA, listOf lv.toArray nL) :: (BA, listOf (refsOf ls ++ [Value.ref b]).toArray nB) :: (levObjs ls b ++ (b, listOf its.toArray nb) :: cl)))
    (hD1 : ∀ p ∈ (I, oI) :: (Sp, listOf spv.toArray nSp) :: (LA, listOf lv.toArray nL) :: (BA, listOf (refsOf ls ++ [Value.ref b]).toArray nB) :: (b, listOf its.toArray nb) :: (levObjs ls b ++ cl), p.1 < D1) (hD2 : D1 < D2)
    (hlev : LevDat cl ls st.stk) (htop : DatAll cl its st.top) (hlds : StrsAre lv st.leads) (hbot : T = nextA ls b) (hb : st.Bnd k) (haw : st.aw = false) :
    ∃ r : RR, r.LA = LA ∧ r.BA = BA ∧ News h₀ L h' ((I, oI) :: (Sp, listOf spv.toArray nSp) :: r.objs) ∧ Apart ((I, oI) :: (Sp, listOf spv.toArray nSp) :: r.objs) ∧ r.Is T { st with stk := st.stk ++ [(st.top, X)], top := [], aw := true, held := Str.ofString "" } ∧ RS.Bnd { st with stk := st.stk ++ [(st.top, X)], top := [], aw := true, held := Str.ofString "" } (k + 1) := by
  refine ⟨⟨LA, BA, nL, nB', lv, ls ++ [⟨b, its, nb', D2, n2, X, t⟩], D1, [], n1, cl⟩, rfl, rfl, ?_, ?_, ⟨hlev.snoc (l := ⟨b, its, nb', D2, n2, X, t⟩) htop, .nil, hlds, by rw [nextA_snoc]; exact hbot⟩, ?_⟩
  · simp only [RR.objs, levObjs_snoc, Lev.objs, refsOf_snoc, List.cons_append, List.nil_append, List.append_assoc]
    intro p hp
    refine N p ?_
    simp only [List.mem_cons, List.mem_append] at hp ⊢
    simp only [List.append_assoc, List.cons_append, List.nil_append]
    grind
  · simp only [RR.objs, levObjs_snoc, Lev.objs, refsOf_snoc, List.cons_append, List.nil_append, List.append_assoc]
    have h2 := apart_two (ob' := listOf (its ++ [Value.ref D2]).toArray nb') (o1 := listOf ([] : List Value).toArray n1) (o2 := tupOf [Value.str X t, Value.ref D1].toArray n2) (A := (I, oI) :: (Sp, listOf spv.toArray nSp) :: (LA, listOf lv.toArray nL) :: (BA, listOf (refsOf ls ++ [Value.ref b]).toArray nB) :: levObjs ls b) hA (fun p hp => hD1 p (by
      simp only [List.cons_append, List.mem_cons, List.mem_append] at hp ⊢
      grind)) hD2
    refine apart_sub h2 ?_
    simp only [List.cons_append, List.nil_append, List.append_assoc, List.map_cons, List.map_append]
  · refine ⟨?_, Nat.zero_le _, ?_, ?_⟩
    · have := hb.stk; simp only [List.length_append, List.length_cons, List.length_nil]; omega
    · intro p hp
      rcases List.mem_append.mp hp with hp | hp
      · exact Nat.le_succ_of_le (hb.lev p hp)
      · obtain rfl := List.mem_singleton.mp hp
        exact Nat.succ_le_succ hb.top
    · have := hb.leads
      rw [haw] at this
      simp only [List.length_append, List.length_cons, List.length_nil, if_true]
      simpa using this
theorem rPut {X : Str} {t : Nat}
    (N : News h₀ L h' ((I, oI) :: (Sp, listOf spv.toArray nSp) :: (LA, listOf lv.toArray nL) :: (BA, listOf (refsOf ls ++ [Value.ref b]).toArray nB) :: (b, listOf (its ++ [Value.str X t]).toArray nb') :: (levObjs ls b ++ cl)))
    (hA : Apart ((I, oI) :: (Sp, listOf spv.toArray nSp) :: (LA, listOf lv.toArray nL) :: (BA, listOf (refsOf ls ++ [Value.ref b]).toArray nB) :: (levObjs ls b ++ (b, listOf its.toArray nb) :: cl)))
    (hlev : LevDat cl ls st.stk) (htop : DatAll cl its st.top) (hlds : StrsAre lv st.leads) (hbot : T = nextA ls b) (hb : st.Bnd k) :
    ∃ r : RR, r.LA = LA ∧ r.BA = BA ∧ News h₀ L h' ((I, oI) :: (Sp, listOf spv.toArray nSp) :: r.objs) ∧ Apart ((I, oI) :: (Sp, listOf spv.toArray nSp) :: r.objs) ∧ r.Is T { st with top := st.top ++ [.str X], held := Str.ofString "" } ∧ RS.Bnd { st with top := st.top ++ [.str X], held := Str.ofString "" } (k + 1) := by
  refine ⟨⟨LA, BA, nL, nB, lv, ls, b, its ++ [Value.str X t], nb', cl⟩, rfl, rfl, ?_, ?_, ⟨hlev, htop.append (.cons (.str _ _) .nil), hlds, hbot⟩, ?_⟩
  · simp only [RR.objs]
    intro p hp
    refine N p ?_
    simp only [List.mem_cons, List.mem_append] at hp ⊢
    grind
  · refine apart_sub hA ?_
    simp only [RR.objs, List.map_cons, List.map_append]
  · refine ⟨Nat.le_succ_of_le hb.stk, ?_, fun p hp => Nat.le_succ_of_le (hb.lev p hp), hb.leads⟩
    have := hb.top; simp only [List.length_append, List.length_cons, List.length_nil]; omega
theorem rClose {lv' : List Value} {nL' nB' : Nat} {leads' : List Str}
    (N : News h₀ L h' ((I, oI) :: (Sp, listOf spv.toArray nSp) :: (LA, listOf lv'.toArray nL') :: (BA, listOf (refsOf ls).toArray nB') :: (levObjs ls b ++ (b, listOf its.toArray nb) :: cl)))
    (hA : Apart ((I, oI) :: (Sp, listOf spv.toArray nSp) :: (LA, listOf lv.toArray nL) :: (BA, listOf (refsOf ls ++ [Value.ref b]).toArray nB) :: (levObjs ls b ++ (b, listOf its.toArray nb) :: cl)))
    (hlev : LevDat cl ls st.stk) (htop : DatAll cl its st.top) (hlds : StrsAre lv' leads') (hbot : T = nextA ls b) (hb : st.Bnd k) (hs : st.stk ≠ []) (hll : leads'.length + 1 = st.leads.length) :
    ∃ r : RR, r.LA = LA ∧ r.BA = BA ∧ News h₀ L h' ((I, oI) :: (Sp, listOf spv.toArray nSp) :: r.objs) ∧ Apart ((I, oI) :: (Sp, listOf spv.toArray nSp) :: r.objs) ∧ r.Is T { st.closeOne with leads := leads' } ∧ RS.Bnd { st.closeOne with leads := leads' } k := by
  obtain ⟨leads, stk, top, aw, held⟩ := st
  dsimp only at hlev htop hs hll
  obtain ⟨ps, ⟨ds, X⟩, rfl⟩ := snoc_of hs
  obtain ⟨ls', l, rfl, hX, hl1, hl2⟩ := hlev.unsnoc
  have sub : ∀ q ∈ cl, q ∈ (b, listOf its.toArray nb) :: (l.t, tupOf [Value.str l.hd l.tk, Value.ref b].toArray l.nt) :: cl := fun q hq => .tail _ (.tail _ hq)
  refine ⟨⟨LA, BA, nL', nB', lv', ls', l.a, l.vs ++ [Value.ref l.t], l.n, (b, listOf its.toArray nb) :: (l.t, tupOf [Value.str l.hd l.tk, Value.ref b].toArray l.nt) :: cl⟩, rfl, rfl, ?_, ?_, ?_, ?_⟩
  · simp only [RR.objs, levObjs_snoc, Lev.objs, refsOf_snoc, List.cons_append, List.nil_append, List.append_assoc] at N ⊢
    intro p hp
    refine N p ?_
    simp only [List.mem_cons, List.mem_append] at hp ⊢
    grind
  · simp only [RR.objs, levObjs_snoc, Lev.objs, refsOf_snoc, List.cons_append, List.nil_append, List.append_assoc] at hA ⊢
    simp only [apart_cons, apart_mid, List.forall_mem_cons, List.forall_mem_append] at hA ⊢
    grind
  · rw [RS.closeOne_snoc]
    refine ⟨hl1.mono sub, ?_, hlds, ?_⟩
    · refine DatAll.append (hl2.mono sub) (DatAll.one (DatIn.tuple (.tail _ (.head _)) (.cons ?_ (.cons (DatIn.list (.head _) (htop.mono sub)) .nil))))
      rw [hX]
      exact DatIn.str _ _
    · dsimp only
      rw [hbot, nextA_snoc]
  · rw [RS.closeOne_snoc]
    have h1 := hb.stk
    have h2 := hb.lev (ds, X) (List.mem_append.mpr (.inr (.head _)))
    have h3 := hb.leads
    simp only [List.length_append, List.length_cons, List.length_nil] at h1 h3
    dsimp only at h2
    refine ⟨?_, ?_, fun p hp => hb.lev p (List.mem_append.mpr (.inl hp)), ?_⟩
    · show ps.length ≤ k; omega
    · show (ds ++ _).length ≤ k; simp only [List.length_append, List.length_cons, List.length_nil]; omega
    · show leads'.length + (if aw = true then 1 else 0) = ps.length + 1; omega
end
section
local macro_rules | `(tactic| walk_at "call builtin:str.split") => `(tactic| ((refine KSpl.split1 (by k_asm) (by k_asm) (by decide) ?_ (by (rw [sizeLine_eq]; omega))); intro D' l' h' k' e' a' F' N' l1; (try k_lt l1)))
local macro_rules | `(tactic| walk_at "call builtin:str.lstrip") => `(tactic| ((refine KXw.lstripChars (by assumption) (by (rw [sizeLine_eq]; omega)) ?_); intro _ _))
local macro_rules | `(tactic| walk_at "call builtin:str.strip") => `(tactic| ((refine KXw.strip (by assumption) (by (rw [sizeLine_eq]; omega)) ?_); intro _ _))
local macro_rules | `(tactic| walk_at "call builtin:str.count") => `(tactic| ((refine KXw.count (by assumption) ?_); intro _ _))
local macro_rules | `(tactic| walk_at "subscriptTail Name UnaryOp str int") => `(tactic| ((with_unfolding_all refine' item_last ?k1 ?k2 ?_ ?k3 ?k4; (case k1 => assumption); (case k2 => assumption); (case k3 => with_unfolding_all rfl); (case k4 => intro _; with_unfolding_all rfl))))
local macro_rules | `(tactic| k_all) => `(tactic| assumption)
local macro_rules | `(tactic| walk_at "truthy str") => `(tactic| ((refine' KXt.truthy_pos (K := 16777216) ?ka ?kb ?kc ?_; (case ka => omega); (case kb => omega); (case kc => exact Nat.le_refl _)); intro _))
local macro_rules | `(tactic| walk_at "subscriptTail Name Slice str ref") => `(tactic| ((with_reducible rename Fr _ _ _ _ => F'); (with_reducible rename News _ _ _ _ => N'); (refine slice_to (s := ⟨_, _, _, _, _⟩) F' N' (by assumption) (by (rw [sizeLine_eq]; omega)) ?_); clear F' N'; intro h' t' k' F' N' slLen))
local macro_rules | `(tactic| walk_at "compareOp Eq str str") => `(tactic| (first | (refine eq_no (by assumption) ?_) | (refine eq_yes (by first | rfl | assumption) ?_)))
local macro_rules | `(tactic| walk_at "compareOp NotEq str str") => `(tactic| (first | (refine ne_yes (by assumption) ?_) | (refine ne_no (by first | rfl | assumption) ?_)))
local macro_rules | `(tactic| walk_at "call builtin:str.startswith") => `(tactic| (refine starts_yes (by assumption) ?_))
local macro_rules | `(tactic| walk_at "truthy ref") => `(tactic| (k_dflt (refine' truthy_snoc ?k1 ?k2 ?k3 ?_; (case k1 => k_asm); (case k2 => k_mem); (case k3 => omega))))
theorem read_fin {w : World} {dp un : Nat} {gd : Option (List Code)} {outer : List Env} {A₀ : Around} {base h₀ : Heap} {L : Addr}
    {s : Shared} {Q : Flow → Shared → Prop} {E : Value → Shared → Prop} {mean : ExcName → Option Value} {mg mb : Str → Option Value}
    {I Sp nSp T : Nat} {oI : Obj} {spv : List Value} {r : RR} {st st' : RS} {th k : Nat} {h : Str} {u : Str → Option Value}
    (B : Below A₀ base outer h₀) (X : (hd.heap_39 w.params).In h₀) (Tp : Top hd.view_39 (looseW hd.view_39 []) mean mg mb h₀)
    (F : Fr h₀ L s.heap (mRead T r.LA r.BA st.aw h th u))
    (N : News h₀ L s.heap ((I, oI) :: (Sp, listOf spv.toArray nSp) :: r.objs))
    (hA : Apart ((I, oI) :: (Sp, listOf spv.toArray nSp) :: r.objs))
    (his : r.Is T st) (hb : st.Bnd k) (hk : k < 2000) (hfin : FinIs st h st') (haw : st.aw = false)
    (hd : dp + 5 < recursionLimit) (hu : un + 50 < cLine)
    (done : ∀ h' tk' m' nx', Fr h₀ L h' m' → News h₀ L h' ((I, oI) :: nx') → (∀ p ∈ nx', @Ne Nat p.1 I) → ReadIs Sp nSp spv T st' (k + 1) m' nx' → Q .next { s with heap := h', toks := tk' }) :
    wpAny (model prg w) (ktrTop dp un gd (Str.ofString "_law_read") readScope L 54 (.ref 53) [] outer) (exec readIf (readEnv L)) Q E s := by
  obtain ⟨LA, BA, nL, nB, lv, ls, b, its, nb, cl⟩ := r
  obtain ⟨sh, sgn, sdr, stk, sos⟩ := s
  obtain ⟨hlev, htop, hlds, hbot⟩ := his
  dsimp only at hlev htop hlds hbot F N done
  simp only [RR.objs, List.cons_append, List.nil_append, List.append_assoc] at N hA
  have hne := hA
  simp only [apart_cons, apart_mid, List.forall_mem_cons, List.forall_mem_append] at hne
  have tl : ∀ d ∈ [BA, b], (∀ p ∈ levObjs ls b ++ cl, @Ne Nat p.1 d) := by
    simp only [List.forall_mem_cons, List.forall_mem_append]
    grind
  have tO1 : ∀ p ∈ levObjs ls b ++ cl, p.1 ≠ BA := tl BA (by simp)
  have tb1 : ∀ p ∈ levObjs ls b ++ cl, p.1 ≠ b := tl b (by simp)
  have o1 : Off I BA ∧ Off Sp BA ∧ Off LA BA ∧ Off b BA ∧ Off b I ∧ Off b Sp ∧ Off b LA := by
    simp only [Off]; grind
  obtain ⟨o1, o2, o3, o4, o5, o6, o7⟩ := o1
  clear hne
  have hls : (refsOf ls).length < 3000 := by have := hb.stk; have := hlev.length; rw [refsOf_length]; omega
  have hits : its.length < 10000 := by have := hb.top; have := htop.length; omega
  conv in (exec _ _) => arg 1; whnf
  unfold mRead at F
  have N' := rMid N
  generalize hrest : levObjs ls b ++ cl = rest at N' tO1 tb1
  clear tl
  cases hfin with
  | keep c1 c2 c3 =>
    clear N'
    try k_fold
    k_steps
    obtain ⟨q1, q2⟩ := apart_cons.mp hA
    exact done _ _ _ _ F N q1 ⟨⟨LA, BA, nL, nB, lv, ls, b, its, nb, cl⟩, th, u, rfl, q2, ⟨hlev, htop, hlds, hbot⟩, ⟨Nat.le_succ_of_le hb.stk, Nat.le_succ_of_le hb.top, fun p hp => Nat.le_succ_of_le (hb.lev p hp), hb.leads⟩, rfl⟩
  | opn c1 c2 c3 c4 c5 =>
    clear N
    try k_fold
    k_steps
    rename News h₀ L _ _ => eN
    rename Fr h₀ L _ _ => eF
    simp only [List.push_toArray] at eN
    subst hrest
    obtain ⟨r, rfl, rfl, n1, a1, i1, b1⟩ := rOpen eN hA (by assumption) (by omega) hlev htop hlds hbot hb haw
    obtain ⟨q1, q2⟩ := apart_cons.mp a1
    refine done _ _ _ _ eF n1 q1 ⟨r, _, _, rfl, q2, i1, b1, mRead_of rfl rfl rfl rfl rfl⟩
  | put c1 c2 c3 c4 c5 c6 =>
    clear N
    try k_fold
    k_steps
    rename News h₀ L _ _ => eN
    rename Fr h₀ L _ _ => eF
    simp only [List.push_toArray] at eN
    subst hrest
    obtain ⟨r, rfl, rfl, n1, a1, i1, b1⟩ := rPut eN hA hlev htop hlds hbot hb
    obtain ⟨q1, q2⟩ := apart_cons.mp a1
    refine done _ _ _ _ eF n1 q1 ⟨r, _, _, rfl, q2, i1, b1, mRead_of rfl rfl rfl rfl rfl⟩
theorem strsAre_snoc {vs : List Value} {xs : List Str} {x : Str} (h : StrsAre vs (xs ++ [x])) : ∃ us t, vs = us ++ [Value.str x t] ∧ StrsAre us xs := by
  induction xs generalizing vs with
  | nil =>
    cases h with
    | cons y t h => cases h; exact ⟨[], t, rfl, .nil⟩
  | cons a r ih =>
    cases h with
    | cons y t h =>
      obtain ⟨us, t', rfl, h'⟩ := ih h
      exact ⟨_ :: us, t', rfl, .cons _ _ h'⟩
theorem RS.closeN_leads (j : Nat) (l : List Str) (st : RS) : ({ RS.closeN j { st with leads := l } with leads := l } : RS) = { RS.closeN j st with leads := l } := by
  induction j generalizing st with
  | zero => rfl
  | succ j ih =>
    have e : RS.closeOne { st with leads := l } = { st.closeOne with leads := l } := by
      unfold RS.closeOne
      dsimp only
      split <;> rfl
    show ({ RS.closeN j (RS.closeOne { st with leads := l }) with leads := l } : RS) = _
    rw [e]
    exact ih _
theorem RS.closeN_leads2 (j : Nat) (l l' : List Str) (st : RS) : ({ RS.closeN j { st with leads := l' } with leads := l } : RS) = { RS.closeN j st with leads := l } := by
  induction j generalizing st with
  | zero => rfl
  | succ j ih =>
    have e : RS.closeOne { st with leads := l' } = { st.closeOne with leads := l' } := by
      unfold RS.closeOne
      dsimp only
      split <;> rfl
    show ({ RS.closeN j (RS.closeOne { st with leads := l' }) with leads := l } : RS) = _
    rw [e]
    exact ih _
theorem read_pops {w : World} {dp un : Nat} {gd : Option (List Code)} {outer : List Env} {A₀ : Around} {base h₀ : Heap} {L : Addr} {u : Str → Option Value}
    {s : Shared} {Q : Flow → Shared → Prop} {E : Value → Shared → Prop} {mean : ExcName → Option Value} {mg mb : Str → Option Value}
    {I Sp nSp T k LA BA tl : Nat} {oI : Obj} {spv : List Value} {r : RR} {st : RS} {lead : Str} {A C : List Str}
    (B : Below A₀ base outer h₀) (X : (hd.heap_39 w.params).In h₀) (Tp : Top hd.view_39 (looseW hd.view_39 []) mean mg mb h₀)
    (F : Fr h₀ L s.heap (mPop LA BA lead tl u)) (N : News h₀ L s.heap ((I, oI) :: (Sp, listOf spv.toArray nSp) :: r.objs)) (hA : Apart ((I, oI) :: (Sp, listOf spv.toArray nSp) :: r.objs))
    (hLA : r.LA = LA) (hBA : r.BA = BA) (his : r.Is T st) (hb : st.Bnd k) (hk : k < 2000) (haw : st.aw = false) (hlead : st.leads = A ++ lead :: C) (hC : ∀ x ∈ C, x ≠ lead)
    (hd : dp + 5 < recursionLimit) (hu : un + 50 < cLine)
    (done : ∀ (h' : Heap) (tk' : Nat) (r' : RR) (a : List Value) (t : Nat), Fr h₀ L h' (mPop LA BA lead tl u) → News h₀ L h' ((I, oI) :: (Sp, listOf spv.toArray nSp) :: r'.objs) → Apart ((I, oI) :: (Sp, listOf spv.toArray nSp) :: r'.objs) → r'.LA = LA → r'.BA = BA → r'.lv = a ++ [Value.str lead t] →
      r'.Is T { RS.closeN C.length st with leads := A ++ [lead] } → RS.Bnd { RS.closeN C.length st with leads := A ++ [lead] } k → Q .next { s with heap := h', toks := tk' }) :
    wpAny (model prg w) (ktrTop dp un gd (Str.ofString "_law_read") readScope L 54 (.ref 53) [] outer) (exec readWhile (readEnv L)) Q E s := by
  refine wpAny_noE ?_
  obtain ⟨sh, sgn, sdr, stk, sos⟩ := s
  dsimp only at F N done
  conv in (exec _ _) => arg 1; whnf
  refine while_tk (J := fun n s₁ => ∃ (h : Heap) (tk : Nat) (r' : RR) (st' : RS) (C' : List Str), s₁ = ⟨h, sgn, sdr, tk, sos⟩ ∧ Fr h₀ L h (mPop LA BA lead tl u) ∧ News h₀ L h ((I, oI) :: (Sp, listOf spv.toArray nSp) :: r'.objs) ∧ Apart ((I, oI) :: (Sp, listOf spv.toArray nSp) :: r'.objs) ∧ r'.LA = LA ∧ r'.BA = BA ∧ r'.Is T st' ∧ st'.Bnd k ∧ st'.aw = false ∧ st'.leads = A ++ lead :: C' ∧ (∀ x ∈ C', x ≠ lead) ∧ n = C'.length ∧ ({ RS.closeN C'.length st' with leads := A ++ [lead] } : RS) = { RS.closeN C.length st with leads := A ++ [lead] }) (n₀ := C.length) ⟨sh, _, r, st, C, rfl, F, N, hA, hLA, hBA, his, hb, haw, hlead, hC, rfl, rfl⟩ ?_ noPass
  clear F N hA his hb hLA hBA haw hlead hC
  rintro n s₁ W hW ⟨h, tk, ⟨LA', BA', nL, nB, lv, ls, b, its, nb, cl⟩, ⟨leads, stk', top, aw, held⟩, C', rfl, F, N, hA, hLA, hBA, his, hb, haw, hlead, hC, rfl, hcl⟩
  dsimp only at hLA hBA haw hlead
  subst hLA hBA haw hlead
  obtain ⟨hlev, htop, hlds, hbot⟩ := his
  dsimp only at hlev htop hlds hbot
  simp only [RR.objs] at N hA
  have hne := hA
  simp only [apart_cons, List.forall_mem_cons] at hne
  obtain ⟨⟨n1, n2, n3, n4⟩, ⟨n5, n6, n7⟩, ⟨n8, n9⟩, n10, n11⟩ := hne
  have o1 : Off I LA' ∧ Off Sp LA' ∧ Off BA' LA' ∧ Off I BA' ∧ Off Sp BA' := by
    simp only [Off]; grind
  obtain ⟨o1, o2, o3, o4, o5⟩ := o1
  have tL : ∀ p ∈ levObjs ls b ++ (b, listOf its.toArray nb) :: cl, p.1 ≠ LA' := n9
  have tB : ∀ p ∈ levObjs ls b ++ (b, listOf its.toArray nb) :: cl, p.1 ≠ BA' := n10
  clear n1 n2 n3 n4 n5 n6 n7 n8
  have hls : (refsOf ls).length < 3000 := by have := hb.stk; have := hlev.length; dsimp only at *; rw [refsOf_length]; omega
  have hlen := hb.leads
  have hsk := hb.stk
  dsimp only at hlen hsk
  simp only [List.length_append, List.length_cons] at hlen
  unfold mPop at F
  rcases List.eq_nil_or_concat C' with rfl | ⟨C2, c, rfl⟩
  · obtain ⟨lvA, t1, rfl, hlA⟩ := strsAre_snoc hlds
    have hll : lvA.length < 3000 := by have := hlA.length; omega
    generalize hrest : levObjs ls b ++ (b, listOf its.toArray nb) :: cl = rest at N tL tB
    try k_fold
    k_steps
    subst hrest
    have e0 : ({ leads := A ++ [lead], stk := stk', top := top, aw := false, held := held } : RS) = { RS.closeN C.length st with leads := A ++ [lead] } := hcl
    refine done _ _ ⟨LA', BA', nL, nB, lvA ++ [Value.str lead t1], ls, b, its, nb, cl⟩ lvA t1 F N hA rfl rfl rfl ?_ ?_
    · rw [← e0]; exact ⟨hlev, htop, hlds, hbot⟩
    · rw [← e0]; exact hb
  · have hc : c ≠ lead := hC c (by simp)
    obtain ⟨lvA, t1, rfl, hlA⟩ := strsAre_snoc (xs := A ++ lead :: C2) (x := c) (by simpa using hlds)
    have hll : lvA.length < 3000 := by have := hlA.length; simp only [List.concat_eq_append, List.length_append, List.length_cons, List.length_nil] at hlen this; omega
    generalize hrest : levObjs ls b ++ (b, listOf its.toArray nb) :: cl = rest at N tL tB
    try k_fold
    k_steps
    subst hrest
    rename News h₀ L _ _ => eN
    rename Fr h₀ L _ _ => eF
    have hs0 : stk' ≠ [] := fun q => by
      subst q
      simp only [List.concat_eq_append, List.length_append, List.length_cons, List.length_nil] at hlen
      omega
    obtain ⟨r', e1, e2, n', a', i', b'⟩ := rClose (st := ⟨A ++ lead :: C2.concat c, stk', top, false, held⟩) (leads' := A ++ lead :: C2) eN hA hlev htop hlA hbot hb hs0 (by simp only [List.concat_eq_append, List.length_append, List.length_cons, List.length_nil]; omega)
    subst hW
    refine ⟨C2.length, by simp, _, _, r', _, C2, rfl, eF, n', a', e1, e2, i', b', ?_, rfl, (fun x hx => hC x (by simp [hx])), rfl, ?_⟩
    · show (RS.closeOne _).aw = false
      unfold RS.closeOne
      dsimp only
      split <;> rfl
    · rw [RS.closeN_leads2, ← hcl]
      simp [RS.closeN]
section
local macro_rules | `(tactic| walk_at "exec If") => `(tactic| ((with_reducible show wpAny _ _ (exec (Stmt.If (Expr.Compare (Expr.Call _ _ _ _) _ _ _) _ _ _) _) _ _ _); refine stop ?_))
theorem RS.Bnd.mono {st : RS} {k : Nat} (hb : st.Bnd k) : st.Bnd (k + 1) := ⟨Nat.le_succ_of_le hb.stk, Nat.le_succ_of_le hb.top, fun p hp => Nat.le_succ_of_le (hb.lev p hp), hb.leads⟩
theorem fr_mRead {h₀ h : Heap} {L : Addr} {T LA BA : Nat} {aw : Bool} {held : Str} {th : Nat} {m : Str → Option Value} (F : Fr h₀ L h m) (h1 : m (Str.ofString "tree") = some (.ref T)) (h2 : m (Str.ofString "leads") = some (.ref LA)) (h3 : m (Str.ofString "blocks") = some (.ref BA)) (h4 : m (Str.ofString "awaited") = some (.bool aw)) (h5 : m (Str.ofString "held") = some (.str held th)) :
    Fr h₀ L h (mRead T LA BA aw held th m) := by rw [← mRead_of h1 h2 h3 h4 h5]; exact F
theorem fr_mPop {h₀ h : Heap} {L : Addr} {LA BA : Nat} {lead : Str} {tl : Nat} {m : Str → Option Value} (F : Fr h₀ L h m) (h2 : m (Str.ofString "leads") = some (.ref LA)) (h3 : m (Str.ofString "blocks") = some (.ref BA)) (h4 : m (Str.ofString "lead") = some (.str lead tl)) :
    Fr h₀ L h (mPop LA BA lead tl m) := by rw [← mPop_of h2 h3 h4]; exact F
theorem RS.closeN_aw (j : Nat) (st : RS) : (RS.closeN j st).aw = st.aw := by
  induction j generalizing st with
  | zero => rfl
  | succ j ih =>
    show (RS.closeN j st.closeOne).aw = _
    rw [ih]
    unfold RS.closeOne
    split <;> rfl
theorem rlen {LA BA nL nB b nb T : Nat} {a its : List Value} {v : Value} {ls : List Lev} {cl : List (Addr × Obj)} {st : RS} {k : Nat} (I : (⟨LA, BA, nL, nB, a ++ [v], ls, b, its, nb, cl⟩ : RR).Is T st) (B : st.Bnd k) (hk : k < 2000) : a.length < 3000 := by
  have h1 := I.leads.length
  have h2 := B.leads
  have h3 := B.stk
  simp only [List.length_append, List.length_cons, List.length_nil] at h1
  omega
theorem read_turn {w : World} {dp un : Nat} {gd : Option (List Code)} {outer : List Env} {A₀ : Around} {base h₀ : Heap} {L : Addr} {m₁ : Str → Option Value}
    {s : Shared} {h : Heap} {tk : Nat} {Q : Flow → Shared → Prop} {E : Value → Shared → Prop} {mean : ExcName → Option Value} {mg mb : Str → Option Value}
    {I Sp nSp T : Nat} {oI : Obj} {spv : List Value} {st st' : RS} {k tr : Nat} {row : Str} {nx : List (Addr × Obj)}
    (B : Below A₀ base outer h₀) (X : (hd.heap_39 w.params).In h₀) (Tp : Top hd.view_39 (looseW hd.view_39 []) mean mg mb h₀)
    (F : Fr h₀ L h (fun z => if z = Str.ofString "row" then some (.str row tr) else m₁ z)) (N : News h₀ L h ((I, oI) :: nx)) (hI : ∀ p ∈ nx, @Ne Nat p.1 I)
    (K : ReadIs Sp nSp spv T st k m₁ nx) (hk : k < 2000) (hr : RdRow st row st')
    (hd : dp + 5 < recursionLimit) (hu : un + 50 < cLine) :
    wpAny (model prg w) (ktrTop dp un gd (Str.ofString "_law_read") readScope L 54 (.ref 53) [] outer) (execs readTurn (readEnv L))
      (TurnEnd h₀ L I oI (fun _ => ReadIs Sp nSp spv T st' (k + 1)) s Q) E { s with heap := h, toks := tk } := by
  obtain ⟨⟨LA, BA, nL, nB, lv, ls, b, its, nb, cl⟩, th, u, rfl, hA, his, hb, rfl⟩ := K
  have hA' := (apart_cons (o := oI)).mpr ⟨hI, hA⟩
  obtain ⟨hlev, htop, hlds, hbot⟩ := his
  obtain ⟨leads, stk, top, aw, held⟩ := st
  dsimp only at hlev htop hlds hbot F N
  simp only [RR.objs] at N hA' hA hI
  have hne := hA'
  simp only [apart_cons, List.forall_mem_cons] at hne
  obtain ⟨⟨n1, n2, n3, n4⟩, ⟨n5, n6, n7⟩, ⟨n8, n9⟩, n10, n11⟩ := hne
  have o1 : Off I LA ∧ Off Sp LA ∧ Off BA LA ∧ Off I BA ∧ Off Sp BA := by
    simp only [Off]; grind
  obtain ⟨o1, o2, o3, o4, o5⟩ := o1
  have tL : ∀ p ∈ levObjs ls b ++ (b, listOf its.toArray nb) :: cl, p.1 ≠ LA := n9
  have tB : ∀ p ∈ levObjs ls b ++ (b, listOf its.toArray nb) :: cl, p.1 ≠ BA := n10
  clear n1 n2 n3 n4 n5 n6 n7 n8
  have q1 : (Str.ofString " ").length = 1 := by decide
  refine wpAny_q fun QQ hQQ => ?_
  conv in (execs _ _) => arg 1; whnf
  unfold mRead at F
  cases hr with
  | blank e1 e2 l1 l2 =>
    try k_fold
    k_steps
    rename News h₀ L _ _ => eN
    rename Fr h₀ L _ _ => eF
    subst hQQ
    refine ⟨_, _, _, _, rfl, eF, eN, hI, ⟨LA, BA, nL, nB, lv, ls, b, its, nb, cl⟩, _, _, rfl, hA, ⟨hlev, htop, hlds, hbot⟩, hb.mono, mRead_of rfl rfl rfl rfl rfl⟩
  | hold e1 e2 e3 l3 l1 l2 e4 e5 e6 e7 e8 hf =>
    dsimp only at e5 e6 e7 e8 hf
    subst e8
    try k_fold
    k_steps
    rename News h₀ L _ _ => eN
    rename Fr h₀ L _ _ => eF
    refine unstop ?_
    refine read_fin (r := ⟨LA, BA, nL, nB, lv, ls, b, its, nb, cl⟩) (st := ⟨leads, stk, top, false, Str.ofString ""⟩) (k := k) B X Tp (fr_mRead eF rfl rfl rfl rfl rfl) eN hA' ⟨hlev, htop, hlds, hbot⟩ ⟨hb.stk, hb.top, hb.lev, hb.leads⟩ hk hf rfl hd hu ?_
    intro h' tk' m' nx' F' N' hI' K'
    clear eF eN
    dsimp only
    k_steps
    subst hQQ
    exact ⟨_, _, _, _, rfl, F', N', hI', K'⟩
  | fresh e1 e2 e3 l3 l1 l2 e4 e5 e6 e7 e8 hf =>
    dsimp only at e5 e6 e7 hf
    subst e5 e6 e7
    generalize hrest : levObjs ls b ++ (b, listOf its.toArray nb) :: cl = rest at N tL tB
    try k_fold
    k_steps
    rename News h₀ L _ _ => eN
    rename Fr h₀ L _ _ => eF
    refine unstop ?_
    subst hrest
    refine read_pops (r := ⟨LA, BA, nL, nB, lv, ls, b, its, nb, cl⟩) (k := k) B X Tp (fr_mPop eF rfl rfl rfl) eN hA' rfl rfl ⟨hlev, htop, hlds, hbot⟩ hb hk rfl rfl e8 hd hu ?_
    clear eF eN
    intro h' tk' r' a t F' N' A' hL hB hlv I' B'
    obtain ⟨LA', BA', nL', nB', lv', ls', b', its', nb', cl'⟩ := r'
    dsimp only at hL hB hlv
    subst hL hB hlv
    simp only [RR.objs] at N'
    have hll : a.length < 3000 := rlen I' B' hk
    dsimp only
    unfold mPop at F'
    k_steps
    rename News h₀ L _ _ => eN
    rename Fr h₀ L _ _ => eF
    refine unstop ?_
    refine read_fin (r := ⟨LA', BA', nL', nB', a ++ [Value.str _ t], ls', b', its', nb', cl'⟩) (k := k) B X Tp (fr_mRead eF rfl rfl rfl (by rw [RS.closeN_aw]; rfl) rfl) eN A' I' B' hk hf (RS.closeN_aw _ _) hd hu ?_
    intro h' tk' m' nx' F' N' hI' K'
    clear eF eN
    dsimp only
    k_steps
    subst hQQ
    exact ⟨_, _, _, _, rfl, F', N', hI', K'⟩
  | @deep _ _ bare y lead l A e1 e2 e3 l3 l1 l2 e4 e5 e6 e7 e8 e9 hf =>
    dsimp only at e5 e6 e7 hf
    subst e5 e6 e7
    obtain ⟨lvA, tl, rfl, hlA⟩ := strsAre_snoc hlds
    have hll : lvA.length < 3000 := by have := hlA.length; have := hb.leads; have := hb.stk; simp only [List.length_append, List.length_cons, List.length_nil] at *; omega
    generalize hrest : levObjs ls b ++ (b, listOf its.toArray nb) :: cl = rest at N tL tB
    try k_fold
    k_steps
    rename News h₀ L _ _ => eN
    rename Fr h₀ L _ _ => eF
    refine unstop ?_
    subst hrest
    simp only [List.push_toArray] at eN
    refine read_pops (r := ⟨LA, BA, nL + 1, nB, lvA ++ [Value.str l tl] ++ [Value.str lead _], ls, b, its, nb, cl⟩) (st := ⟨A ++ [l] ++ [lead], stk, top, false, Str.ofString ""⟩) (A := A ++ [l]) (C := []) (k := k) B X Tp (fr_mPop eF rfl rfl rfl) eN (apart_sub hA' ?_) rfl rfl ⟨hlev, htop, StrsAre.append' hlds (.cons _ _ .nil), hbot⟩ ⟨hb.stk, hb.top, hb.lev, ?_⟩ hk rfl rfl (fun x hx => nomatch hx) hd hu ?_
    · simp only [RR.objs, List.map_cons, List.map_append]
    · have := hb.leads
      simp only [List.length_append, List.length_cons, List.length_nil, if_true] at this ⊢
      simpa using this
    clear eF eN
    intro h' tk' r' a t F' N' A' hL hB hlv I' B'
    obtain ⟨LA', BA', nL', nB', lv', ls', b', its', nb', cl'⟩ := r'
    dsimp only at hL hB hlv
    subst hL hB hlv
    simp only [RR.objs] at N'
    have hll : a.length < 3000 := rlen I' B' hk
    dsimp only
    unfold mPop at F'
    k_steps
    rename News h₀ L _ _ => eN
    rename Fr h₀ L _ _ => eF
    refine unstop ?_
    refine read_fin (r := ⟨LA', BA', nL', nB', a ++ [Value.str _ t], ls', b', its', nb', cl'⟩) (k := k) B X Tp (fr_mRead eF rfl rfl rfl (by rw [RS.closeN_aw]; rfl) rfl) eN A' I' B' hk hf (RS.closeN_aw _ _) hd hu ?_
    intro h' tk' m' nx' F' N' hI' K'
    clear eF eN
    dsimp only
    k_steps
    subst hQQ
    exact ⟨_, _, _, _, rfl, F', N', hI', K'⟩
end
section
local macro_rules | `(tactic| walk_at "m none") => `(tactic| skip)
theorem levClose {leads : List Str} {aw : Bool} {held : Str} : ∀ (n : Nat) (ls : List Lev) (b : Nat) (its : List Value) (nb : Nat) (cl : List (Addr × Obj)) (stk : List (List Dat × Str)) (top : List Dat), stk.length = n → LevDat cl ls stk → DatAll cl its top →
    ∃ (vs : List Value) (m : Nat) (cl' : List (Addr × Obj)), (nextA ls b, listOf vs.toArray m) ∈ levObjs ls b ++ (b, listOf its.toArray nb) :: cl ∧ DatAll cl' vs (RS.closeN n ⟨leads, stk, top, aw, held⟩).top ∧ ∀ p ∈ cl', p ∈ levObjs ls b ++ (b, listOf its.toArray nb) :: cl := by
  intro n
  induction n with
  | zero =>
    intro ls b its nb cl stk top hn hl ht
    have e : stk = [] := List.eq_nil_of_length_eq_zero hn
    subst e
    cases hl
    exact ⟨its, nb, cl, .head _, ht, fun p hp => .tail _ hp⟩
  | succ n ih =>
    intro ls b its nb cl stk top hn hl ht
    obtain ⟨ps, ⟨ds, X⟩, rfl⟩ := snoc_of (l := stk) (fun q => by rw [q] at hn; cases hn)
    obtain ⟨ls', l, rfl, hX, hl1, hl2⟩ := hl.unsnoc
    have sub : ∀ q ∈ cl, q ∈ (b, listOf its.toArray nb) :: (l.t, tupOf [Value.str l.hd l.tk, Value.ref b].toArray l.nt) :: cl := fun q hq => .tail _ (.tail _ hq)
    have hd2 : DatAll ((b, listOf its.toArray nb) :: (l.t, tupOf [Value.str l.hd l.tk, Value.ref b].toArray l.nt) :: cl) (l.vs ++ [Value.ref l.t]) (ds ++ [.tuple [.str X, .list top]]) := by
      refine DatAll.append (hl2.mono sub) (DatAll.one (DatIn.tuple (.tail _ (.head _)) (.cons ?_ (.cons (DatIn.list (.head _) (ht.mono sub)) .nil))))
      rw [hX]
      exact DatIn.str _ _
    obtain ⟨vs, m, cl', h1, h2, h3⟩ := ih ls' l.a (l.vs ++ [Value.ref l.t]) l.n _ ps _ (by simpa using hn) (hl1.mono sub) hd2
    have up : ∀ p ∈ levObjs ls' l.a ++ (l.a, listOf (l.vs ++ [Value.ref l.t]).toArray l.n) :: (b, listOf its.toArray nb) :: (l.t, tupOf [Value.str l.hd l.tk, Value.ref b].toArray l.nt) :: cl, p ∈ levObjs (ls' ++ [l]) b ++ (b, listOf its.toArray nb) :: cl := by
      intro p hp
      simp only [levObjs_snoc, Lev.objs, List.cons_append, List.nil_append, List.append_assoc]
      simp only [List.mem_cons, List.mem_append] at hp ⊢
      grind
    refine ⟨vs, m, cl', ?_, ?_, fun p hp => up p (h3 p hp)⟩
    · rw [nextA_snoc]; exact up _ h1
    · show DatAll cl' vs (RS.closeN n (RS.closeOne _)).top
      rw [RS.closeOne_snoc]
      exact h2
theorem strValues_at {l : List (Str × Tok)} {i : Nat} {v : Value} (h : (strValues l)[i]? = some v) : ∃ x t, v = .str x t ∧ (l.map (·.1))[i]? = some x := by
  unfold strValues at h
  rw [List.getElem?_map] at h
  cases e : l[i]? with
  | none => rw [e] at h; cases h
  | some p =>
    rw [e] at h
    refine ⟨p.1, p.2, ?_, ?_⟩
    · exact (Option.some.inj h).symm
    · rw [List.getElem?_map, e]; rfl
theorem TurnEnd.mono {h₀ : Heap} {L I : Addr} {oI : Obj} {K K' : Nat → (Str → Option Value) → List (Addr × Obj) → Prop} {s : Shared} {Q : Flow → Shared → Prop} {f : Flow} {s' : Shared} (h : ∀ tk m nx, K tk m nx → K' tk m nx) (k : TurnEnd h₀ L I oI K s Q f s') : TurnEnd h₀ L I oI K' s Q f s' := by
  have fin : (∃ h' tk' m' nx', s' = { s with heap := h', toks := tk' } ∧ Fr h₀ L h' m' ∧ News h₀ L h' ((I, oI) :: nx') ∧ (∀ p ∈ nx', @Ne Nat p.1 I) ∧ K tk' m' nx') → (∃ h' tk' m' nx', s' = { s with heap := h', toks := tk' } ∧ Fr h₀ L h' m' ∧ News h₀ L h' ((I, oI) :: nx') ∧ (∀ p ∈ nx', @Ne Nat p.1 I) ∧ K' tk' m' nx') := fun ⟨h', tk', m', nx', e1, e2, e3, e4, e5⟩ => ⟨h', tk', m', nx', e1, e2, e3, e4, h _ _ _ e5⟩
  cases f with
  | ret v => exact k
  | brk => exact k
  | cont => exact fin k
  | next => exact fin k
local macro_rules | `(tactic| walk_at "pyIter ref") => `(tactic| (refine stop ?_))
theorem read_spec {w : World} {dp un : Nat} {gd : Option (List Code)} {cn : Str} {cs : Scope} {a : Addr} {ccd : Value} {cl : List (Str × Addr)} {outer : List Env} {A₀ : Around} {base h₀ : Heap} {L : Addr} {m : Str → Option Value}
    {s : Shared} {Q E : Value → Shared → Prop} {mean : ExcName → Option Value} {mg mb : Str → Option Value}
    {x : Str} {t : Nat} {leads : List Str} {stk : List (List Dat × Str)} {top : List Dat}
    (B : Below A₀ base outer h₀) (F : Fr h₀ L s.heap m) (X : (hd.heap_39 w.params).In h₀)
    (Tp : Top hd.view_39 (looseW hd.view_39 []) mean mg mb h₀) (hk : cs.kind = .function)
    (hx : x.length < 1000000) (hrun : Rds RS.nil (Txt.split x (Str.ofString "\n")) ⟨leads, stk, top, false, Str.ofString ""⟩) (hrl : (Txt.split x (Str.ofString "\n")).length < 1900)
    (hd : dp + 10 < recursionLimit) (hu : un + 100 < cLine)
    (hret : ∀ (h' : Heap) (tk' T n : Nat) (vs : List Value) (cl : List (Addr × Obj)), Fr h₀ L h' m → News h₀ L h' ((T, listOf vs.toArray n) :: cl) → DatAll cl vs (RS.closeN stk.length ⟨leads, stk, top, false, Str.ofString ""⟩).top → GSub s.heap h' [] → Q (.ref T) { s with heap := h', toks := tk' }) :
    wpAny (model prg w) (ktrTop dp un gd cn cs L a ccd cl outer) (call (.ref 54) [.str x t]) Q E s := by
  have N : News h₀ L s.heap [] := News.nil
  refine wpAny_call ?_
  walk_at "m enter"
  intro g' L' h1 FG1 F1 N1 B1 X1 T1 G1
  try dsimp only
  refine gentoksA ?_
  intro tk0 htk0
  try k_fold
  k_steps
  refine unstop ?_
  refine wpAny_noE ?_
  refine wpAny_For ?_
  k_steps
  refine unstop ?_
  rename News g' L' _ _ => N7
  rename Fr g' L' _ _ => F7
  rename List.map _ _ = Txt.split x _ => el
  rename_i T hT ltT lT hX tkE htkE LA hL ltL lL BA hB ltB lB Tu hTu ltTu lTu q1 q2 q3 q4 h5 F5 N5 tkF htkF Sp l' h2 k' ea lt0 l0
  rw [← el] at hrun hrl
  clear ltT lT ltL ltB ltTu lt0 F5 N5
  refine iter_tk (h₀ := g') (vs := strValues l') (news := (Sp, listOf (strValues l').toArray 0) :: (LA, listOf [Value.str (Str.ofString "") tkE].toArray 0) :: (BA, listOf [Value.ref T].toArray 0) :: (T, listOf ([] : List Value).toArray 0) :: [])
    (K := fun j tk m nx => ∃ st, ReadIs Sp 0 (strValues l') T st j m nx ∧ Rds st ((l'.map (·.1)).drop j) ⟨leads, stk, top, false, Str.ofString ""⟩) rfl rfl rfl (News.isList N7 (by k_mem)) ?hst ?mono F7 (cb_drop N7 (by walk_at "m sub")) ?hk ?turn ?done noPass
  case hst =>
    rintro j tk m nx h ⟨st, ⟨r, th, u, rfl, _⟩, _⟩ F' N'
    exact News.isList N' (.head _)
  case mono =>
    intro j tk tk' m nx hle K'
    exact K'
  case hk =>
    refine ⟨RS.nil, ⟨⟨LA, BA, 0, 0, [Value.str (Str.ofString "") tkE], [], T, [], 0, []⟩, _, _, rfl, ?_, ⟨.nil, .nil, .cons _ _ .nil, rfl⟩, ⟨Nat.le_refl _, Nat.le_refl _, (fun p hp => nomatch hp), rfl⟩, mRead_of rfl rfl rfl rfl rfl⟩, hrun⟩
    simp only [apart_cons, List.forall_mem_cons]
    and_intros
    all_goals (first | assumption | omega | exact fun p hp => nomatch hp | exact List.nodup_nil)
  case turn =>
    rintro j v tk m₁ nx h oI hv ⟨st, K', R'⟩ hoff F' N' hle
    obtain ⟨row, tr, rfl, hrow⟩ := strValues_at hv
    have hj := (List.getElem?_eq_some_iff.mp hrow).1
    rw [List.drop_eq_getElem_cons hj, (List.getElem?_eq_some_iff.mp hrow).2] at R'
    cases R' with
    | cons r1 r2 =>
      exact wpAny_mono (read_turn (k := j) B1 X1 T1 F' N' hoff K' (by omega) r1 (room (a := 6) hd (by decide)) (room (a := 53) hu (by decide))) (fun f s' h9 => TurnEnd.mono (fun _ _ _ e => ⟨_, e, r2⟩) h9) fun _ _ e => e
  case done =>
    rintro m₁ nx h tk ⟨st, ⟨⟨LA', BA', nL, nB, lv, ls, b, its, nb, cl'⟩, th, u, rfl, hA, his, hb, rfl⟩, R'⟩ F' N' hle
    have hvl : (strValues l').length = (l'.map (·.1)).length := by simp [strValues]
    rw [hvl, List.drop_length] at R'
    cases R'
    obtain ⟨hlev, htop, hlds, hbot⟩ := his
    dsimp only at hlev htop hlds hbot F' N' hle ⊢
    unfold mRead at F'
    clear F7 N7
    obtain ⟨vs, n, cl2, g1, g2, g3⟩ := levClose (leads := leads) (aw := false) (held := Str.ofString "") _ ls b its nb cl' stk top rfl hlev htop
    rw [← hbot] at g1
    have N9 : News g' L' h ((T, listOf vs.toArray n) :: cl2) := by
      intro p hp
      refine N' p ?_
      rcases List.mem_cons.mp hp with rfl | hp
      · exact .tail _ (.tail _ (.tail _ g1))
      · exact .tail _ (.tail _ (.tail _ (g3 p hp)))
    clear N' hA
    try k_fold
    k_steps
    rename News h₀ L _ _ => kN
    rename Fr h₀ L _ _ => kF
    exact hret _ _ T n vs cl2 kF kN g2 (gsub_end N G1 F' kN (fun p hp => nomatch hp))
end
theorem str_ext {a b : Str} (h : a.cps.toList = b.cps.toList) : a = b := Str.ext' (Array.toList_inj.mp h)
theorem toL_app (a b : Str) : (a ++ b).cps.toList = a.cps.toList ++ b.cps.toList := by rw [Str.cps_append, Array.toList_append]
theorem len_eq (a : Str) : a.length = a.cps.toList.length := by simp [Str.length]
/-- a list of texts with a sign between them, as codes -/
noncomputable def codes (c : Nat) : List Str → List Nat
  | [] => []
  | [x] => x.cps.toList
  | x :: r => x.cps.toList ++ c :: codes c r
theorem toL_join (c : Nat) : ∀ ps : List Str, (Str.join ⟨#[c]⟩ ps).cps.toList = codes c ps
  | [] => rfl
  | [x] => rfl
  | x :: y :: r => by
    show (x ++ ⟨#[c]⟩ ++ Str.join ⟨#[c]⟩ (y :: r)).cps.toList = x.cps.toList ++ c :: codes c (y :: r)
    rw [toL_app, toL_app, toL_join c (y :: r)]
    simp
theorem free_split {c : Nat} : ∀ {a b r t : List Nat}, c ∉ a → c ∉ b → a ++ c :: r = b ++ c :: t → a = b ∧ r = t
  | [], [], r, t, _, _, e => ⟨rfl, (List.cons.inj e).2⟩
  | [], y :: b, r, t, _, hb, e => absurd (List.mem_cons.mpr (.inl (List.cons.inj e).1)) hb
  | x :: a, [], r, t, ha, _, e => absurd (List.mem_cons.mpr (.inl (List.cons.inj e).1.symm)) ha
  | x :: a, y :: b, r, t, ha, hb, e => by
    obtain ⟨e1, e2⟩ := List.cons.inj e
    obtain ⟨h1, h2⟩ := free_split (fun q => ha (.tail _ q)) (fun q => hb (.tail _ q)) e2
    exact ⟨by rw [e1, h1], h2⟩
theorem codes_inj (c : Nat) : ∀ (ps qs : List Str), ps ≠ [] → qs ≠ [] → (∀ p ∈ ps, c ∉ p.cps.toList) → (∀ p ∈ qs, c ∉ p.cps.toList) → codes c ps = codes c qs → ps = qs
  | [], _, h, _, _, _, _ => absurd rfl h
  | _ :: _, [], _, h, _, _, _ => absurd rfl h
  | [x], [y], _, _, _, _, e => by rw [str_ext (a := x) (b := y) e]
  | [x], y :: z :: r, _, _, h1, _, e => by
    have e' : x.cps.toList = y.cps.toList ++ c :: codes c (z :: r) := e
    exact absurd (by rw [e']; simp) (h1 x (.head _))
  | x :: z :: r, [y], _, _, _, h2, e => by
    have e' : x.cps.toList ++ c :: codes c (z :: r) = y.cps.toList := e
    exact absurd (by rw [← e']; simp) (h2 y (.head _))
  | x :: z :: r, y :: u :: t, _, _, h1, h2, e => by
    obtain ⟨a, b⟩ := free_split (h1 x (.head _)) (h2 y (.head _)) e
    rw [str_ext a, codes_inj c (z :: r) (u :: t) (by simp) (by simp) (fun p hp => h1 p (.tail _ hp)) (fun p hp => h2 p (.tail _ hp)) b]
theorem parts_ne (x : Str) (cuts : List Nat) (w : Nat) : Builtin.Str.partsBetween x cuts w ≠ [] := by
  intro h
  have := length_partsBetween x cuts w
  rw [h] at this
  cases this
theorem parts_unique {c : Nat} {rows : List Str} (hne : rows ≠ []) (hf : ∀ p ∈ rows, c ∉ p.cps.toList) {x : Str} (e : x = Str.join ⟨#[c]⟩ rows) :
    Builtin.Str.partsBetween x (Builtin.Str.occurrences x ⟨#[c]⟩ 0 x.length (x.length + 1)) 1 = rows := by
  obtain ⟨f, hG, hn⟩ := StrLaws.occ_tight x ⟨#[c]⟩ (Nat.le_refl 1)
  have h1 := StrLaws.parts_free x c _ 0 f hG hn
  have h2 := StrLaws.glued_between_self x ⟨#[c]⟩ (x.length + 1)
  rw [StrLaws.glued_eq_join] at h2
  refine codes_inj c _ _ (parts_ne _ _ _) hne ?_ hf ?_
  · rw [StrLaws.partsBetween_eq]; exact h1
  · rw [← toL_join, ← toL_join, ← e]
    exact congrArg (fun y => y.cps.toList) h2
theorem split_rows {c : Nat} {rows : List Str} (hne : rows ≠ []) (hf : ∀ p ∈ rows, c ∉ p.cps.toList) : Txt.split (Str.join ⟨#[c]⟩ rows) ⟨#[c]⟩ = rows := by
  have hn : Txt.split (Str.join ⟨#[c]⟩ rows) ⟨#[c]⟩ ≠ [] := by
    unfold Txt.split
    split
    · simp
    · split
      · simp
      · exact parts_ne _ _ _
  refine codes_inj c _ _ hn hne (StrLaws.split_free _ _) hf ?_
  rw [← toL_join, ← toL_join, StrLaws.join_split]
theorem replace_parts (x : Str) (c : Nat) (z : Str) : Txt.replace x ⟨#[c]⟩ z = Str.join z (Builtin.Str.partsBetween x (Builtin.Str.occurrences x ⟨#[c]⟩ 0 x.length (x.length + 1)) 1) := by
  unfold Txt.replace
  split
  · rename_i h
    have h' : (Builtin.Str.occurrences x ⟨#[c]⟩ 0 x.length (x.length + 1)).isEmpty = true := by
      cases hq : (Builtin.Str.occurrences x ⟨#[c]⟩ 0 x.length (x.length + 1)).isEmpty with
      | true => rfl
      | false => rw [hq] at h; simp [Str.length] at h
    rw [List.isEmpty_iff.mp h']
    rw [StrLaws.partsBetween_eq]
    show x = Builtin.Str.strSub x 0 x.length
    rw [StrLaws.sub_whole]
  · rw [StrLaws.glued_eq_join]
    rfl
theorem replace_rows {c : Nat} {rows : List Str} (hne : rows ≠ []) (hf : ∀ p ∈ rows, c ∉ p.cps.toList) (z : Str) : Txt.replace (Str.join ⟨#[c]⟩ rows) ⟨#[c]⟩ z = Str.join z rows := by
  rw [replace_parts, parts_unique hne hf rfl]
theorem count_rows {c : Nat} {rows : List Str} (hne : rows ≠ []) (hf : ∀ p ∈ rows, c ∉ p.cps.toList) {x : Str} (e : x = Str.join ⟨#[c]⟩ rows) : Txt.count x ⟨#[c]⟩ = ((rows.length - 1 : Nat) : Int) := by
  have h := parts_unique hne hf e
  have h2 := length_partsBetween x (Builtin.Str.occurrences x ⟨#[c]⟩ 0 x.length (x.length + 1)) 1
  rw [h] at h2
  unfold Txt.count
  omega
theorem count_none {c : Nat} {x : Str} (h : c ∉ x.cps.toList) : Txt.count x ⟨#[c]⟩ = 0 := by
  have := count_rows (x := x) (rows := [x]) (by simp) (fun p hp => by rw [List.mem_singleton.mp hp]; exact h) rfl
  simpa using this
/-- sign by sign: each c becomes z -/
theorem flat_codes (c : Nat) (z : Str) : ∀ ps : List Str, (∀ p ∈ ps, c ∉ p.cps.toList) → (codes c ps).flatMap (fun k => if k = c then z.cps.toList else [k]) = (Str.join z ps).cps.toList := by
  have one : ∀ l : List Nat, c ∉ l → l.flatMap (fun k => if k = c then z.cps.toList else [k]) = l := by
    intro l
    induction l with
    | nil => intro _; rfl
    | cons k r ih =>
      intro h
      rw [List.flatMap_cons, if_neg (fun q => h (by rw [q]; exact .head _)), ih fun q => h (.tail _ q)]
      rfl
  intro ps
  induction ps with
  | nil => intro _; rfl
  | cons x r ih =>
    intro h
    cases r with
    | nil => exact one _ (h x (.head _))
    | cons y r =>
      show (x.cps.toList ++ c :: codes c (y :: r)).flatMap _ = (x ++ z ++ Str.join z (y :: r)).cps.toList
      rw [List.flatMap_append, List.flatMap_cons, one _ (h x (.head _)), if_pos rfl, ih fun p hp => h p (.tail _ hp), toL_app, toL_app, List.append_assoc]
theorem replace_signs (x : Str) (c : Nat) (z : Str) : (Txt.replace x ⟨#[c]⟩ z).cps.toList = x.cps.toList.flatMap (fun k => if k = c then z.cps.toList else [k]) := by
  have h := StrLaws.split_free x c
  have e := StrLaws.join_split x ⟨#[c]⟩
  have hn : Txt.split x ⟨#[c]⟩ ≠ [] := by
    unfold Txt.split
    split
    · simp
    · split
      · simp
      · exact parts_ne _ _ _
  have e2 := replace_rows hn h z
  rw [e] at e2
  rw [e2, ← flat_codes c z _ h, ← toL_join, e]
theorem takeWhile_app {α : Type} {g : α → Bool} : ∀ {a b : List α}, (∀ c ∈ a, g c = true) → (∀ c r, b = c :: r → g c = false) → (a ++ b).takeWhile g = a
  | [], b, _, h => by
    cases b with
    | nil => rfl
    | cons c r => show List.takeWhile g (c :: r) = []; rw [List.takeWhile_cons, h c r rfl]; rfl
  | x :: a, b, h1, h2 => by
    rw [List.cons_append, List.takeWhile_cons, h1 x (.head _)]
    simp only [if_true]
    rw [takeWhile_app (fun c hc => h1 c (.tail _ hc)) h2]
theorem lstrip_app {pre b y : Str} (h1 : ∀ c ∈ pre.cps.toList, y.cps.contains c = true) (h2 : ∀ c r, b.cps.toList = c :: r → y.cps.contains c = false) : Txt.lstripChars (pre ++ b) y = b := by
  have e : Txt.lstripChars (pre ++ b) y = W.stripped y.cps.contains true false (pre ++ b) := W.stripBy_eq _ _ _ _
  rw [e]
  unfold W.stripped
  simp only [if_true, Bool.false_eq_true, if_false]
  rw [toL_app, takeWhile_app h1 h2]
  apply str_ext
  rw [StrLaws.strSub_toList, toL_app, Str.length_append, len_eq, len_eq, List.drop_left, Nat.add_sub_cancel_left]
  exact List.take_of_length_le (Nat.le_refl _)
theorem strip_len {x : Str} {c : Nat} {r : List Nat} (e : x.cps.toList = c :: r) (hc : Unicode.isSpace c = false) : 1 ≤ (Txt.strip x).length := by
  have e2 : Txt.strip x = W.stripped Unicode.isSpace true true x := W.stripBy_eq _ _ _ _
  rw [e2]
  unfold W.stripped
  simp only [if_true]
  have h0 : (x.cps.toList.takeWhile Unicode.isSpace) = [] := by rw [e, List.takeWhile_cons, hc]; rfl
  rw [h0, List.length_nil, List.drop_zero, len_eq (Builtin.Str.strSub _ _ _), StrLaws.strSub_toList, List.drop_zero, List.length_take, Nat.sub_zero, len_eq]
  have h1 : (x.cps.toList.reverse.takeWhile Unicode.isSpace).length < x.cps.toList.length := by
    have hle : (x.cps.toList.reverse.takeWhile Unicode.isSpace).length ≤ x.cps.toList.length := by
      have := (List.takeWhile_sublist (l := x.cps.toList.reverse) Unicode.isSpace).length_le
      simpa using this
    refine Nat.lt_of_le_of_ne hle fun h => ?_
    have h2 : x.cps.toList.reverse.takeWhile Unicode.isSpace = x.cps.toList.reverse := (List.takeWhile_sublist _).eq_of_length (by simpa using h)
    have h3 : c ∈ x.cps.toList.reverse.takeWhile Unicode.isSpace := by rw [h2, e]; simp
    have h4 := List.all_takeWhile (p := Unicode.isSpace) (l := x.cps.toList.reverse)
    have := List.all_eq_true.mp h4 c h3
    rw [hc] at this
    cases this
  omega
theorem slice_lead {lead b : Str} (h : 0 < b.length) : Txt.slice (lead ++ b) none (some (((lead ++ b).length : Int) - (b.length : Int))) = lead := by
  have hl := Str.length_append lead b
  have ei : ((lead ++ b).length : Int) - (b.length : Int) = (lead.length : Int) := by omega
  rw [ei]
  have e1 : Builtin.Str.strSliceIndices none (some (lead.length : Int)) 1 (lead ++ b).length = Builtin.Str.strSliceIndices (some ((0 : Nat) : Int)) (some (lead.length : Int)) 1 (lead ++ b).length := by
    unfold Builtin.Str.strSliceIndices
    have e0 : max (0 : Int) (min (if ((0 : Nat) : Int) < 0 then ((0 : Nat) : Int) + (((lead ++ b).length : Nat) : Int) else ((0 : Nat) : Int)) (((lead ++ b).length : Nat) : Int)) = 0 := by
      have h0 : ¬ (((0 : Nat) : Int) < 0) := by decide
      rw [if_neg h0]; omega
    simp only [show (1 : Int) > 0 by decide, if_true, e0]
  have e2 := StrLaws.sliced_plain (lead ++ b) (a := 0) (b := lead.length) (Nat.zero_le _) (by omega)
  have e3 : (Builtin.Str.strSliceIndices (some ((0 : Nat) : Int)) (some (lead.length : Int)) 1 (lead ++ b).length).length = lead.length := by
    rw [StrLaws.strSliceIndices_plain (Nat.zero_le _) (by omega)]
    simp
  unfold Txt.slice
  rw [e1, if_neg (by rw [e3]; simp; omega)]
  apply str_ext
  rw [e2, toL_app, List.drop_zero, Nat.sub_zero, len_eq lead]
  simp
theorem item_end (y : Str) (c : Nat) : Txt.item (y ++ ⟨#[c]⟩) (-1) = ⟨#[c]⟩ := by
  unfold Txt.item Txt.charAt seqIndex?
  have hl : (y ++ (⟨#[c]⟩ : Str)).length = y.length + 1 := Str.length_append _ _
  simp only [show ((-1 : Int) < 0) from by decide, if_true]
  rw [if_pos (by rw [hl]; simp; omega)]
  have e : ((-1 : Int) + ((y ++ (⟨#[c]⟩ : Str)).length : Int)).toNat = y.length := by rw [hl]; omega
  rw [e]
  simp only [Option.bind_some]
  have e2 : (y ++ (⟨#[c]⟩ : Str)).cps[y.length]? = some c := by
    rw [Str.cps_append]
    show (y.cps ++ #[c])[y.cps.size]? = some c
    simp
  rw [e2]
  rfl
theorem starts_app (l y : Str) : Txt.startswith (l ++ y) l = true := by
  unfold Txt.startswith
  rw [StrLaws.subAt_eq, toL_app, Str.length_append, List.drop_zero, len_eq l]
  simp
theorem mul_zero (x : Str) : Txt.mul x ((0 : Nat) : Int) = Str.empty := by unfold Txt.mul; rw [if_pos (by decide)]
theorem mul_toL (x : Str) (n : Nat) : (Txt.mul x (n : Int)).cps.toList = (List.replicate n x.cps.toList).flatten := by
  have key : ∀ (k : Nat) (acc : Array Nat), ((List.replicate k x.cps).foldl (· ++ ·) acc).toList = acc.toList ++ (List.replicate k x.cps.toList).flatten := by
    intro k
    induction k with
    | zero => intro acc; simp
    | succ k ih => intro acc; rw [List.replicate_succ, List.foldl_cons, ih]; simp [List.replicate_succ]
  unfold Txt.mul
  split
  · rename_i h
    have : n = 0 := by omega
    subst this
    rfl
  · split
    · rename_i h1 h2
      rw [Bool.or_eq_true, beq_iff_eq, beq_iff_eq] at h2
      rcases h2 with h2 | h2
      · have : n = 1 := by omega
        subst this
        simp
      · rw [len_eq] at h2
        have h3 : x.cps.toList = [] := List.eq_nil_of_length_eq_zero h2
        rw [h3]
        simp
    · show ((List.replicate (n : Int).toNat x.cps).foldl (· ++ ·) #[]).toList = _
      rw [key, Int.toNat_natCast]
      simp
theorem mul_succ (x : Str) (n : Nat) : Txt.mul x ((n + 1 : Nat) : Int) = Txt.mul x (n : Int) ++ x := by
  apply str_ext
  rw [mul_toL, toL_app, mul_toL, List.replicate_succ', List.flatten_append]
  simp
theorem mul_all {x : Str} {P : Nat → Prop} (h : ∀ c ∈ x.cps.toList, P c) (n : Int) : ∀ c ∈ (Txt.mul x n).cps.toList, P c := by
  by_cases hn : n < 1
  · unfold Txt.mul; rw [if_pos hn]; intro c hc; exact nomatch hc
  · obtain ⟨k, rfl⟩ : ∃ k : Nat, n = (k : Int) := ⟨n.toNat, by omega⟩
    rw [mul_toL]
    intro c hc
    obtain ⟨l, hl, hc⟩ := List.mem_flatten.mp hc
    rw [(List.mem_replicate.mp hl).2] at hc
    exact h c hc
theorem occ_one {x y : Str} (hw : 1 ≤ y.length) {p : Nat} (hp : StrLaws.At x y x.length p) (hu : ∀ k, StrLaws.At x y x.length k → k = p) : Builtin.Str.occurrences x y 0 x.length (x.length + 1) = [p] := by
  obtain ⟨f, hG, hn⟩ := StrLaws.occ_tight x y hw
  generalize Builtin.Str.occurrences x y 0 x.length (x.length + 1) = l at hG
  cases l with
  | nil =>
    have ef : f = 0 := hG
    exact absurd hp (hn p (by omega))
  | cons c r =>
    obtain ⟨_, hc, _, hr⟩ := hG
    have ec := hu c hc
    subst ec
    cases r with
    | nil => rfl
    | cons d r =>
      obtain ⟨hle, hd, _⟩ := hr
      have := hu d hd
      omega
theorem replace_at {x y z a b : Str} (hx : x = a ++ y ++ b) (hw : 1 ≤ y.length) (ho : Builtin.Str.occurrences x y 0 x.length (x.length + 1) = [a.length]) : Txt.replace x y z = a ++ z ++ b := by
  unfold Txt.replace
  rw [ho]
  have h0 : (y.length == 0) = false := by simp; omega
  simp only [List.isEmpty_cons, h0, Bool.false_and, Bool.or_false, Bool.false_eq_true, if_false]
  rw [StrLaws.glued_eq_join, StrLaws.partsBetween_eq]
  show Builtin.Str.strSub x 0 a.length ++ z ++ Builtin.Str.strSub x (a.length + y.length) x.length = a ++ z ++ b
  have e1 : Builtin.Str.strSub x 0 a.length = a := by
    apply str_ext
    rw [StrLaws.strSub_toList, hx, toL_app, toL_app, List.append_assoc, List.drop_zero, Nat.sub_zero, len_eq a]
    simp
  have e2 : Builtin.Str.strSub x (a.length + y.length) x.length = b := by
    apply str_ext
    have hl : x.length = a.length + y.length + b.length := by rw [hx, Str.length_append, Str.length_append]
    rw [StrLaws.strSub_toList, hl, hx, toL_app, toL_app]
    have e3 : a.length + y.length = (a.cps.toList ++ y.cps.toList).length := by rw [List.length_append, ← len_eq, ← len_eq]
    rw [e3, List.drop_left, Nat.add_sub_cancel_left, len_eq b]
    exact List.take_of_length_le (Nat.le_refl _)
  rw [e1, e2]
theorem replace_one {x y z a b : Str} (hx : x = a ++ y ++ b) (hw : 1 ≤ y.length) (hu : ∀ k, StrLaws.At x y x.length k → k = a.length) :
    Builtin.Str.occurrences x y 0 x.length (x.length + 1) = [a.length] ∧ Txt.replace x y z = a ++ z ++ b := by
  have hp : StrLaws.At x y x.length a.length := by
    subst hx
    refine ⟨by rw [Str.length_append, Str.length_append]; omega, ?_⟩
    rw [StrLaws.subAt_eq, toL_app, toL_app, List.append_assoc, len_eq a, List.drop_left, len_eq y]
    simp
  have ho := occ_one hw hp hu
  exact ⟨ho, replace_at hx hw ho⟩
/-- a sign that stands once in the text and first in the key: the key stands there alone -/
theorem at_once {x y a b : Str} {c : Nat} {r : List Nat} (hx : x = a ++ y ++ b) (hy : y.cps.toList = c :: r) (ha : c ∉ a.cps.toList) (hr : c ∉ r) (hb : c ∉ b.cps.toList) : ∀ k, StrLaws.At x y x.length k → k = a.length := by
  intro k hk
  have h1 : x.cps.toList[k]? = some c := by
    have h2 := hk.2
    rw [StrLaws.subAt_eq, beq_iff_eq, hy] at h2
    have h3 : ((x.cps.toList.drop k).take y.length)[0]? = some c := by rw [h2]; rfl
    have hl : 0 < y.length := by rw [len_eq, hy]; simp
    rw [List.getElem?_take_of_lt hl, List.getElem?_drop] at h3
    simpa using h3
  rw [hx, toL_app, toL_app, hy, List.append_assoc, List.cons_append] at h1
  rw [len_eq]
  rcases Nat.lt_trichotomy k a.cps.toList.length with h | h | h
  · rw [List.getElem?_append_left h] at h1
    exact absurd (List.mem_of_getElem? h1) ha
  · exact h
  · rw [List.getElem?_append_right (by omega)] at h1
    obtain ⟨j, hj⟩ : ∃ j, k - a.cps.toList.length = j + 1 := ⟨k - a.cps.toList.length - 1, by omega⟩
    rw [hj, List.getElem?_cons_succ] at h1
    rcases List.mem_append.mp (List.mem_of_getElem? h1) with h | h
    · exact absurd h hr
    · exact absurd h hb
noncomputable def Blank (x : Str) : Prop := ∀ c ∈ x.cps.toList, c = 32 ∨ c = 9
noncomputable def Solid (b : Str) : Prop := ∃ c r, b.cps.toList = c :: r ∧ Unicode.isSpace c = false
theorem spTab_cps : (Str.ofString " \t").cps.toList = [32, 9] := by decide +kernel
theorem spTab_mem (c : Nat) : (Str.ofString " \t").cps.contains c = true ↔ c = 32 ∨ c = 9 := by
  rw [Array.contains_iff_mem, ← Array.mem_toList_iff, spTab_cps]
  simp
theorem blank_in {x : Str} (h : Blank x) : ∀ c ∈ x.cps.toList, (Str.ofString " \t").cps.contains c = true := fun c hc => (spTab_mem c).mpr (h c hc)
theorem space_blank : Unicode.isSpace 32 = true ∧ Unicode.isSpace 9 = true := by decide +kernel
theorem solid_out {b : Str} (h : Solid b) : ∀ c r, b.cps.toList = c :: r → (Str.ofString " \t").cps.contains c = false := by
  intro c r e
  obtain ⟨c', r', e', hs⟩ := h
  rw [e] at e'
  obtain ⟨rfl, _⟩ := List.cons.inj e'
  cases hq : (Str.ofString " \t").cps.contains c with
  | false => rfl
  | true =>
    rcases (spTab_mem c).mp hq with rfl | rfl
    · rw [space_blank.1] at hs; cases hs
    · rw [space_blank.2] at hs; cases hs
theorem solid_pos {b : Str} (h : Solid b) : 0 < b.length := by
  obtain ⟨c, r, e, _⟩ := h
  rw [len_eq, e]; simp
theorem Blank.app {x y : Str} (h : Blank x) (k : Blank y) : Blank (x ++ y) := by
  intro c hc
  rw [toL_app] at hc
  exact (List.mem_append.mp hc).elim (h c) (k c)
theorem Blank.mul {x : Str} (h : Blank x) (n : Int) : Blank (Txt.mul x n) := mul_all h n
section
variable {st st' : RS} {lead b : Str}
theorem row_fresh {A C : List Str} (hl : Blank lead) (hb : Solid b) (hlen : (lead ++ b).length ≤ 5000) (h1 : st.held = Str.ofString "") (h2 : st.aw = false) (h3 : st.leads = A ++ lead :: C) (h4 : ∀ x ∈ C, x ≠ lead)
    (hf : FinIs { RS.closeN C.length st with leads := A ++ [lead] } b st') : RdRow st (lead ++ b) st' := by
  have hp := solid_pos hb
  obtain ⟨c, r, e, hs⟩ := hb
  have hbl : b.length ≤ 5000 := by have := Str.length_append lead b; omega
  exact .fresh (lstrip_app (blank_in hl) (solid_out ⟨c, r, e, hs⟩)) rfl (strip_len e hs) (Nat.le_trans (len_strip b) hbl) hlen hbl (slice_lead hp) h1 h2 h3 h4 hf
theorem row_deep {A : List Str} {l : Str} (hl : Blank lead) (hb : Solid b) (hlen : (lead ++ b).length ≤ 5000) (h1 : st.held = Str.ofString "") (h2 : st.aw = true) (h3 : st.leads = A ++ [l]) (h4 : lead ≠ l) (h5 : Txt.startswith lead l = true)
    (hf : FinIs { st with leads := A ++ [l] ++ [lead], aw := false } b st') : RdRow st (lead ++ b) st' := by
  have hp := solid_pos hb
  obtain ⟨c, r, e, hs⟩ := hb
  have hbl : b.length ≤ 5000 := by have := Str.length_append lead b; omega
  exact .deep (lstrip_app (blank_in hl) (solid_out ⟨c, r, e, hs⟩)) rfl (strip_len e hs) (Nat.le_trans (len_strip b) hbl) hlen hbl (slice_lead hp) h1 h2 h3 h4 h5 hf
theorem row_hold {y : Str} (hl : Blank lead) (hb : Solid b) (hlen : (lead ++ b).length ≤ 5000) (h1 : st.held = y ++ Str.ofString ",") (h2 : st.held.length ≤ 5000) (h3 : st.aw = false)
    (hf : FinIs { st with held := Str.ofString "" } (st.held ++ (Str.ofString " " ++ b)) st') : RdRow st (lead ++ b) st' := by
  have hp := solid_pos hb
  obtain ⟨c, r, e, hs⟩ := hb
  have hbl : b.length ≤ 5000 := by have := Str.length_append lead b; omega
  have ec : Str.ofString "," = ⟨#[44]⟩ := by decide +kernel
  refine .hold (lstrip_app (blank_in hl) (solid_out ⟨c, r, e, hs⟩)) rfl (strip_len e hs) (Nat.le_trans (len_strip b) hbl) hlen hbl (slice_lead hp) ?_ ?_ h2 h3 hf
  · rw [h1, Str.length_append, ec]; show 1 ≤ _ + 1; omega
  · rw [h1, ec]; exact item_end _ _
theorem row_blank (hl : Blank lead) (hlen : lead.length ≤ 5000) : RdRow st lead st := by
  have e0 : Str.ofString "" = Str.empty := by decide +kernel
  have e1 : Txt.lstripChars lead (Str.ofString " \t") = Str.empty := by
    have := lstrip_app (pre := lead) (b := Str.empty) (y := Str.ofString " \t") (blank_in hl) (fun c r e => nomatch e)
    rwa [Str.append_empty] at this
  refine .blank e1 ?_ hlen (by decide)
  decide +kernel
theorem row_ret (hl : Blank lead) (hlen : lead.length ≤ 4000) : RdRow st (lead ++ Str.ofString "\r") st := by
  have e1 : Txt.lstripChars (lead ++ Str.ofString "\r") (Str.ofString " \t") = Str.ofString "\r" := by
    refine lstrip_app (blank_in hl) (fun c r e => ?_)
    have e2 : (Str.ofString "\r").cps.toList = [13] := by decide +kernel
    rw [e2] at e
    obtain ⟨rfl, _⟩ := List.cons.inj e
    decide +kernel
  have e3 : (Str.ofString "\r").length = 1 := by decide +kernel
  refine .blank e1 (by decide +kernel) (by rw [Str.length_append, e3]; omega) (by rw [e3]; omega)
end
theorem Rds.app {st st' st'' : RS} {a b : List Str} (h : Rds st a st') (k : Rds st' b st'') : Rds st (a ++ b) st'' := by
  induction h with
  | nil => exact k
  | cons r _ ih => exact .cons r (ih k)
theorem Rds.one {st st' : RS} {a : Str} (h : RdRow st a st') : Rds st [a] st' := .cons h .nil
theorem parens : Str.ofString "(" = ⟨#[40]⟩ ∧ Str.ofString ")" = ⟨#[41]⟩ ∧ Str.ofString ":" = ⟨#[58]⟩ ∧ Str.ofString "," = ⟨#[44]⟩ := by decide +kernel
theorem fin_put {st : RS} {b y : Str} {c : Nat} (h1 : 40 ∉ b.cps.toList) (h2 : 41 ∉ b.cps.toList) (h3 : b = y ++ ⟨#[c]⟩) (h4 : c ≠ 58) : FinIs st b { st with top := st.top ++ [.str b], held := Str.ofString "" } := by
  refine .put (i := 0) (j := 0) ?_ ?_ rfl ?_ (c := ⟨#[c]⟩) ?_ ?_
  · rw [parens.1]; exact count_none h1
  · rw [parens.2.1]; exact count_none h2
  · rw [h3, Str.length_append]; show 1 ≤ _ + 1; omega
  · rw [h3]; exact item_end _ _
  · rw [parens.2.2.1]
    intro h
    have : #[c] = #[58] := congrArg Str.cps h
    simp at this
    exact h4 this
theorem fin_opn {st : RS} {b y : Str} (h1 : 40 ∉ b.cps.toList) (h2 : 41 ∉ b.cps.toList) (h3 : b = y ++ Str.ofString ":") : FinIs st b { st with stk := st.stk ++ [(st.top, b)], top := [], aw := true, held := Str.ofString "" } := by
  rw [parens.2.2.1] at h3
  refine .opn (i := 0) (j := 0) ?_ ?_ rfl ?_ ?_
  · rw [parens.1]; exact count_none h1
  · rw [parens.2.1]; exact count_none h2
  · rw [h3, Str.length_append]; show 1 ≤ _ + 1; omega
  · rw [parens.2.2.1, h3]; exact item_end _ _
/-- the leads of the levels below n -/
noncomputable def lv (pre step : Str) (d : Nat) : Str := pre ++ Txt.mul step (d : Int)
noncomputable def leadsB (pre step : Str) (n : Nat) : List Str := (List.range n).map (lv pre step)
theorem leadsB_succ (pre step : Str) (n : Nat) : leadsB pre step (n + 1) = leadsB pre step n ++ [lv pre step n] := by simp [leadsB, List.range_succ]
theorem lv_succ (pre step : Str) (n : Nat) : lv pre step (n + 1) = lv pre step n ++ step := by unfold lv; rw [mul_succ, Str.append_assoc]
theorem lv_len (pre step : Str) (n : Nat) : (lv pre step n).length = pre.length + step.length * n := by unfold lv; rw [Str.length_append, mul_len_nat]
theorem RS.closeN_held (j : Nat) (st : RS) : (RS.closeN j st).held = st.held := by
  induction j generalizing st with
  | zero => rfl
  | succ j ih =>
    show (RS.closeN j st.closeOne).held = _
    rw [ih]
    unfold RS.closeOne
    split <;> rfl
theorem RS.closeN_aw' (j : Nat) (st : RS) : (RS.closeN j st).aw = st.aw := by
  induction j generalizing st with
  | zero => rfl
  | succ j ih =>
    show (RS.closeN j st.closeOne).aw = _
    rw [ih]
    unfold RS.closeOne
    split <;> rfl
theorem RS.closeN_succ (j : Nat) (st : RS) : RS.closeN (j + 1) st = (RS.closeN j st).closeOne := by
  induction j generalizing st with
  | zero => rfl
  | succ j ih => exact ih st.closeOne
theorem append_ne {l step : Str} (h : 0 < step.length) : l ++ step ≠ l := by
  intro e
  have := congrArg Str.length e
  rw [Str.length_append] at this
  omega
/-- where a program is drawn within the template -/
structure Spot where
  pre : Str
  step : Str
  A : List Str
  l : Str
  S : List (List Dat × Str)
structure Spot.Ok (p : Spot) : Prop where
  pre : Blank p.pre
  step : Blank p.step
  ne : p.pre ≠ p.l
  starts : Txt.startswith p.pre p.l = true
  pos : 0 < p.step.length
  len : p.step.length ≤ 3
  plen : p.pre.length ≤ 8
/-- the reader's state, against the program under the pen -/
inductive Sim (p : Spot) (st : PS) : RS → Prop
  | wait (h : st.top = []) : Sim p st ⟨p.A ++ [p.l] ++ leadsB p.pre p.step st.stk.length, p.S ++ st.stk, [], true, Str.ofString ""⟩
  | run {r : RS} (h : st.top ≠ []) (C : List Str) (h0 : r.held = Str.ofString "") (h1 : r.aw = false) (h2 : r.leads = p.A ++ [p.l] ++ leadsB p.pre p.step (st.stk.length + 1) ++ C)
      (h3 : ∀ x ∈ C, (lv p.pre p.step st.stk.length).length < x.length) (h4 : (RS.closeN C.length r).stk = p.S ++ st.stk) (h5 : (RS.closeN C.length r).top = st.top) : Sim p st r
theorem sim_row {p : Spot} (ok : p.Ok) {st : PS} {r r' : RS} {b : Str} (h : Sim p st r) (hb : Solid b) (hbl : b.length ≤ 100) (hd : st.stk.length ≤ 100)
    (hf : FinIs ⟨p.A ++ [p.l] ++ leadsB p.pre p.step (st.stk.length + 1), p.S ++ st.stk, st.top, false, Str.ofString ""⟩ b r') : RdRow r (p.pre ++ (Txt.mul p.step (st.stk.length : Int) ++ b)) r' := by
  have hbk : Blank (lv p.pre p.step st.stk.length) := ok.pre.app (ok.step.mul _)
  have hlen : (lv p.pre p.step st.stk.length ++ b).length ≤ 5000 := by
    rw [Str.length_append, lv_len]
    have h1 := ok.len
    have h2 := ok.plen
    have h3 := Nat.mul_le_mul h1 hd
    omega
  have er : p.pre ++ (Txt.mul p.step (st.stk.length : Int) ++ b) = lv p.pre p.step st.stk.length ++ b := by unfold lv; rw [Str.append_assoc]
  rw [er]
  cases h with
  | wait ht =>
    rw [ht] at hf
    cases hs : st.stk with
    | nil =>
      rw [hs] at hf hbk hlen
      have e0 : lv p.pre p.step ([] : List (List Dat × Str)).length = p.pre := by
        unfold lv
        show p.pre ++ Txt.mul p.step ((0 : Nat) : Int) = p.pre
        rw [mul_zero, Str.append_empty]
      rw [e0] at hbk hlen ⊢
      refine row_deep hbk hb hlen rfl rfl (A := p.A) (l := p.l) ?_ ok.ne ok.starts ?_
      · show p.A ++ [p.l] ++ leadsB p.pre p.step 0 = p.A ++ [p.l]
        simp [leadsB]
      · have e1 : leadsB p.pre p.step (([] : List (List Dat × Str)).length + 1) = [p.pre] := by
          rw [leadsB_succ, e0]; rfl
        rw [e1] at hf
        exact hf
    | cons q t =>
      have hn : st.stk.length = t.length + 1 := by rw [hs]; rfl
      rw [← hs]
      rw [hn] at hf hbk hlen ⊢
      refine row_deep hbk hb hlen rfl rfl (A := p.A ++ [p.l] ++ leadsB p.pre p.step t.length) (l := lv p.pre p.step t.length) ?_ ?_ ?_ ?_
      · show p.A ++ [p.l] ++ leadsB p.pre p.step (t.length + 1) = _
        rw [leadsB_succ]; simp
      · rw [lv_succ]; exact append_ne ok.pos
      · rw [lv_succ]; exact starts_app _ _
      · rw [leadsB_succ, leadsB_succ] at hf
        simpa using hf
  | run ht C h0 h1 h2 h3 h4 h5 =>
    refine row_fresh hbk hb hlen h0 h1 (A := p.A ++ [p.l] ++ leadsB p.pre p.step st.stk.length) (C := C) ?_ ?_ ?_
    · rw [h2, leadsB_succ]; simp
    · intro x hx e
      have := h3 x hx
      rw [e] at this
      omega
    · dsimp only
      rw [h4, h5, RS.closeN_aw', RS.closeN_held, h0, h1]
      rw [leadsB_succ] at hf
      simpa using hf
theorem sim_put {p : Spot} (ok : p.Ok) {st : PS} {r : RS} {b y : Str} {c : Nat} (h : Sim p st r) (hb : Solid b) (hbl : b.length ≤ 100) (hd : st.stk.length ≤ 100)
    (h1 : 40 ∉ b.cps.toList) (h2 : 41 ∉ b.cps.toList) (h3 : b = y ++ ⟨#[c]⟩) (h4 : c ≠ 58) : ∃ r', RdRow r (p.pre ++ (Txt.mul p.step (st.stk.length : Int) ++ b)) r' ∧ Sim p (st.put p.step (.str b) b []) r' := by
  refine ⟨_, sim_row ok h hb hbl hd (fin_put h1 h2 h3 h4), ?_⟩
  refine .run (by simp [PS.put]) [] rfl rfl ?_ (fun x hx => nomatch hx) rfl rfl
  simp [PS.put]
theorem sim_open {p : Spot} (ok : p.Ok) {st : PS} {r : RS} {b y : Str} (h : Sim p st r) (hb : Solid b) (hbl : b.length ≤ 100) (hd : st.stk.length ≤ 100)
    (h1 : 40 ∉ b.cps.toList) (h2 : 41 ∉ b.cps.toList) (h3 : b = y ++ Str.ofString ":") : ∃ r', RdRow r (p.pre ++ (Txt.mul p.step (st.stk.length : Int) ++ b)) r' ∧ Sim p (st.openB p.step b) r' := by
  refine ⟨_, sim_row ok h hb hbl hd (fin_opn h1 h2 h3), ?_⟩
  have := Sim.wait (p := p) (st := st.openB p.step b) rfl
  simp only [PS.openB, List.length_append, List.length_cons, List.length_nil, Nat.zero_add] at this ⊢
  simpa using this
theorem sim_pop {p : Spot} (ok : p.Ok) {st : PS} {r : RS} {ps : List (List Dat × Str)} {ds : List Dat} {X : Str} (h : Sim p st r) (ht : st.top ≠ []) (hs : st.stk = ps ++ [(ds, X)]) : Sim p st.pop r := by
  rw [PS.pop_snoc st ps ds X hs]
  cases h with
  | wait h => exact absurd h ht
  | run ht C h0 h1 h2 h3 h4 h5 =>
    have hl : st.stk.length = ps.length + 1 := by rw [hs]; simp
    rw [hl] at h2 h3
    refine .run (by simp) (lv p.pre p.step (ps.length + 1) :: C) h0 h1 ?_ ?_ ?_ ?_
    · rw [h2, leadsB_succ]; simp
    · intro x hx
      have e1 := lv_len p.pre p.step ps.length
      have e2 := lv_len p.pre p.step (ps.length + 1)
      dsimp only
      rcases List.mem_cons.mp hx with rfl | hx
      · rw [lv_succ, Str.length_append]
        have := ok.pos
        omega
      · have := h3 x hx
        rw [lv_succ, Str.length_append] at this
        omega
    all_goals
      rw [List.length_cons, RS.closeN_succ]
      generalize RS.closeN C.length r = q at h4 h5
      obtain ⟨a, b, c, d, e⟩ := q
      dsimp only at h4 h5
      subst h4 h5
      rw [hs, ← List.append_assoc, RS.closeOne_snoc]
structure TextOk (b : Str) : Prop where
  solid : Solid b
  chars : ∀ c ∈ b.cps.toList, c ≠ 10 ∧ c ≠ 123 ∧ c < 1114112
  len : b.length ≤ 20
structure PutOk (b : Str) : Prop extends TextOk b where
  no1 : 40 ∉ b.cps.toList
  no2 : 41 ∉ b.cps.toList
  fin : ∃ y c, b = y ++ ⟨#[c]⟩ ∧ c ≠ 58
structure HeadOk (b : Str) : Prop extends TextOk b where
  no1 : 40 ∉ b.cps.toList
  no2 : 41 ∉ b.cps.toList
  fin : ∃ y, b = y ++ Str.ofString ":"
theorem word_cps (i : Int) : (word i).cps.toList = 120 :: (num i).cps.toList := by
  unfold word
  rw [toL_app]
  have : (Str.ofString "x").cps.toList = [120] := by decide +kernel
  rw [this]; rfl
theorem word_chars {i : Int} (h0 : 0 ≤ i) (h1 : i < 64) : ∀ c ∈ (word i).cps.toList, c = 120 ∨ (48 ≤ c ∧ c < 58) := by
  intro c hc
  rw [word_cps] at hc
  rcases List.mem_cons.mp hc with rfl | hc
  · exact .inl rfl
  · exact .inr (num_digs h0 h1 c hc)
theorem solid_x : Unicode.isSpace 120 = false := by decide +kernel
theorem word_solid (i : Int) (y : Str) : Solid (word i ++ y) := ⟨120, (num i).cps.toList ++ y.cps.toList, by rw [toL_app, word_cps]; rfl, solid_x⟩
theorem snoc_str {x : Str} (h : 1 ≤ x.length) : ∃ y c, x = y ++ ⟨#[c]⟩ ∧ c ∈ x.cps.toList := by
  have hn : x.cps.toList ≠ [] := fun q => by rw [len_eq, q] at h; cases h
  obtain ⟨p, c, e⟩ := snoc_of hn
  refine ⟨⟨p.toArray⟩, c, str_ext ?_, by rw [e]; simp⟩
  rw [e, toL_app]
theorem word_put {i : Int} (h0 : 0 ≤ i) (h1 : i < 64) : PutOk (word i) := by
  have hw := word_chars h0 h1
  have hl := word_len h0 h1
  refine ⟨⟨?_, ?_, by omega⟩, ?_, ?_, ?_⟩
  · exact ⟨120, _, word_cps i, solid_x⟩
  · intro c hc; have := hw c hc; omega
  · intro hc; have := hw _ hc; omega
  · intro hc; have := hw _ hc; omega
  · obtain ⟨y, c, e, hc⟩ := snoc_str (x := word i) (by omega)
    exact ⟨y, c, e, by have := hw c hc; omega⟩
theorem signs_ok : ∀ x ∈ signsL, x.length ≤ 4 ∧ ∀ c ∈ x.cps.toList, c ≠ 10 ∧ c ≠ 123 ∧ c < 1114112 ∧ c ≠ 40 ∧ c ≠ 41 := by decide +kernel
theorem at_mem {l : List Str} (k : Int) : at_ l k = Str.empty ∨ at_ l k ∈ l := by
  unfold at_
  rw [List.getD_eq_getElem?_getD]
  cases h : l[k.toNat]? with
  | none => exact .inl rfl
  | some x => exact .inr (List.mem_of_getElem? h)
theorem sign_put {i q : Int} (h0 : 0 ≤ i) (h1 : i < 64) : PutOk (signT i q) := by
  have hw := word_chars h0 h1
  have hl := word_len h0 h1
  have hy : (Str.ofString "y") = ⟨#[121]⟩ := by decide +kernel
  have hs : (at_ signsL (Int.fmod q 8)).length ≤ 4 ∧ ∀ c ∈ (at_ signsL (Int.fmod q 8)).cps.toList, c ≠ 10 ∧ c ≠ 123 ∧ c < 1114112 ∧ c ≠ 40 ∧ c ≠ 41 := by
    rcases at_mem (l := signsL) (Int.fmod q 8) with h | h
    · rw [h]; exact ⟨by decide, fun c hc => nomatch hc⟩
    · exact signs_ok _ h
  have all : ∀ c ∈ (signT i q).cps.toList, c ≠ 10 ∧ c ≠ 123 ∧ c < 1114112 ∧ c ≠ 40 ∧ c ≠ 41 := by
    intro c hc
    unfold signT at hc
    rw [toL_app, toL_app, hy] at hc
    rcases List.mem_append.mp hc with hc | hc
    · rcases List.mem_append.mp hc with hc | hc
      · have := hw c hc; omega
      · exact hs.2 c hc
    · rw [List.mem_singleton.mp hc]; decide
  refine ⟨⟨?_, ?_, ?_⟩, ?_, ?_, ?_⟩
  · unfold signT; rw [Str.append_assoc]; exact word_solid i _
  · intro c hc; have := all c hc; exact ⟨this.1, this.2.1, this.2.2.1⟩
  · unfold signT; rw [Str.length_append, Str.length_append, hy]; have : (⟨#[121]⟩ : Str).length = 1 := rfl; omega
  · intro hc; exact (all _ hc).2.2.2.1 rfl
  · intro hc; exact (all _ hc).2.2.2.2 rfl
  · exact ⟨word i ++ at_ signsL (Int.fmod q 8), 121, by unfold signT; rw [hy], by decide⟩
theorem ground_put {b y : Str} {c : Nat} (h : (match b.cps.toList with | [] => false | a :: _ => !Unicode.isSpace a) = true) (h1 : (b.cps.toList.all fun c => c != 10 && c != 123 && decide (c < 1114112) && c != 40 && c != 41) = true) (h2 : b.length ≤ 20) (h3 : b = y ++ ⟨#[c]⟩) (h4 : c ≠ 58) : PutOk b := by
  have all : ∀ c ∈ b.cps.toList, c ≠ 10 ∧ c ≠ 123 ∧ c < 1114112 ∧ c ≠ 40 ∧ c ≠ 41 := by
    intro c hc
    have := List.all_eq_true.mp h1 c hc
    simp only [Bool.and_eq_true, bne_iff_ne, decide_eq_true_eq] at this
    exact ⟨this.1.1.1.1, this.1.1.1.2, this.1.1.2, this.1.2, this.2⟩
  refine ⟨⟨?_, fun c hc => ⟨(all c hc).1, (all c hc).2.1, (all c hc).2.2.1⟩, h2⟩, fun hc => (all _ hc).2.2.2.1 rfl, fun hc => (all _ hc).2.2.2.2 rfl, y, c, h3, h4⟩
  split at h
  · cases h
  · rename_i a r e; exact ⟨a, r, e, by simpa using h⟩
theorem pass_put : PutOk sPass := ground_put (y := Str.ofString "pas") (c := 115) (by decide +kernel) (by decide +kernel) (by decide +kernel) (by decide +kernel) (by decide)
theorem head_ok {i : Int} (h0 : 0 ≤ i) (h1 : i < 64) : HeadOk (headT i) := by
  have hw := word_chars h0 h1
  have hl := word_len h0 h1
  have e1 : (Str.ofString "if ").cps.toList = [105, 102, 32] := by decide +kernel
  have e2 : (Str.ofString ":").cps.toList = [58] := by decide +kernel
  have l1 : (Str.ofString "if ").length = 3 := by decide +kernel
  have l2 : (Str.ofString ":").length = 1 := by decide +kernel
  have all : ∀ c ∈ (headT i).cps.toList, c ≠ 10 ∧ c ≠ 123 ∧ c < 1114112 ∧ c ≠ 40 ∧ c ≠ 41 := by
    intro c hc
    unfold headT at hc
    rw [toL_app, toL_app, e1, e2] at hc
    simp only [List.mem_append, List.mem_cons, List.not_mem_nil, or_false] at hc
    rcases hc with (hc | hc) | hc
    · omega
    · have := hw c hc; omega
    · omega
  refine ⟨⟨?_, fun c hc => ⟨(all c hc).1, (all c hc).2.1, (all c hc).2.2.1⟩, ?_⟩, fun hc => (all _ hc).2.2.2.1 rfl, fun hc => (all _ hc).2.2.2.2 rfl, Str.ofString "if " ++ word i, rfl⟩
  · refine ⟨105, 102 :: 32 :: ((word i).cps.toList ++ [58]), ?_, by decide +kernel⟩
    unfold headT; rw [toL_app, toL_app, e1, e2]; simp
  · unfold headT; rw [Str.length_append, Str.length_append, l1, l2]; omega
/-- the held statement: three rows -/
theorem five_texts (w : Str) : w ++ Str.ofString "(a," ++ (Str.ofString " " ++ Str.ofString "b,") = w ++ Str.ofString "(a, b," ∧ w ++ Str.ofString "(a, b," ++ (Str.ofString " " ++ Str.ofString ")") = w ++ Str.ofString "(a, b, )" := by
  constructor
  · rw [Str.append_assoc]; exact congrArg (w ++ ·) (by decide +kernel)
  · rw [Str.append_assoc]; exact congrArg (w ++ ·) (by decide +kernel)
theorem five_count {w t u : Str} (hw : 40 ∉ w.cps.toList) (ht : 40 ∉ u.cps.toList) (e : t = ⟨#[40]⟩ ++ u) : Txt.count (w ++ t) ⟨#[40]⟩ = 1 := by
  have := count_rows (c := 40) (rows := [w, u]) (by simp) (fun p hp => by
    rcases List.mem_cons.mp hp with rfl | hp
    · exact hw
    · rw [List.mem_singleton.mp hp]; exact ht) (x := w ++ t) (by rw [e, ← Str.append_assoc]; rfl)
  simpa using this
theorem five_count2 {w t u : Str} (hw : 41 ∉ w.cps.toList) (ht : 41 ∉ u.cps.toList) (e : t = u ++ ⟨#[41]⟩) : Txt.count (w ++ t) ⟨#[41]⟩ = 1 := by
  have := count_rows (c := 41) (rows := [w ++ u, Str.empty]) (by simp) (fun p hp => by
    rcases List.mem_cons.mp hp with rfl | hp
    · rw [toL_app]; intro q; exact (List.mem_append.mp q).elim hw ht
    · rw [List.mem_singleton.mp hp]; intro q; exact nomatch q) (x := w ++ t) (by
      show w ++ t = w ++ u ++ ⟨#[41]⟩ ++ Str.empty
      rw [Str.append_empty, Str.append_assoc, e])
  simpa using this
theorem count_app_none {w t : Str} {c : Nat} (hw : c ∉ w.cps.toList) (ht : c ∉ t.cps.toList) : Txt.count (w ++ t) ⟨#[c]⟩ = 0 := count_none (by rw [toL_app]; intro q; exact (List.mem_append.mp q).elim hw ht)
theorem blank_sp : Blank (Str.ofString " ") ∧ Blank (Str.ofString "\t") := by
  constructor
  · have e : (Str.ofString " ").cps.toList = [32] := by decide +kernel
    intro c hc; rw [e] at hc; exact .inl (List.mem_singleton.mp hc)
  · have e : (Str.ofString "\t").cps.toList = [9] := by decide +kernel
    intro c hc; rw [e] at hc; exact .inr (List.mem_singleton.mp hc)
theorem solid_b : Solid (Str.ofString "b,") ∧ Solid (Str.ofString ")") := by
  constructor
  · exact ⟨98, [44], by decide +kernel, by decide +kernel⟩
  · exact ⟨41, [], by decide +kernel, by decide +kernel⟩
theorem sim_five {p : Spot} (ok : p.Ok) {st : PS} {r : RS} {w : Str} {k1 k2 : Int} (h : Sim p st r) (hw : PutOk w) (hwl : w.length ≤ 10) (hd : st.stk.length ≤ 100) (hk1 : k1 ≤ 7) (hk2 : k2 ≤ 7) :
    ∃ r', Rds r [p.pre ++ (Txt.mul p.step (st.stk.length : Int) ++ (w ++ Str.ofString "(a,")), p.pre ++ (Txt.mul (Str.ofString " ") k1 ++ Str.ofString "b,"), p.pre ++ (Txt.mul (Str.ofString "\t") k2 ++ Str.ofString ")")] r' ∧
      Sim p (st.put p.step (.str (w ++ Str.ofString "(a, b, )")) (w ++ Str.ofString "(a,") [Txt.mul (Str.ofString " ") k1 ++ Str.ofString "b,", Txt.mul (Str.ofString "\t") k2 ++ Str.ofString ")"]) r' := by
  obtain ⟨t1, t2⟩ := five_texts w
  have ecm : Str.ofString "," = ⟨#[44]⟩ := parens.2.2.2
  have l1 : (Str.ofString "(a,").length = 3 := by decide +kernel
  have l2 : (Str.ofString "b,").length = 2 := by decide +kernel
  have l3 : (Str.ofString ")").length = 1 := by decide +kernel
  have l4 : (Str.ofString "(a, b,").length = 6 := by decide +kernel
  have m1 := mul_len_le (x := Str.ofString " ") (a := 1) (c := 7) (by decide +kernel) hk1
  have m2 := mul_len_le (x := Str.ofString "\t") (a := 1) (c := 7) (by decide +kernel) hk2
  have hpl := ok.plen
  have hs1 : Solid (w ++ Str.ofString "(a,") := by
    obtain ⟨c, q, e, hs⟩ := hw.solid
    exact ⟨c, q ++ (Str.ofString "(a,").cps.toList, by rw [toL_app, e]; rfl, hs⟩
  have n1 : 40 ∉ w.cps.toList := hw.no1
  have n2 : 41 ∉ w.cps.toList := hw.no2
  have r1 := sim_row ok h hs1 (by rw [Str.length_append]; omega) hd (.keep (i := 1) (j := 0) (by rw [parens.1]; exact five_count (u := Str.ofString "a,") n1 (by decide +kernel) (by decide +kernel)) (by rw [parens.2.1]; exact count_app_none n2 (by decide +kernel)) (by decide))
  refine ⟨⟨p.A ++ [p.l] ++ leadsB p.pre p.step (st.stk.length + 1), p.S ++ st.stk, st.top ++ [.str (w ++ Str.ofString "(a, b, )")], false, Str.ofString ""⟩, .cons r1 (.cons (st' := ⟨p.A ++ [p.l] ++ leadsB p.pre p.step (st.stk.length + 1), p.S ++ st.stk, st.top, false, w ++ Str.ofString "(a, b,"⟩) ?_ (.cons ?_ .nil)), ?_⟩
  · rw [← Str.append_assoc]
    refine row_hold (y := w ++ Str.ofString "(a") (ok.pre.app (blank_sp.1.mul _)) solid_b.1 (by rw [Str.length_append, Str.length_append]; omega) ?_ (by show (w ++ Str.ofString "(a,").length ≤ _; rw [Str.length_append]; omega) rfl ?_
    · show w ++ Str.ofString "(a," = _
      rw [Str.append_assoc]; exact congrArg (w ++ ·) (by decide +kernel)
    · show FinIs _ (w ++ Str.ofString "(a," ++ (Str.ofString " " ++ Str.ofString "b,")) _
      rw [t1]
      exact .keep (i := 1) (j := 0) (by rw [parens.1]; exact five_count (u := Str.ofString "a, b,") n1 (by decide +kernel) (by decide +kernel)) (by rw [parens.2.1]; exact count_app_none n2 (by decide +kernel)) (by decide)
  · rw [← Str.append_assoc]
    refine row_hold (y := w ++ Str.ofString "(a, b") (ok.pre.app (blank_sp.2.mul _)) solid_b.2 (by rw [Str.length_append, Str.length_append]; omega) ?_ (by show (w ++ Str.ofString "(a, b,").length ≤ _; rw [Str.length_append]; omega) rfl ?_
    · show w ++ Str.ofString "(a, b," = _
      rw [Str.append_assoc]; exact congrArg (w ++ ·) (by decide +kernel)
    · show FinIs _ (w ++ Str.ofString "(a, b," ++ (Str.ofString " " ++ Str.ofString ")")) _
      rw [t2]
      have ee : w ++ Str.ofString "(a, b, )" = (w ++ Str.ofString "(a, b, ") ++ ⟨#[41]⟩ := by rw [Str.append_assoc]; exact congrArg (w ++ ·) (by decide +kernel)
      refine .put (i := 1) (j := 1) (c := ⟨#[41]⟩) (by rw [parens.1]; exact five_count (u := Str.ofString "a, b, )") n1 (by decide +kernel) (by decide +kernel)) (by rw [parens.2.1]; exact five_count2 (u := Str.ofString "(a, b, ") n2 (by decide +kernel) (by decide +kernel)) rfl ?_ ?_ (by decide +kernel)
      · rw [ee, Str.length_append]; show 1 ≤ _ + 1; omega
      · rw [ee]; exact item_end _ _
  · refine .run (by simp [PS.put]) [] rfl rfl ?_ (fun x hx => nomatch hx) rfl rfl
    simp [PS.put]
theorem kqd_mono : ∀ (n : Nat) (d : Dat), kqdOk n d = true → kqdOk (n + 1) d = true := by
  intro n
  induction n with
  | zero => intro d h; cases d <;> simp_all [kqdOk]
  | succ n ih =>
    intro d h
    cases d with
    | tuple ds => simp only [kqdOk, List.all_eq_true] at h ⊢; exact fun x hx => ih x (h x hx)
    | list ds => simp only [kqdOk, List.all_eq_true] at h ⊢; exact fun x hx => ih x (h x hx)
    | _ => simp_all [kqdOk]
theorem kqd_str (n : Nat) (x : Str) : kqdOk n (.str x) = PyData.strOk x := by cases n <;> rfl
theorem strOk_of {x : Str} (h : ∀ c ∈ x.cps.toList, c < 1114112) : PyData.strOk x = true := by
  unfold PyData.strOk
  rw [← Array.all_toList]
  exact List.all_eq_true.mpr fun c hc => decide_eq_true (h c hc)
structure Fit (p : Spot) (r0 : RS) (st : PS) (k m : Nat) : Prop where
  run : ∃ r, Rds r0 (st.rows.map (p.pre ++ ·)) r ∧ Sim p st r
  stk : st.stk.length ≤ k
  rows : ∀ x ∈ st.rows, (∀ c ∈ x.cps.toList, c ≠ 10 ∧ c ≠ 123) ∧ x.length ≤ 3 * k + 30
  cnt : st.rows.length ≤ 4 * k
  dat : ∃ c, c + st.stk.length ≤ m ∧ (∀ d ∈ st.top, kqdOk (2 * c) d = true) ∧ ∀ q ∈ st.stk, PyData.strOk q.2 = true ∧ ∀ d ∈ q.1, kqdOk (2 * c) d = true
section
variable {p : Spot} {r0 : RS} {st : PS} {k m : Nat}
theorem Fit.mono {k' m' : Nat} (h : Fit p r0 st k m) (hk : k ≤ k') (hm : m ≤ m') : Fit p r0 st k' m' := by
  obtain ⟨h1, h2, h3, h4, c, h5, h6⟩ := h
  exact ⟨h1, by omega, fun x hx => ⟨(h3 x hx).1, by have := (h3 x hx).2; omega⟩, by omega, c, by omega, h6⟩
theorem blank_chars {x : Str} (h : Blank x) : ∀ c ∈ x.cps.toList, c ≠ 10 ∧ c ≠ 123 := fun c hc => by rcases h c hc with rfl | rfl <;> decide
theorem line_ok (ok : p.Ok) {b : Str} (hb : TextOk b) {d : Nat} (hd : d ≤ k) : (∀ c ∈ (Txt.mul p.step (d : Int) ++ b).cps.toList, c ≠ 10 ∧ c ≠ 123) ∧ (Txt.mul p.step (d : Int) ++ b).length ≤ 3 * (k + 1) + 30 := by
  constructor
  · intro c hc
    rw [toL_app] at hc
    rcases List.mem_append.mp hc with hc | hc
    · exact blank_chars (ok.step.mul _) c hc
    · exact ⟨(hb.chars c hc).1, (hb.chars c hc).2.1⟩
  · rw [Str.length_append, mul_len_nat]
    have h1 := Nat.mul_le_mul ok.len hd
    have := hb.len
    omega
theorem fit_put (ok : p.Ok) {b : Str} (h : Fit p r0 st k m) (hk : k ≤ 80) (hb : PutOk b) : Fit p r0 (st.put p.step (.str b) b []) (k + 1) m := by
  obtain ⟨⟨r, hr, hs⟩, h2, h3, h4, c, h5, h6, h7⟩ := h
  obtain ⟨y, e, e1, e2⟩ := hb.fin
  obtain ⟨r', q1, q2⟩ := sim_put ok hs hb.solid (by have := hb.len; omega) (by omega) hb.no1 hb.no2 e1 e2
  refine ⟨⟨r', ?_, q2⟩, by show st.stk.length ≤ _; omega, ?_, ?_, c, h5, ?_, h7⟩
  · show Rds r0 ((st.rows ++ [_]).map _) r'
    rw [List.map_append]
    exact hr.app (.one q1)
  · intro x hx
    rcases List.mem_append.mp hx with hx | hx
    · exact ⟨(h3 x hx).1, by have := (h3 x hx).2; omega⟩
    · rw [List.mem_singleton.mp hx]; exact line_ok ok hb.toTextOk h2
  · show (st.rows ++ [_]).length ≤ _
    simp only [List.length_append, List.length_cons, List.length_nil]; omega
  · intro d hd
    rcases List.mem_append.mp hd with hd | hd
    · exact h6 d hd
    · rw [List.mem_singleton.mp hd, kqd_str]; exact strOk_of fun c hc => (hb.chars c hc).2.2
theorem fit_open (ok : p.Ok) {b : Str} (h : Fit p r0 st k m) (hk : k ≤ 80) (hb : HeadOk b) : Fit p r0 (st.openB p.step b) (k + 1) (m + 1) := by
  obtain ⟨⟨r, hr, hs⟩, h2, h3, h4, c, h5, h6, h7⟩ := h
  obtain ⟨y, e1⟩ := hb.fin
  obtain ⟨r', q1, q2⟩ := sim_open ok hs hb.solid (by have := hb.len; omega) (by omega) hb.no1 hb.no2 e1
  refine ⟨⟨r', ?_, q2⟩, ?_, ?_, ?_, c, ?_, fun d hd => (nomatch hd), ?_⟩
  · show Rds r0 ((st.rows ++ [_]).map _) r'
    rw [List.map_append]
    exact hr.app (.one q1)
  · simp only [PS.openB, List.length_append, List.length_cons, List.length_nil]; omega
  · intro x hx
    rcases List.mem_append.mp hx with hx | hx
    · exact ⟨(h3 x hx).1, by have := (h3 x hx).2; omega⟩
    · rw [List.mem_singleton.mp hx]; exact line_ok ok hb.toTextOk h2
  · show (st.rows ++ [_]).length ≤ _
    simp only [List.length_append, List.length_cons, List.length_nil]; omega
  · simp only [PS.openB, List.length_append, List.length_cons, List.length_nil]; omega
  · intro q hq
    rcases List.mem_append.mp hq with hq | hq
    · exact h7 q hq
    · rw [List.mem_singleton.mp hq]; exact ⟨strOk_of fun c hc => (hb.chars c hc).2.2, h6⟩
theorem fit_five (ok : p.Ok) {w : Str} {k1 k2 : Int} (h : Fit p r0 st k m) (hk : k ≤ 80) (hw : PutOk w) (hwl : w.length ≤ 10) (hk1 : k1 ≤ 7) (hk2 : k2 ≤ 7) :
    Fit p r0 (st.put p.step (.str (w ++ Str.ofString "(a, b, )")) (w ++ Str.ofString "(a,") [Txt.mul (Str.ofString " ") k1 ++ Str.ofString "b,", Txt.mul (Str.ofString "\t") k2 ++ Str.ofString ")"]) (k + 1) m := by
  obtain ⟨⟨r, hr, hs⟩, h2, h3, h4, c, h5, h6, h7⟩ := h
  obtain ⟨r', q1, q2⟩ := sim_five ok hs hw hwl (by omega) hk1 hk2
  have g : ∀ x ∈ [Str.ofString "(a,", Str.ofString "b,", Str.ofString ")", Str.ofString "(a, b, )"], x.length ≤ 8 ∧ ∀ c ∈ x.cps.toList, c ≠ 10 ∧ c ≠ 123 ∧ c < 1114112 := by decide +kernel
  have m1 := mul_len_le (x := Str.ofString " ") (a := 1) (c := 7) (by decide +kernel) hk1
  have m2 := mul_len_le (x := Str.ofString "\t") (a := 1) (c := 7) (by decide +kernel) hk2
  refine ⟨⟨r', ?_, q2⟩, by show st.stk.length ≤ _; omega, ?_, ?_, c, h5, ?_, h7⟩
  · show Rds r0 ((st.rows ++ [_, _, _]).map _) r'
    rw [List.map_append]
    exact hr.app q1
  · intro x hx
    rcases List.mem_append.mp hx with hx | hx
    · exact ⟨(h3 x hx).1, by have := (h3 x hx).2; omega⟩
    · simp only [List.mem_cons, List.not_mem_nil, or_false] at hx
      rcases hx with rfl | rfl | rfl
      · refine line_ok ok ⟨?_, ?_, ?_⟩ h2
        · obtain ⟨c, q, e, hs⟩ := hw.solid
          exact ⟨c, q ++ (Str.ofString "(a,").cps.toList, by rw [toL_app, e]; rfl, hs⟩
        · intro c hc
          rw [toL_app] at hc
          rcases List.mem_append.mp hc with hc | hc
          · exact hw.chars c hc
          · exact (g (Str.ofString "(a,") (by simp)).2 c hc
        · rw [Str.length_append]; have := (g (Str.ofString "(a,") (by simp)).1; omega
      · constructor
        · intro c hc
          rw [toL_app] at hc
          rcases List.mem_append.mp hc with hc | hc
          · exact blank_chars (blank_sp.1.mul _) c hc
          · exact ⟨((g (Str.ofString "b,") (by simp)).2 c hc).1, ((g (Str.ofString "b,") (by simp)).2 c hc).2.1⟩
        · rw [Str.length_append]; have := (g (Str.ofString "b,") (by simp)).1; omega
      · constructor
        · intro c hc
          rw [toL_app] at hc
          rcases List.mem_append.mp hc with hc | hc
          · exact blank_chars (blank_sp.2.mul _) c hc
          · exact ⟨((g (Str.ofString ")") (by simp)).2 c hc).1, ((g (Str.ofString ")") (by simp)).2 c hc).2.1⟩
        · rw [Str.length_append]; have := (g (Str.ofString ")") (by simp)).1; omega
  · show (st.rows ++ [_, _, _]).length ≤ _
    simp only [List.length_append, List.length_cons, List.length_nil]; omega
  · intro d hd
    rcases List.mem_append.mp hd with hd | hd
    · exact h6 d hd
    · rw [List.mem_singleton.mp hd, kqd_str]
      refine strOk_of fun c hc => ?_
      rw [toL_app] at hc
      rcases List.mem_append.mp hc with hc | hc
      · exact (hw.chars c hc).2.2
      · exact ((g (Str.ofString "(a, b, )") (by simp)).2 c hc).2.2
theorem empt_read (hp : Blank p.pre) (hl : p.pre.length ≤ 8) {x : Str} (hx : x = Str.empty ∨ x ∈ emptyL) (r : RS) : RdRow r (p.pre ++ x) r := by
  have e0 : Str.ofString "" = Str.empty := by decide +kernel
  have b2 : Blank (Str.ofString "\t ") ∧ Blank (Str.ofString "      ") := by
    constructor
    · have e : (Str.ofString "\t ").cps.toList = [9, 32] := by decide +kernel
      intro c hc; rw [e] at hc; simp at hc; omega
    · have e : (Str.ofString "      ").cps.toList = [32, 32, 32, 32, 32, 32] := by decide +kernel
      intro c hc; rw [e] at hc; simp at hc; omega
  have l : ∀ x ∈ emptyL, x.length ≤ 6 := by decide +kernel
  have one : ∀ y : Str, Blank y → y.length ≤ 6 → RdRow r (p.pre ++ y) r := fun y hy hl2 => row_blank (hp.app hy) (by rw [Str.length_append]; omega)
  rcases hx with rfl | hx
  · exact one _ (fun c hc => nomatch hc) (by decide)
  · have hlx := l x hx
    simp only [emptyL, List.mem_cons, List.not_mem_nil, or_false] at hx
    rcases hx with rfl | rfl | rfl | rfl | rfl
    · rw [e0] at hlx ⊢; exact one _ (fun c hc => nomatch hc) hlx
    · exact one _ blank_sp.1 hlx
    · exact one _ b2.1 hlx
    · exact row_ret hp (by omega)
    · exact one _ b2.2 hlx
theorem fit_empt (ok : p.Ok) {x : Str} (h : Fit p r0 st k m) (hx : x = Str.empty ∨ x ∈ emptyL) : Fit p r0 (st.empt x) (k + 1) m := by
  obtain ⟨⟨r, hr, hs⟩, h2, h3, h4, c, h5, h6, h7⟩ := h
  have g : ∀ x ∈ emptyL, x.length ≤ 6 ∧ ∀ c ∈ x.cps.toList, c ≠ 10 ∧ c ≠ 123 := by decide +kernel
  have gx : x.length ≤ 6 ∧ ∀ c ∈ x.cps.toList, c ≠ 10 ∧ c ≠ 123 := by
    rcases hx with rfl | hx
    · exact ⟨by decide, fun c hc => nomatch hc⟩
    · exact g x hx
  refine ⟨⟨r, ?_, ?_⟩, by show st.stk.length ≤ _; omega, ?_, ?_, c, h5, h6, h7⟩
  · show Rds r0 ((st.rows ++ [_]).map _) r
    rw [List.map_append]
    exact hr.app (.one (empt_read ok.pre ok.plen hx r))
  · cases hs with
    | wait h => exact .wait h
    | run h C a1 a2 a3 a4 a5 a6 => exact .run h C a1 a2 a3 a4 a5 a6
  · intro y hy
    rcases List.mem_append.mp hy with hy | hy
    · exact ⟨(h3 y hy).1, by have := (h3 y hy).2; omega⟩
    · rw [List.mem_singleton.mp hy]; exact ⟨gx.2, by have := gx.1; omega⟩
  · show (st.rows ++ [_]).length ≤ _
    simp only [List.length_append, List.length_cons, List.length_nil]; omega
theorem fit_pop (ok : p.Ok) (h : Fit p r0 st k m) (ht : st.top ≠ []) (hs0 : st.stk ≠ []) : Fit p r0 st.pop k m := by
  obtain ⟨⟨r, hr, hs⟩, h2, h3, h4, c, h5, h6, h7⟩ := h
  obtain ⟨ps, ⟨ds, X⟩, e⟩ := snoc_of hs0
  have hs' := sim_pop ok hs ht e
  rw [PS.pop_snoc st ps ds X e] at hs' ⊢
  have hl : st.stk.length = ps.length + 1 := by rw [e]; simp
  refine ⟨⟨r, hr, hs'⟩, by show ps.length ≤ _; omega, h3, h4, c + 1, by show c + 1 + ps.length ≤ _; omega, ?_, ?_⟩
  · intro d hd
    rcases List.mem_append.mp hd with hd | hd
    · exact kqd_mono _ _ (kqd_mono _ _ ((h7 (ds, X) (by rw [e]; simp)).2 d hd))
    · rw [List.mem_singleton.mp hd]
      show kqdOk (2 * c + 1 + 1) (.tuple [.str X, .list st.top]) = true
      have hx := (h7 (ds, X) (by rw [e]; simp)).1
      simp only [kqdOk, List.all_cons, List.all_nil, Bool.and_true, Bool.and_eq_true, List.all_eq_true]
      exact ⟨hx, h6⟩
  · intro q hq
    have := h7 q (by rw [e]; exact List.mem_append.mpr (.inl hq))
    exact ⟨this.1, fun d hd => kqd_mono _ _ (kqd_mono _ _ (this.2 d hd))⟩
theorem fit_close (ok : p.Ok) (h : Fit p r0 st k m) (hk : k ≤ 80) (hs0 : st.stk ≠ []) : Fit p r0 (st.close p.step) (k + 1) m := by
  unfold PS.close PS.endB
  cases ht : st.top with
  | nil => exact fit_pop ok (fit_put ok h hk pass_put) (by simp [PS.put]) hs0
  | cons a r => exact (fit_pop ok h (by rw [ht]; simp) hs0).mono (by omega) (Nat.le_refl _)
theorem fit_act (ok : p.Ok) {i n : Int} (h : Fit p r0 st k m) (hk : k ≤ 80) (h0 : 0 ≤ i) (h1 : i < 64) : Fit p r0 (actPS p.step st i n) (k + 1) (m + 1) := by
  have hwl := word_len h0 h1
  unfold actPS
  split
  · exact fit_open ok h hk (head_ok h0 h1)
  split
  · rename_i hs; exact (fit_close ok h hk hs.2).mono (Nat.le_refl _) (Nat.le_succ _)
  split
  · exact (fit_empt ok h (at_mem _)).mono (Nat.le_refl _) (Nat.le_succ _)
  split
  · have f2 := fmod_hi (Int.fdiv n 8) (n := 7) (by decide)
    have f4 := fmod_hi (Int.fdiv (Int.fdiv n 8) 7) (n := 4) (by decide)
    exact (fit_five ok h hk (word_put h0 h1) (by omega) (by omega) (by omega)).mono (Nat.le_refl _) (Nat.le_succ _)
  split
  · exact (fit_put ok h hk (sign_put h0 h1)).mono (Nat.le_refl _) (Nat.le_succ _)
  · exact (fit_put ok h hk (word_put h0 h1)).mono (Nat.le_refl _) (Nat.le_succ _)
theorem fit_fin (ok : p.Ok) : ∀ (j : Nat) (st : PS) (k : Nat), st.stk.length = j → Fit p r0 st k m → k + j ≤ 80 → Fit p r0 (PS.closeN p.step j st) (k + j) m := by
  intro j
  induction j with
  | zero => intro st k _ h _; exact h
  | succ j ih =>
    intro st k h hf hk
    have hne : st.stk ≠ [] := fun q => by rw [q] at h; cases h
    have := close_stk st p.step hne
    have r := ih (st.close p.step) (k + 1) (by omega) (fit_close ok hf (by omega) hne) (by omega)
    have e : k + 1 + j = k + (j + 1) := by omega
    rw [e] at r
    exact r
end
theorem fit_drawn {p q : Spot} {r0 r1 : RS} (okp : p.Ok) (okq : q.Ok) : ∀ (l : List Int) (d : DS) (i : Int) (k : Nat), Fit p r0 d.p0 k k → Fit q r1 d.p1 k k → 0 ≤ i → i + l.length < 60 → k + l.length ≤ 70 →
    Fit p r0 (drawn p.step q.step d i l).p0 (k + l.length) (k + l.length) ∧ Fit q r1 (drawn p.step q.step d i l).p1 (k + l.length) (k + l.length) := by
  intro l
  induction l with
  | nil => intro d i k h1 h2 _ _ _; exact ⟨h1, h2⟩
  | cons n r ih =>
    intro d i k h1 h2 hi hl hk
    rw [List.length_cons] at hl hk ⊢
    have key : Fit p r0 (d.step p.step q.step (i + 1) n).p0 (k + 1) (k + 1) ∧ Fit q r1 (d.step p.step q.step (i + 1) n).p1 (k + 1) (k + 1) := by
      unfold DS.step
      split
      · exact ⟨h1.mono (by omega) (by omega), h2.mono (by omega) (by omega)⟩
      · split
        · exact ⟨fit_act okp h1 (by omega) (by omega) (by omega), h2.mono (by omega) (by omega)⟩
        · exact ⟨h1.mono (by omega) (by omega), fit_act okq h2 (by omega) (by omega) (by omega)⟩
    have := ih _ (i + 1) (k + 1) key.1 key.2 (by omega) (by omega) (by omega)
    have e : k + 1 + r.length = k + (r.length + 1) := by omega
    rw [e] at this
    exact this
theorem fit_nil {p : Spot} : Fit p ⟨p.A ++ [p.l], p.S, [], true, Str.ofString ""⟩ PS.nil 0 0 := by
  refine ⟨⟨_, .nil, ?_⟩, Nat.le_refl _, (fun x hx => nomatch hx), Nat.le_refl _, 0, Nat.le_refl _, (fun x hx => nomatch hx), (fun x hx => nomatch hx)⟩
  have := Sim.wait (p := p) (st := PS.nil) rfl
  simpa [PS.nil, leadsB] using this
noncomputable abbrev nl : Str := Str.ofString "\n"
theorem nl_eq : nl = ⟨#[10]⟩ := by decide +kernel
noncomputable def s4 : Str := Str.ofString "    "
noncomputable def s8 : Str := Str.ofString "        "
noncomputable def defT : Str := Str.ofString "def inner(_it, _timer):"
noncomputable def t0T : Str := Str.ofString "_t0 = _timer()"
noncomputable def forT : Str := Str.ofString "for _i in _it:"
noncomputable def t1T : Str := Str.ofString "_t1 = _timer()"
noncomputable def retT : Str := Str.ofString "return _t1 - _t0"
noncomputable def tA : Str := Str.ofString "\ndef inner(_it, _timer):\n    "
noncomputable def tB : Str := Str.ofString "\n    _t0 = _timer()\n    for _i in _it:\n        "
noncomputable def tC : Str := Str.ofString "\n        pass\n    _t1 = _timer()\n    return _t1 - _t0\n"
noncomputable def nz : List Str → List Str
  | [] => [Str.empty]
  | x :: r => x :: r
theorem nz_ne (l : List Str) : nz l ≠ [] := by cases l <;> simp [nz]
theorem join_nz (sep : Str) (l : List Str) : Str.join sep (nz l) = Str.join sep l := by cases l <;> rfl
theorem join_cons {sep x : Str} {l : List Str} (h : l ≠ []) : Str.join sep (x :: l) = x ++ sep ++ Str.join sep l := by
  cases l with
  | nil => exact absurd rfl h
  | cons y r => rfl
theorem join_app {sep : Str} : ∀ {a b : List Str}, a ≠ [] → b ≠ [] → Str.join sep (a ++ b) = Str.join sep a ++ (sep ++ Str.join sep b)
  | [], _, h, _ => absurd rfl h
  | [x], b, _, h => by
    show Str.join sep (x :: b) = x ++ (sep ++ Str.join sep b)
    rw [join_cons h, Str.append_assoc]
  | x :: y :: r, b, _, h => by
    show Str.join sep (x :: ((y :: r) ++ b)) = _
    rw [join_cons (by simp), join_app (a := y :: r) (by simp) h, join_cons (l := y :: r) (by simp)]
    simp only [Str.append_assoc]
theorem join_pre {s : Str} : ∀ {l : List Str}, l ≠ [] → s ++ Str.join (nl ++ s) l = Str.join nl (l.map (s ++ ·))
  | [], h => absurd rfl h
  | [x], _ => rfl
  | x :: y :: r, _ => by
    have ih := join_pre (s := s) (l := y :: r) (by simp)
    show s ++ Str.join (nl ++ s) (x :: y :: r) = Str.join nl ((s ++ x) :: ((y :: r).map (s ++ ·)))
    rw [join_cons (l := y :: r) (by simp), join_cons (x := s ++ x) (l := (y :: r).map (s ++ ·)) (by simp), ← ih]
    simp only [Str.append_assoc]
noncomputable def madeRows (r0 r1 : List Str) : List Str := [Str.empty, defT] ++ ((nz r0).map (s4 ++ ·) ++ ([s4 ++ t0T, s4 ++ forT] ++ ((nz r1).map (s8 ++ ·) ++ [s8 ++ sPass, s4 ++ t1T, s4 ++ retT, Str.empty])))
theorem made_join (r0 r1 : List Str) : tA ++ Str.join (nl ++ s4) r0 ++ tB ++ Str.join (nl ++ s8) r1 ++ tC = Str.join nl (madeRows r0 r1) := by
  have eA : tA = Str.join nl [Str.empty, defT] ++ (nl ++ s4) := by decide +kernel
  have eB : tB = nl ++ (Str.join nl [s4 ++ t0T, s4 ++ forT] ++ (nl ++ s8)) := by decide +kernel
  have eC : tC = nl ++ Str.join nl [s8 ++ sPass, s4 ++ t1T, s4 ++ retT, Str.empty] := by decide +kernel
  have n0 : (nz r0).map (s4 ++ ·) ≠ [] := by have := nz_ne r0; simpa using this
  have n1 : (nz r1).map (s8 ++ ·) ≠ [] := by have := nz_ne r1; simpa using this
  unfold madeRows
  rw [join_app (by simp) (by simp), join_app n0 (by simp), join_app (by simp) (by simp), join_app n1 (by simp), ← join_pre (nz_ne r0), ← join_pre (nz_ne r1), join_nz, join_nz, eA, eB, eC]
  simp only [Str.append_assoc]
theorem made_free {r0 r1 : List Str} (h0 : ∀ x ∈ r0, 10 ∉ x.cps.toList) (h1 : ∀ x ∈ r1, 10 ∉ x.cps.toList) : ∀ x ∈ madeRows r0 r1, 10 ∉ x.cps.toList := by
  have g : ∀ x ∈ [Str.empty, defT, s4 ++ t0T, s4 ++ forT, s8 ++ sPass, s4 ++ t1T, s4 ++ retT, s4, s8], 10 ∉ x.cps.toList := by decide +kernel
  have m : ∀ (s : Str) (l : List Str), 10 ∉ s.cps.toList → (∀ x ∈ l, 10 ∉ x.cps.toList) → ∀ x ∈ (nz l).map (s ++ ·), 10 ∉ x.cps.toList := by
    intro s l hs hl x hx
    obtain ⟨y, hy, rfl⟩ := List.mem_map.mp hx
    show 10 ∉ (s ++ y).cps.toList
    rw [toL_app]
    intro q
    rcases List.mem_append.mp q with q | q
    · exact hs q
    · cases l with
      | nil => rw [List.mem_singleton.mp hy] at q; exact nomatch q
      | cons a b => exact hl y hy q
  intro x hx
  unfold madeRows at hx
  rcases List.mem_append.mp hx with hx | hx
  · exact g x (by simp only [List.mem_cons, List.not_mem_nil, or_false] at hx ⊢; grind)
  rcases List.mem_append.mp hx with hx | hx
  · exact m s4 r0 (g s4 (by simp)) h0 x hx
  rcases List.mem_append.mp hx with hx | hx
  · exact g x (by simp only [List.mem_cons, List.not_mem_nil, or_false] at hx ⊢; grind)
  rcases List.mem_append.mp hx with hx | hx
  · exact m s8 r1 (g s8 (by simp)) h1 x hx
  · exact g x (by simp only [List.mem_cons, List.not_mem_nil, or_false] at hx ⊢; grind)
theorem made_split {r0 r1 : List Str} (h0 : ∀ x ∈ r0, 10 ∉ x.cps.toList) (h1 : ∀ x ∈ r1, 10 ∉ x.cps.toList) : Txt.split (Str.join nl (madeRows r0 r1)) nl = madeRows r0 r1 := by
  rw [nl_eq]
  exact split_rows (by simp [madeRows]) (made_free h0 h1)
theorem steps_ok : ∀ x ∈ stepsL, 0 < x.length ∧ x.length ≤ 3 ∧ ∀ c ∈ x.cps.toList, c = 32 ∨ c = 9 := by decide +kernel
theorem at_in {l : List Str} {k : Int} (h0 : 0 ≤ k) (h1 : k < l.length) : at_ l k ∈ l := by
  unfold at_
  have hk : k.toNat < l.length := by omega
  rw [List.getD_eq_getElem?_getD, List.getElem?_eq_getElem hk]
  exact List.getElem_mem hk
theorem step_in (k : Int) : at_ stepsL (Int.fmod k 4) ∈ stepsL := at_in (fmod_lo _ (by decide)) (fmod_hi _ (by decide))
theorem blank48 : Blank s4 ∧ Blank s8 ∧ s4.length = 4 ∧ s8.length = 8 ∧ s4 ≠ Str.empty ∧ s8 ≠ s4 ∧ Txt.startswith s4 Str.empty = true ∧ Txt.startswith s8 s4 = true ∧ Str.empty = Str.ofString "" := by
  refine ⟨?_, ?_, by decide +kernel, by decide +kernel, by decide +kernel, by decide +kernel, by decide +kernel, by decide +kernel, by decide +kernel⟩
  · have e : s4.cps.toList = [32, 32, 32, 32] := by decide +kernel
    intro c hc; rw [e] at hc; simp at hc; omega
  · have e : s8.cps.toList = [32, 32, 32, 32, 32, 32, 32, 32] := by decide +kernel
    intro c hc; rw [e] at hc; simp at hc; omega
noncomputable def spot0 (stp : Str) : Spot := ⟨s4, stp, [], Str.empty, [([], defT)]⟩
noncomputable def spot1 (stp : Str) (top0 : List Dat) : Spot := ⟨s8, stp, [Str.empty], s4, [([], defT), (top0 ++ [.str t0T], forT)]⟩
theorem spot0_ok {stp : Str} (h : stp ∈ stepsL) : (spot0 stp).Ok :=
  ⟨blank48.1, (steps_ok stp h).2.2, blank48.2.2.2.2.1, blank48.2.2.2.2.2.2.1, (steps_ok stp h).1, (steps_ok stp h).2.1, by show s4.length ≤ 8; rw [blank48.2.2.1]; decide⟩
theorem spot1_ok {stp : Str} {top0 : List Dat} (h : stp ∈ stepsL) : (spot1 stp top0).Ok :=
  ⟨blank48.2.1, (steps_ok stp h).2.2, blank48.2.2.2.2.2.1, blank48.2.2.2.2.2.2.2.1, (steps_ok stp h).1, (steps_ok stp h).2.1, by show s8.length ≤ 8; rw [blank48.2.2.2.1]; decide⟩
theorem ground_solid {b : Str} (h : (match b.cps.toList with | [] => false | a :: _ => !Unicode.isSpace a) = true) : Solid b := by
  split at h
  · cases h
  · rename_i a r e; exact ⟨a, r, e, by simpa using h⟩
theorem ground_fin {st : RS} {b : Str} (h1 : Txt.count b (Str.ofString "(") = Txt.count b (Str.ofString ")")) (h2 : 1 ≤ b.length) (h3 : Txt.item b (-1) ≠ Str.ofString ":") : FinIs st b { st with top := st.top ++ [.str b], held := Str.ofString "" } := .put rfl rfl h1 h2 rfl h3
theorem ground_opn {st : RS} {b : Str} (h1 : Txt.count b (Str.ofString "(") = Txt.count b (Str.ofString ")")) (h2 : 1 ≤ b.length) (h3 : Txt.item b (-1) = Str.ofString ":") : FinIs st b { st with stk := st.stk ++ [(st.top, b)], top := [], aw := true, held := Str.ofString "" } := .opn rfl rfl h1 h2 h3
theorem nz_run {p : Spot} (ok : p.Ok) {r0 r : RS} {l : List Str} (h : Rds r0 (l.map (p.pre ++ ·)) r) : Rds r0 ((nz l).map (p.pre ++ ·)) r := by
  cases l with
  | nil =>
    have e : r = r0 := by cases h; rfl
    subst e
    exact .one (empt_read ok.pre ok.plen (.inl rfl) r)
  | cons a b => exact h
noncomputable def bodyOf (top0 top1 : List Dat) : List Dat := top0 ++ [.str t0T] ++ [.tuple [.str forT, .list (top1 ++ [.str sPass])]] ++ [.str t1T] ++ [.str retT]
theorem made_run {stp0 stp1 : Str} {a b : PS} {k0 k1 m0 m1 : Nat} (h0 : stp0 ∈ stepsL) (h1 : stp1 ∈ stepsL) (ha : a.stk = []) (hb : b.stk = [])
    (fa : Fit (spot0 stp0) ⟨[Str.empty], [([], defT)], [], true, Str.ofString ""⟩ a k0 m0) (fb : Fit (spot1 stp1 a.top) ⟨[Str.empty, s4], [([], defT), (a.top ++ [.str t0T], forT)], [], true, Str.ofString ""⟩ b k1 m1) :
    Rds RS.nil (madeRows a.rows b.rows) ⟨[Str.empty, s4], [([], defT)], bodyOf a.top b.top, false, Str.ofString ""⟩ := by
  have ok0 := spot0_ok h0
  have ok1 := spot1_ok (top0 := a.top) h1
  obtain ⟨⟨r1, q1, z1⟩, _⟩ := fa
  obtain ⟨⟨r2, q2, z2⟩, _⟩ := fb
  have hE := blank48.2.2.2.2.2.2.2.2
  have z0 : ∀ s : Str, Txt.mul s ((([] : List (List Dat × Str)).length : Nat) : Int) = Str.empty := fun s => mul_zero s
  have lb : ∀ (pre s : Str), leadsB pre s (([] : List (List Dat × Str)).length + 1) = [pre] := by
    intro pre s
    rw [leadsB_succ]
    show [] ++ [lv pre s 0] = [pre]
    unfold lv
    rw [mul_zero, Str.append_empty]; rfl
  have w1 := sim_row ok0 z1 (b := t0T) (ground_solid (by decide +kernel)) (by decide +kernel) (by rw [ha]; decide) (ground_fin (by decide +kernel) (by decide +kernel) (by decide +kernel))
  have w2 := sim_row ok1 z2 (b := sPass) (ground_solid (by decide +kernel)) (by decide +kernel) (by rw [hb]; decide) (ground_fin (by decide +kernel) (by decide +kernel) (by decide +kernel))
  rw [ha, lb, z0, Str.empty_append, List.append_nil] at w1
  rw [hb, lb, z0, Str.empty_append, List.append_nil] at w2
  have y1 := nz_run ok0 q1
  have y2 := nz_run ok1 q2
  unfold madeRows
  refine Rds.app (st' := ⟨[Str.empty], [([], defT)], [], true, Str.ofString ""⟩) (.cons (st' := RS.nil) ?_ (.one ?_)) (Rds.app y1 (Rds.app (st' := ⟨[Str.empty, s4], [([], defT), (a.top ++ [.str t0T], forT)], [], true, Str.ofString ""⟩) (.cons w1 (.one ?_)) (Rds.app y2 (.cons w2 (.cons (st' := ⟨[Str.empty, s4], [([], defT)], a.top ++ [.str t0T] ++ [.tuple [.str forT, .list (b.top ++ [.str sPass])]] ++ [.str t1T], false, Str.ofString ""⟩) ?_ (.cons (st' := ⟨[Str.empty, s4], [([], defT)], bodyOf a.top b.top, false, Str.ofString ""⟩) ?_ (.one ?_)))))))
  · exact row_blank (fun c hc => nomatch hc) (by decide)
  · have := row_fresh (st := RS.nil) (lead := Str.empty) (b := defT) (A := []) (C := []) (fun c hc => nomatch hc) (ground_solid (by decide +kernel)) (by decide +kernel) rfl rfl (by show [Str.ofString ""] = _; rw [← hE]; rfl) (fun x hx => nomatch hx) (ground_opn (by decide +kernel) (by decide +kernel) (by decide +kernel))
    rw [Str.empty_append] at this
    exact this
  · exact row_fresh (lead := s4) (b := forT) (A := [Str.empty]) (C := []) blank48.1 (ground_solid (by decide +kernel)) (by decide +kernel) rfl rfl rfl (fun x hx => nomatch hx) (ground_opn (by decide +kernel) (by decide +kernel) (by decide +kernel))
  · exact row_fresh (lead := s4) (b := t1T) (A := [Str.empty]) (C := [s8]) blank48.1 (ground_solid (by decide +kernel)) (by decide +kernel) rfl rfl rfl (fun x hx => by rw [List.mem_singleton.mp hx]; exact blank48.2.2.2.2.2.1) (ground_fin (by decide +kernel) (by decide +kernel) (by decide +kernel))
  · exact row_fresh (lead := s4) (b := retT) (A := [Str.empty]) (C := []) blank48.1 (ground_solid (by decide +kernel)) (by decide +kernel) rfl rfl rfl (fun x hx => nomatch hx) (ground_fin (by decide +kernel) (by decide +kernel) (by decide +kernel))
  · exact row_blank (fun c hc => nomatch hc) (by decide)
section
variable {n0 : Int} {ns : List Int}
theorem fins (h : ns.length < 20) : (fin0 n0 ns).stk = [] ∧ (fin1 n0 ns).stk = [] ∧
    Fit (spot0 (step0 n0)) ⟨[Str.empty], [([], defT)], [], true, Str.ofString ""⟩ (fin0 n0 ns) 40 20 ∧
    Fit (spot1 (step1 n0) (fin0 n0 ns).top) ⟨[Str.empty, s4], [([], defT), ((fin0 n0 ns).top ++ [.str t0T], forT)], [], true, Str.ofString ""⟩ (fin1 n0 ns) 40 20 := by
  have ok0 : (spot0 (step0 n0)).Ok := spot0_ok (step_in _)
  have ok1 : (spot1 (step1 n0) (fin0 n0 ns).top).Ok := spot1_ok (step_in _)
  have d := fit_drawn ok0 ok1 (n0 :: ns) ⟨PS.nil, PS.nil, Int.fmod (Int.fdiv n0 16) 2⟩ 0 0 fit_nil fit_nil (by decide) (by rw [List.length_cons]; omega) (by rw [List.length_cons]; omega)
  have d0 : Fit (spot0 (step0 n0)) ⟨[Str.empty], [([], defT)], [], true, Str.ofString ""⟩ (drawAll n0 ns).p0 20 20 := d.1.mono (by rw [List.length_cons]; omega) (by rw [List.length_cons]; omega)
  have d1 : Fit (spot1 (step1 n0) (fin0 n0 ns).top) ⟨[Str.empty, s4], [([], defT), ((fin0 n0 ns).top ++ [.str t0T], forT)], [], true, Str.ofString ""⟩ (drawAll n0 ns).p1 20 20 := d.2.mono (by rw [List.length_cons]; omega) (by rw [List.length_cons]; omega)
  have e0 := fit_fin ok0 _ _ 20 rfl d0 (by have := d0.stk; omega)
  have e1 := fit_fin ok1 _ _ 20 rfl d1 (by have := d1.stk; omega)
  exact ⟨fin_stk _ _ _ rfl, fin_stk _ _ _ rfl, e0.mono (by have := d0.stk; omega) (Nat.le_refl _), e1.mono (by have := d1.stk; omega) (Nat.le_refl _)⟩
theorem txt_join (sep : Str) (l : List Str) : Txt.join sep l = Str.join sep l := StrLaws.glued_eq_join sep l
theorem join_bound {sep : Str} {l : List Str} (h1 : ∀ x ∈ l, x.length ≤ 150) (h2 : l.length ≤ 160) (h3 : sep.length ≤ 12) : (Str.join sep l).length ≤ 26000 := by
  have a := StrLaws.join_length_le sep l
  have b := sum_len_le h1
  have c := Nat.mul_le_mul h2 h3
  have d : l.length * 150 ≤ 160 * 150 := Nat.mul_le_mul_right _ h2
  omega
theorem join_chars {P : Nat → Prop} {sep : Str} (hs : ∀ c ∈ sep.cps.toList, P c) : ∀ {l : List Str}, (∀ x ∈ l, ∀ c ∈ x.cps.toList, P c) → ∀ c ∈ (Str.join sep l).cps.toList, P c
  | [], _ => fun c hc => nomatch hc
  | [x], h => h x (.head _)
  | x :: y :: r, h => by
    have ih := join_chars hs (l := y :: r) fun z hz => h z (.tail _ hz)
    intro c hc
    rw [join_cons (by simp), toL_app, toL_app] at hc
    rcases List.mem_append.mp hc with hc | hc
    · rcases List.mem_append.mp hc with hc | hc
      · exact h x (.head _) c hc
      · exact hs c hc
    · exact ih c hc
/-- a drawn program's text: its rows, joined -/
structure TextIs (x : Str) (rows : List Str) : Prop where
  eq : x = Str.join nl rows
  free : ∀ y ∈ rows, 10 ∉ y.cps.toList
  len : ∀ z : Str, z.length ≤ 12 → (Str.join z rows).length ≤ 26000
  no : ∀ z : Str, 123 ∉ z.cps.toList → 123 ∉ (Str.join z rows).cps.toList
  cnt : rows.length ≤ 160
theorem TextIs.of {p : Spot} {r0 : RS} {st : PS} (f : Fit p r0 st 40 20) : TextIs (Txt.join (Str.ofString "\n") st.rows) st.rows := by
  refine ⟨txt_join _ _, fun y hy q => ((f.rows y hy).1 10 q).1 rfl, fun z hz => join_bound (fun y hy => (f.rows y hy).2) f.cnt hz, fun z hz q => ?_, f.cnt⟩
  exact join_chars (P := fun c => c ≠ 123) (fun c hc e => hz (e ▸ hc)) (fun y hy c hc => ((f.rows y hy).1 c hc).2) 123 q rfl
theorem TextIs.replace {x : Str} {rows : List Str} (t : TextIs x rows) (z : Str) : Txt.replace x nl z = Str.join z rows := by
  rw [t.eq, ← join_nz, nl_eq, replace_rows (nz_ne _) ?_ z, join_nz]
  intro y hy
  cases rows with
  | nil => rw [List.mem_singleton.mp hy]; exact fun q => nomatch q
  | cons a b => exact t.free y hy
theorem texts (h : ns.length < 20) : TextIs (drawText0 n0 ns) (fin0 n0 ns).rows ∧ TextIs (drawText1 n0 ns) (fin1 n0 ns).rows := ⟨.of (fins h).2.2.1, .of (fins h).2.2.2⟩
noncomputable def kInit : Str := Str.ofString "{init}"
noncomputable def kSetup : Str := Str.ofString "{setup}"
noncomputable def kStmt : Str := Str.ofString "{stmt}"
noncomputable def tmpl : Str := Str.ofString "\ndef inner(_it, _timer{init}):\n    {setup}\n    _t0 = _timer()\n    for _i in _it:\n        {stmt}\n        pass\n    _t1 = _timer()\n    return _t1 - _t0\n"
noncomputable def tA1 : Str := Str.ofString "\ndef inner(_it, _timer"
theorem at_pos {x y : Str} {c : Nat} {r : List Nat} (hy : y.cps.toList = c :: r) {k n : Nat} (h : StrLaws.At x y n k) : k ∈ (x.cps.toList.zipIdx.filter fun q => q.1 == c).map (·.2) := by
  have h2 := h.2
  rw [StrLaws.subAt_eq, beq_iff_eq, hy] at h2
  have h3 : ((x.cps.toList.drop k).take y.length)[0]? = some c := by rw [h2]; rfl
  have hl : 0 < y.length := by rw [len_eq, hy]; simp
  rw [List.getElem?_take_of_lt hl, List.getElem?_drop, Nat.add_zero] at h3
  refine List.mem_map.mpr ⟨(c, k), List.mem_filter.mpr ⟨?_, by simp⟩, rfl⟩
  rw [List.mem_zipIdx_iff_getElem?]
  exact h3
theorem repl_init : (Builtin.Str.occurrences tmpl kInit 0 tmpl.length (tmpl.length + 1)).length = 1 ∧ Txt.replace tmpl kInit (Str.ofString "") = tA ++ kSetup ++ (tB ++ kStmt ++ tC) := by
  have hx : tmpl = tA1 ++ kInit ++ (Str.ofString "):\n    " ++ kSetup ++ (tB ++ kStmt ++ tC)) := str_ext (by simp only [toL_app]; decide +kernel)
  have hp : (tmpl.cps.toList.zipIdx.filter fun q => q.1 == 123).map (·.2) = [tA1.length, 35, 89] := by decide +kernel
  have h1 : Builtin.Str.subAt tmpl kInit 35 = false ∧ Builtin.Str.subAt tmpl kInit 89 = false := by decide +kernel
  have hu : ∀ k, StrLaws.At tmpl kInit tmpl.length k → k = tA1.length := by
    intro k hk
    have hm := at_pos (c := 123) (r := [105, 110, 105, 116, 125]) (by decide +kernel) hk
    rw [hp] at hm
    simp only [List.mem_cons, List.not_mem_nil, or_false] at hm
    rcases hm with rfl | rfl | rfl
    · rfl
    · have := hk.2; rw [h1.1] at this; cases this
    · have := hk.2; rw [h1.2] at this; cases this
  have := replace_one (z := Str.ofString "") hx (by decide +kernel) hu
  refine ⟨by rw [this.1]; rfl, this.2.trans (str_ext ?_)⟩
  simp only [toL_app]
  decide +kernel
theorem repl_setup (z : Str) : (Builtin.Str.occurrences (tA ++ kSetup ++ (tB ++ kStmt ++ tC)) kSetup 0 (tA ++ kSetup ++ (tB ++ kStmt ++ tC)).length ((tA ++ kSetup ++ (tB ++ kStmt ++ tC)).length + 1)).length = 1 ∧ Txt.replace (tA ++ kSetup ++ (tB ++ kStmt ++ tC)) kSetup z = tA ++ z ++ (tB ++ kStmt ++ tC) := by
  have hp : ((tA ++ kSetup ++ (tB ++ kStmt ++ tC)).cps.toList.zipIdx.filter fun q => q.1 == 123).map (·.2) = [tA.length, 83] := by decide +kernel
  have h1 : Builtin.Str.subAt (tA ++ kSetup ++ (tB ++ kStmt ++ tC)) kSetup 83 = false := by decide +kernel
  have hu : ∀ k, StrLaws.At (tA ++ kSetup ++ (tB ++ kStmt ++ tC)) kSetup (tA ++ kSetup ++ (tB ++ kStmt ++ tC)).length k → k = tA.length := by
    intro k hk
    have hm := at_pos (c := 123) (r := [115, 101, 116, 117, 112, 125]) (by decide +kernel) hk
    rw [hp] at hm
    simp only [List.mem_cons, List.not_mem_nil, or_false] at hm
    rcases hm with rfl | rfl
    · rfl
    · have := hk.2; rw [h1] at this; cases this
  have := replace_one (z := z) (x := tA ++ kSetup ++ (tB ++ kStmt ++ tC)) rfl (by decide +kernel) hu
  exact ⟨by rw [this.1]; rfl, this.2⟩
theorem repl_stmt {y : Str} (hy : 123 ∉ y.cps.toList) (z : Str) : (Builtin.Str.occurrences (tA ++ y ++ (tB ++ kStmt ++ tC)) kStmt 0 (tA ++ y ++ (tB ++ kStmt ++ tC)).length ((tA ++ y ++ (tB ++ kStmt ++ tC)).length + 1)).length = 1 ∧ Txt.replace (tA ++ y ++ (tB ++ kStmt ++ tC)) kStmt z = tA ++ y ++ tB ++ z ++ tC := by
  have g : 123 ∉ tA.cps.toList ∧ 123 ∉ tB.cps.toList ∧ 123 ∉ tC.cps.toList := by decide +kernel
  have hx : tA ++ y ++ (tB ++ kStmt ++ tC) = (tA ++ y ++ tB) ++ kStmt ++ tC := by simp only [Str.append_assoc]
  have hk : kStmt.cps.toList = 123 :: [115, 116, 109, 116, 125] := by decide +kernel
  have := replace_one (z := z) hx (by decide +kernel) (at_once hx hk (by
    rw [toL_app, toL_app]
    intro q
    rcases List.mem_append.mp q with q | q
    · rcases List.mem_append.mp q with q | q
      · exact g.1 q
      · exact hy q
    · exact g.2.1 q) (by decide) g.2.2)
  exact ⟨by rw [this.1]; rfl, this.2⟩
theorem mul48 : Txt.mul (Str.ofString " ") 4 = s4 ∧ Txt.mul (Str.ofString " ") 8 = s8 := by decide +kernel
noncomputable def madeT (n0 : Int) (ns : List Int) : Str := tA ++ Str.join (nl ++ s4) (fin0 n0 ns).rows ++ tB ++ Str.join (nl ++ s8) (fin1 n0 ns).rows ++ tC
theorem made_len (h : ns.length < 20) : (madeT n0 ns).length < 60000 := by
  have a := (texts (n0 := n0) h).1.len (nl ++ s4) (by decide +kernel)
  have b := (texts (n0 := n0) h).2.len (nl ++ s8) (by decide +kernel)
  have g : tA.length ≤ 100 ∧ tB.length ≤ 100 ∧ tC.length ≤ 100 := by decide +kernel
  unfold madeT
  simp only [Str.length_append]
  omega
noncomputable def resT (n0 : Int) (ns : List Int) : List Dat := [.tuple [.str defT, .list (bodyOf (fin0 n0 ns).top (fin1 n0 ns).top)]]
theorem made_reads (h : ns.length < 20) : Rds RS.nil (Txt.split (madeT n0 ns) nl) ⟨[Str.empty, s4], [([], defT)], bodyOf (fin0 n0 ns).top (fin1 n0 ns).top, false, Str.ofString ""⟩ ∧ (Txt.split (madeT n0 ns) nl).length < 1900 := by
  obtain ⟨a1, a2, a3, a4⟩ := fins (n0 := n0) h
  obtain ⟨b1, b2⟩ := texts (n0 := n0) h
  have e : Txt.split (madeT n0 ns) nl = madeRows (fin0 n0 ns).rows (fin1 n0 ns).rows := by
    unfold madeT
    rw [made_join, made_split b1.free b2.free]
  rw [e]
  refine ⟨made_run (step_in _) (step_in _) a1 a2 a3 a4, ?_⟩
  have c1 := b1.cnt
  have c2 := b2.cnt
  have nzl : ∀ l : List Str, (nz l).length ≤ l.length + 1 := by intro l; cases l <;> simp [nz]
  have d1 := nzl (fin0 n0 ns).rows
  have d2 := nzl (fin1 n0 ns).rows
  unfold madeRows
  simp only [List.length_append, List.length_cons, List.length_nil, List.length_map]
  omega
theorem res_closed : (RS.closeN ([([], defT)] : List (List Dat × Str)).length ⟨[Str.empty, s4], [([], defT)], bodyOf (fin0 n0 ns).top (fin1 n0 ns).top, false, Str.ofString ""⟩).top = resT n0 ns := by
  show (RS.closeOne ⟨_, [] ++ [([], defT)], _, _, _⟩).top = _
  rw [RS.closeOne_snoc]
  rfl
theorem kqd_le {n n' : Nat} {d : Dat} (h : kqdOk n d = true) (hle : n ≤ n') : kqdOk n' d = true := by
  induction hle with
  | refl => exact h
  | step _ ih => exact kqd_mono _ _ ih
theorem res_ok (h : ns.length < 20) : ∀ d ∈ resT n0 ns, kqdOk 60 d = true := by
  obtain ⟨a1, a2, a3, a4⟩ := fins (n0 := n0) h
  obtain ⟨c0, x0, y0, _⟩ := a3.dat
  obtain ⟨c1, x1, y1, _⟩ := a4.dat
  have w0 : ∀ d ∈ (fin0 n0 ns).top, kqdOk 50 d = true := fun d hd => kqd_le (y0 d hd) (by omega)
  have w1 : ∀ d ∈ (fin1 n0 ns).top, kqdOk 50 d = true := fun d hd => kqd_le (y1 d hd) (by omega)
  have g : PyData.strOk t0T = true ∧ PyData.strOk forT = true ∧ PyData.strOk sPass = true ∧ PyData.strOk t1T = true ∧ PyData.strOk retT = true ∧ PyData.strOk defT = true := by decide +kernel
  obtain ⟨g1, g2, g3, g4, g5, g6⟩ := g
  have wl : kqdOk 51 (.list ((fin1 n0 ns).top ++ [.str sPass])) = true := by
    simp only [kqdOk, List.all_eq_true]
    intro d hd
    rcases List.mem_append.mp hd with hd | hd
    · exact w1 d hd
    · rw [List.mem_singleton.mp hd, kqd_str]; exact g3
  have wf : kqdOk 52 (.tuple [.str forT, .list ((fin1 n0 ns).top ++ [.str sPass])]) = true := by
    simp only [kqdOk, List.all_cons, List.all_nil, Bool.and_true, Bool.and_eq_true]
    exact ⟨g2, wl⟩
  have wb : ∀ d ∈ bodyOf (fin0 n0 ns).top (fin1 n0 ns).top, kqdOk 52 d = true := by
    intro d hd
    unfold bodyOf at hd
    simp only [List.mem_append, List.mem_singleton] at hd
    rcases hd with (((hd | rfl) | rfl) | rfl) | rfl
    · exact kqd_le (w0 d hd) (by decide)
    · rw [kqd_str]; exact g1
    · exact wf
    · rw [kqd_str]; exact g4
    · rw [kqd_str]; exact g5
  intro d hd
  unfold resT at hd
  rw [List.mem_singleton.mp hd]
  refine kqd_le (n := 54) ?_ (by decide)
  show kqdOk (52 + 1 + 1) _ = true
  simp only [kqdOk, List.all_cons, List.all_nil, Bool.and_true, Bool.and_eq_true, List.all_eq_true]
  exact ⟨g6, wb⟩
end
open PyProof.Rows.LCg in
/-- the end of a sign's turn -/
noncomputable def SignEnd (h₀ : Heap) (L : Addr) (m : Str → Option Value) (I : Addr) (oI : Obj) (C : Addr) (oC : Obj) (D : Addr) (ys : List Value) (news : List (Addr × Obj)) (s : Shared) (z : Str) (y : Value) (s₂ : Shared) : Prop :=
  ∃ h' tk' u', y = .str z u' ∧ s₂ = { s with heap := h', toks := tk' } ∧ Fr h₀ L h' m ∧ News h₀ L h' ((I, oI) :: (C, oC) :: (D, lst ys) :: news)
open PyProof.Rows.LCg in
/-- a comprehension over a text's signs, each made into a text -/
theorem comp_signs {prog : Program} {w : World} {A : Around} {E : Value → Shared → Prop} {s : Shared} {env : Env} {h₀ : Heap} {L : Addr} {m : Str → Option Value} {Q : Value → Shared → Prop}
    {elt iter : Expr} {v : Str} {px : Pos} {scope : Scope} {cl : List (Str × Addr)} {pos : Pos} {x : Str} {t : Tok} {news : List (Addr × Obj)} (g : Nat → Str)
    (hh : A.handled = none) (hclos : closureFor scope env = pure cl) (hcell : ∀ y ∈ scope.names, y.2 ≠ .cell) (hkind : scope.kind = .function)
    (hnames : ∀ y ∈ scope.names, y.2 = .local → scope.names.lookup y.1 = some .local) (hx : scope.names.lookup v = some .local) (hs : ∀ x, foldedSetIterable iter env x = pure x)
    (hiter : ∀ Q' : Value → Shared → Prop, Q' (.str x t) s → wpAny (model prog w) A (eval iter env) Q' E s) (hsz : x.length ≤ 1000000)
    (F : Fr h₀ L s.heap m) (N : News h₀ L s.heap news)
    (turn : ∀ c u I oI C oC D m₂ ys h tk, c ∈ x.cps.toList → NsObj oC m₂ → m₂ v = some (.str ⟨#[c]⟩ u) → Fr h₀ L h m → News h₀ L h ((I, oI) :: (C, oC) :: (D, lst ys) :: news) → Off3 I C D news → ((@Ne Nat I C) ∧ (@Ne Nat I D) ∧ (@Ne Nat C D)) →
      wpAny (model prog w) A (eval elt (compEnvC scope cl C env)) (SignEnd h₀ L m I oI C oC D ys news s (g c)) (fun _ _ => False) { s with heap := h, toks := tk })
    (done : ∀ ys D h tk, StrsAre ys (x.cps.toList.map g) → Fr h₀ L h m → News h₀ L h ((D, lst ys) :: news) → Off1 D news → Q (.ref D) { s with heap := h, toks := tk }) :
    wpAny (model prog w) A (eval (.ListComp elt [⟨.Name v px, iter, [], 0⟩] scope pos) env) Q E s := by
  rw [eval_ListComp]
  refine wpAny_comprehension_free (use := none) rfl hs hclos hkind hnames (hiter _ ?_)
  have rest : ∀ s₂ : Shared, (∃ hp, s₂ = { s with heap := hp }) → CompRest prog w A h₀ L m env elt v scope cl s₂ (fun _ => True) (SignAt x) (fun ys news' => StrsAre ys (x.cps.toList.map g) ∧ news' = news) x.cps.size 0 [] news := by
    rintro s₂ ⟨hp, rfl⟩
    have key : ∀ (j i : Nat) (ys : List Value), i + j = x.cps.size → StrsAre ys ((x.cps.toList.take i).map g) → CompRest prog w A h₀ L m env elt v scope cl { s with heap := hp } (fun _ => True) (SignAt x) (fun ys news' => StrsAre ys (x.cps.toList.map g) ∧ news' = news) j i ys news := by
      intro j
      induction j with
      | zero =>
        intro i ys hi hy
        have e : i = x.cps.toList.length := by simpa using hi
        rw [e, List.take_length] at hy
        exact CompRest.zero ⟨hy, rfl⟩
      | succ j ih =>
        intro i ys hi hy
        refine CompRest.succ ?_
        rintro y I oI C oC D m₂ h tk E' ⟨c, u, hc, rfl⟩ hC hm F' N' off ne
        have hc' : x.cps.toList[i]? = some c := by simpa using hc
        refine wpAny_mono (turn c u I oI C oC D m₂ ys h tk (List.mem_of_getElem? hc') hC hm F' N' off ne) (fun y s₃ hq => ?_) fun _ _ e => e.elim
        obtain ⟨h', tk', u', rfl, rfl, F₃, N₃⟩ := hq
        refine ⟨h', tk', news, rfl, F₃, N₃, off, trivial, ih (i + 1) _ (by omega) ?_⟩
        rw [List.take_add_one, hc']
        simpa using StrsAre.append' hy (.cons (g c) u' .nil)
    exact key x.cps.size 0 [] (by omega) .nil
  have fin : ∀ s₂ : Shared, (∃ hp, s₂ = { s with heap := hp }) → ∀ D C h tk m' ys news', Fr h₀ L h m → News h₀ L h ((D, lst ys) :: news') → Off1 D news' → h.Ns C m' → h₀.get? C = none → h₀.get? D = none → C ≠ L → D ≠ L → C ≠ D → (∀ p ∈ news', p.1 ≠ C) → (StrsAre ys (x.cps.toList.map g) ∧ news' = news) → compPost (model prog w) A E none Q (.ref D) C (.ok .next) { s₂ with heap := h, toks := tk } := by
    rintro s₂ ⟨hp, rfl⟩ D C h tk m' ys news' F' N' o1 hn hC₀ hD₀ hCL hDL hCD offC ⟨hy, rfl⟩
    refine ⟨m', hn, fun h'' hs'' => done ys D h'' tk hy (F'.change hs'' hCL hC₀) (fun p hp => ?_) o1⟩
    refine ⟨hs''.extBut _ _ ?_ (N' p hp).1, (N' p hp).2⟩
    rcases List.mem_cons.mp hp with rfl | hp
    · exact Ne.symm hCD
    · exact offC p hp
  have hszl : x.cps.size ≤ sizeLine := by rw [sizeLine_eq]; have : x.length = x.cps.size := rfl; omega
  have st : ∀ (nm : String) (i : Nat) (h h' : Heap) (o : Obj) (nw : List (Addr × Obj)), h.IsStrIter s.heap.objs.size nm x t i → h.get? s.heap.objs.size = some o → h'.get? s.heap.objs.size = some o → (∀ b o, h₀.get? b = some o → h'.get? b = some o) → News h₀ L h' nw → True → h'.IsStrIter s.heap.objs.size nm x t i := by
    intro nm i h h' o nw st e e' _ _ _
    obtain ⟨o', q, r⟩ := st
    rw [e] at q
    cases q
    exact ⟨o, e', r⟩
  cases ha : x.cps.all (· < 128)
  · refine wpAny_pyIter_wide ha ?_
    refine block_U (Walks.strWide hh _ x t) hszl (fun i h st => by obtain ⟨o, e, _⟩ := st; exact ⟨o, e⟩) (st _) hcell hkind hx ⟨_, Heap.get?_push_size _ rfl, rfl, rfl⟩ (fun b hb => ?_)
      (F.keeps fun _ _ e => Heap.get?_push_of_some _ e) (N.grown fun _ _ e => Heap.get?_push_of_some _ e) (Nat.ne_of_lt F.ns.lt) (next_is_new F) (fun p hp => Nat.ne_of_lt (Heap.lt_size (N p hp).1)) trivial (rest _ ⟨_, rfl⟩) (fin _ ⟨_, rfl⟩)
    rw [List.mem_singleton.mp hb]
    show s.heap.objs.size < (s.heap.push _).objs.size
    rw [Heap.size_push]; exact Nat.lt_succ_self _
  · refine wpAny_pyIter_ascii ha ?_
    refine block_U (Walks.strAscii hh _ x t) hszl (fun i h st => by obtain ⟨o, e, _⟩ := st; exact ⟨o, e⟩) (st _) hcell hkind hx ⟨_, Heap.get?_push_size _ rfl, rfl, rfl⟩ (fun b hb => ?_)
      (F.keeps fun _ _ e => Heap.get?_push_of_some _ e) (N.grown fun _ _ e => Heap.get?_push_of_some _ e) (Nat.ne_of_lt F.ns.lt) (next_is_new F) (fun p hp => Nat.ne_of_lt (Heap.lt_size (N p hp).1)) trivial (rest _ ⟨_, rfl⟩) (fin _ ⟨_, rfl⟩)
    rw [List.mem_singleton.mp hb]
    show s.heap.objs.size < (s.heap.push _).objs.size
    rw [Heap.size_push]; exact Nat.lt_succ_self _
theorem strsAre_pairs {vs : List Value} {xs : List Str} (h : StrsAre vs xs) : ∃ l : List (Str × Tok), vs = strValues l ∧ l.map (·.1) = xs := by
  induction h with
  | nil => exact ⟨[], rfl, rfl⟩
  | cons y t _ ih =>
    obtain ⟨l, h1, h2⟩ := ih
    exact ⟨(y, t) :: l, by rw [h1]; rfl, by rw [← h2]; rfl⟩
section
variable {prog : Program} {w : World} {A : Around} {E : Value → Shared → Prop} {s : Shared} {h₀ : Heap} {L D : Addr} {news : List (Addr × Obj)} {n : Nat}
theorem join_strs {sep : Str} {t : Tok} {rs : List Value} {xs : List Str} {Q : Value → Shared → Prop} (N : News h₀ L s.heap news) (hm : (D, listOf rs.toArray n) ∈ news) (hr : StrsAre rs xs)
    (hlen : ∀ x ∈ xs, x.length ≤ 12) (hn : xs.length ≤ 100000) (hs : sep.length ≤ 1)
    (h : ∀ t' tk' : Nat, s.toks ≤ tk' → Q (.str (Txt.join sep xs) t') { s with toks := tk' }) : wpAny (model prog w) A (call (.builtin "str.join") [.str sep t, .ref D]) Q E s := by
  obtain ⟨l, rfl, rfl⟩ := strsAre_pairs hr
  have hl : s.heap.IsList D (strValues l).toArray := News.isList N hm
  have hok : Builtin.Str.tooLong ((l.map (·.1)).toArray.foldl (· + ·.length + sep.length) 0) = false := by
    refine StrLaws.joinFits hlen ?_
    have h4 : (l.map (·.1)).length * sep.length ≤ (l.map (·.1)).length * 1 := Nat.mul_le_mul_left _ hs
    have h5 : (l.map (·.1)).length * 12 ≤ 100000 * 12 := Nat.mul_le_mul_right _ hn
    omega
  have hfit := joinFit_length hok
  refine call_meets F.slot_str_join (typeIs_str _ _ _) F.entry_str_join (F.args_str_join_2 _ _) (meets_str_join_list sep t D l hok) ⟨hl, ?_⟩
  match l, h, hfit with
  | [p], h, _ =>
    have e : Txt.join sep (List.map (·.1) [p]) = p.1 := by
      show Builtin.Str.glued sep [p.1] = p.1
      rw [StrLaws.glued_eq_join]
      rfl
    rw [e] at h
    exact h p.2 s.toks (Nat.le_refl _)
  | [], h, hfit => exact ⟨hfit, h s.toks (s.toks + 1) (Nat.le_succ _)⟩
  | p :: q :: r, h, hfit => exact ⟨hfit, h s.toks (s.toks + 1) (Nat.le_succ _)⟩
end
noncomputable def signG (k : Int) (c : Nat) : Str := if c = 10 then nl ++ Txt.mul (Str.ofString " ") k else ⟨#[c]⟩
theorem flat_join : ∀ zs : List Str, (Str.join Str.empty zs).cps.toList = zs.flatMap (fun z => z.cps.toList)
  | [] => rfl
  | [x] => by simp [Str.join]
  | x :: y :: r => by
    rw [join_cons (by simp), toL_app, toL_app, flat_join (y :: r)]
    show _ ++ [] ++ _ = _
    rw [List.append_nil]
    rfl
theorem sign_law (x : Str) (k : Int) : Txt.join (Str.ofString "") (x.cps.toList.map (signG k)) = Txt.replace x nl (nl ++ Txt.mul (Str.ofString " ") k) := by
  apply str_ext
  have e0 : Str.ofString "" = Str.empty := by decide +kernel
  rw [txt_join, e0, flat_join]
  conv => rhs; arg 1; arg 1; arg 2; rw [nl_eq]
  rw [replace_signs, List.flatMap_map]
  congr 1
  funext c
  unfold signG
  split <;> rfl
theorem signG_len {k : Int} (h : k < 10) (c : Nat) : (signG k c).length ≤ 12 := by
  unfold signG
  split
  · have := mul_len_le (x := Str.ofString " ") (a := 1) (c := 10) (by decide +kernel) (Int.le_of_lt h)
    have e : nl.length = 1 := by decide +kernel
    rw [Str.length_append]; omega
  · show 1 ≤ 12; decide
noncomputable def lawDef : Option Stmt := prg.main.body[9]?
noncomputable def lawBody : List Stmt := bodyIn lawDef
noncomputable def lawRest : List Stmt := lawBody.drop 1
noncomputable def lawCheck : List Stmt := bodyIn lawBody[3]?
noncomputable def lawScope : Scope := scopeIn lawDef
noncomputable abbrev lawCells (L : Addr) : List (Str × Addr) := cellsFrom (L + 1) lawScope.names []
theorem lawTest : lawCheck.length = 1 ∧ lawRest.length = 7 ∧ lawScope.names.length = 15 := by decide +kernel
theorem lawCells_is (L : Addr) : lawCells L = [(Str.ofString "blanks", L + 1)] := by rfl
section
local macro_rules | `(tactic| walk_at "call ref") => `(tactic| (refine stop ?_))
theorem law_check {w : World} {dp un : Nat} {gd : Option (List Code)} {outer : List Env} {A₀ : Around} {base h₀ : Heap} {L fa : Addr} {cd : Value} {m : Str → Option Value}
    {s : Shared} {Q : Flow → Shared → Prop} {E : Value → Shared → Prop} {mean : ExcName → Option Value} {mg mb : Str → Option Value}
    {oc : Obj} {rest : List (Addr × Obj)} {k : Int} {tk t : Nat} {x : Str}
    (B : Below A₀ base outer h₀) (X : (hd.heap_39 w.params).In h₀) (Tp : Top hd.view_39 (looseW hd.view_39 []) mean mg mb h₀)
    (F : Fr h₀ L s.heap (fun z => if z = Str.ofString "text" then some (.str x t) else m z)) (N : News h₀ L s.heap ((L + 1, oc) :: rest)) (hoc : oc.data = .cell (some (.int k tk)))
    (hx : x.length ≤ 100000) (hk0 : -10 < k) (hk1 : k < 10) (htk : 1 ≤ s.toks)
    (hd : dp + 5 < recursionLimit) (hu : un + 50 < cLine)
    (hret : ∀ (h' : Heap) (tk' : Nat), Fr h₀ L h' (fun z => if z = Str.ofString "text" then some (.str x t) else m z) → News h₀ L h' ((L + 1, oc) :: rest) → s.toks ≤ tk' → Q .next { s with heap := h', toks := tk' }) :
    wpAny (model prg w) (ktrTop dp un gd (Str.ofString "law") lawScope L fa cd (lawCells L) outer) (execs lawCheck (envX (Str.ofString "law") lawScope L fa cd (lawCells L))) Q E s := by
  refine wpAny_noE ?_
  obtain ⟨sh, sgn, sdr, stk, sos⟩ := s
  dsimp only at F N htk hret
  conv in (execs _ _) => arg 1; whnf
  try k_fold
  k_steps
  refine unstop ?_
  k_dflt (refine' reindent_spec B F X Tp ?hk hx (by omega) (by omega) ?tk ?d ?u ?_)
  case hk => rfl
  case tk => exact htk
  case d => walk_at "m room"
  case u => walk_at "m room"
  intro h2 t2 tk2 F2 G2 hle2 ht2
  dsimp only at G2 hle2 ⊢
  have N2 := news_all N G2
  clear F N G2
  k_steps
  refine unstop ?_
  refine wpAny_toks ?_
  refine comp_signs (g := signG k) (x := x) (t := t) (cl := [(Str.ofString "blanks", L + 1)]) (h₀ := h₀) (L := L) (news := (L + 1, oc) :: rest) rfl (by with_unfolding_all rfl) (by decide) rfl (by decide) rfl (by intro _; rfl) (fun Q' h9 => nameX_L F2 rfl h9) (by omega) F2 N2 ?turn ?done
  case turn =>
    intro c u I oI C oC D m₂ ys h tk hc hC hm F' N' off ne
    clear F2 N2
    refine wpAny_q fun QQ hQQ => ?_
    by_cases h10 : c = 10
    · subst h10
      have e10 : (⟨#[10]⟩ : Str) = Str.ofString "\n" := by decide +kernel
      k_steps
      subst hQQ
      exact ⟨h, _, _, rfl, rfl, F', N'⟩
    · have e10 : (⟨#[c]⟩ : Str) ≠ Str.ofString "\n" := by
        intro q
        have e1 : Str.ofString "\n" = ⟨#[10]⟩ := by decide +kernel
        rw [e1] at q
        have : #[c] = #[10] := congrArg Str.cps q
        simp at this
        exact h10 this
      have eg : (⟨#[c]⟩ : Str) = signG k c := by unfold signG; rw [if_neg h10]
      k_steps
      subst hQQ
      exact ⟨h, _, _, congrArg (Value.str · _) eg, rfl, F', N'⟩
  case done =>
    intro ys D h tk hy F' N' off hle
    dsimp only at hle ⊢
    clear F2 N2
    k_steps
    refine join_strs N' (.head _) hy (fun z hz => ?_) (by rw [List.length_map, ← len_eq]; exact hx) (by decide) ?_
    · obtain ⟨c, _, rfl⟩ := List.mem_map.mp hz
      exact signG_len hk1 c
    intro t3 tk3 hle3
    dsimp only at hle3 ⊢
    have hE := (sign_law x k).symm
    k_steps
    exact hret _ _ F' (fun p hp => N' p (.tail _ hp)) (by walk_at "m le")
end

theorem bnd_drawn {s0 s1 : Str} (h0 : s0.length < 10) (h1 : s1.length < 10) : ∀ (l : List Int) (d : DS) (i : Int) (k : Nat), d.p0.Bnd k → d.p1.Bnd k → 0 ≤ i → i + l.length < 60 → k + l.length < 50 →
    (drawn s0 s1 d i l).p0.Bnd (k + l.length) ∧ (drawn s0 s1 d i l).p1.Bnd (k + l.length) := by
  intro l
  induction l with
  | nil => intro d i k b1 b2 _ _ _; exact ⟨b1, b2⟩
  | cons n r ih =>
    intro d i k b1 b2 hi hl hk
    rw [List.length_cons] at hl hk ⊢
    have key : (d.step s0 s1 (i + 1) n).p0.Bnd (k + 1) ∧ (d.step s0 s1 (i + 1) n).p1.Bnd (k + 1) := by
      unfold DS.step
      split
      · exact ⟨b1.mono (by omega), b2.mono (by omega)⟩
      · split
        · exact ⟨actPS_bnd b1 (by omega) h0 (by omega) (by omega), b2.mono (by omega)⟩
        · exact ⟨b1.mono (by omega), actPS_bnd b2 (by omega) h1 (by omega) (by omega)⟩
    have := ih _ (i + 1) (k + 1) key.1 key.2 (by omega) (by omega) (by omega)
    have e : k + 1 + r.length = k + (r.length + 1) := by omega
    rw [e] at this
    exact this
theorem fin_tops {n0 : Int} {ns : List Int} (h : ns.length < 20) : (fin0 n0 ns).top.length ≤ 50 ∧ (fin1 n0 ns).top.length ≤ 50 := by
  have s0 := steps_len _ (step_in n0)
  have s1 := steps_len _ (step_in (Int.fdiv n0 4))
  have d := bnd_drawn s0 s1 (n0 :: ns) ⟨PS.nil, PS.nil, Int.fmod (Int.fdiv n0 16) 2⟩ 0 0 nil_bnd nil_bnd (by decide) (by rw [List.length_cons]; omega) (by rw [List.length_cons]; omega)
  rw [List.length_cons] at d
  have d0 : (drawAll n0 ns).p0.Bnd 20 := d.1.mono (by omega)
  have d1 : (drawAll n0 ns).p1.Bnd 20 := d.2.mono (by omega)
  have e0 := fin_bnd _ s0 _ (drawAll n0 ns).p0 20 rfl d0 (by have := d0.stk; omega)
  have e1 := fin_bnd _ s1 _ (drawAll n0 ns).p1 20 rfl d1 (by have := d1.stk; omega)
  exact ⟨Nat.le_trans e0.top (by have := d0.stk; omega), Nat.le_trans e1.top (by have := d1.stk; omega)⟩
section
variable {prog : Program} {w : World} {A : Around} {E : Value → Shared → Prop} {s : Shared} {h₀ : Heap} {L a b : Addr} {news : List (Addr × Obj)} {xs ys : List Value} {ka kb : Nat} {ds : List Dat} {Q : Value → Shared → Prop}
theorem dat_eq (N : News h₀ L s.heap news) (ma : (a, listOf xs.toArray ka) ∈ news) (Da : DatAll news xs ds) (mb : (b, listOf ys.toArray kb) ∈ news) (Db : DatAll news ys ds)
    (ha : ∀ d ∈ ds, kqdOk 60 d = true) (hu : A.units + 64 < cLine) (h : Q (.bool true) s) : wpAny (model prog w) A (compareOp .Eq (.ref a) (.ref b)) Q E s := by
  obtain ⟨as, ra⟩ := kqd_all N 60 Da ha
  obtain ⟨bs, rb⟩ := kqd_all N 60 Db ha
  have la := kqd_lay 61 (.list ds) (by simpa [kqdOk] using ha)
  rw [kqdP] at la
  have e : PyData.eqv (.list (kqdPs ds)) (.list (kqdPs ds)) = true := by
    have q := kqd_eqv 61 (.list ds) (.list ds) 61 (by simpa [kqdOk] using ha) (by simpa [kqdOk] using ha)
    rw [kqdP] at q
    exact q.mpr rfl
  have sh : SeqAt.shaped (PyData.list (kqdPs ds)) = true := by
    unfold SeqAt.shaped; rw [la.1, Bool.true_and]; exact decide_eq_true (Nat.le_trans la.2 (by decide))
  exact eq_dataH (reads_list_at (N.get ma) rfl rfl (by simpa using ra)) (reads_list_at (N.get mb) rfl rfl (by simpa using rb)) sh sh hu (by rw [e]; exact h)
end
theorem pack {h₀ h' : Heap} {L : Addr} {a b : List (Addr × Obj)} (N : News h₀ L h' a) (M : News h₀ L h' b) : ∃ LL, News h₀ L h' LL ∧ (∀ p ∈ a, p ∈ LL) ∧ ∀ p ∈ b, p ∈ LL :=
  ⟨a ++ b, news_app N M, fun _ hp => List.mem_append.mpr (.inl hp), fun _ hp => List.mem_append.mpr (.inr hp)⟩
theorem body_dat {LL cl0 cl1 : List (Addr × Obj)} {D10 D9 D8 k8 k9 k10 ta tb tc td te : Nat} {vs0 vs1 : List Value} {top0 top1 : List Dat}
    (h10 : (D10, listOf (vs0 ++ [Value.str t0T ta, Value.ref D9, Value.str t1T tb, Value.str retT tc]).toArray k10) ∈ LL) (h9 : (D9, tupOf [Value.str forT td, Value.ref D8].toArray k9) ∈ LL) (h8 : (D8, listOf (vs1 ++ [Value.str sPass te]).toArray k8) ∈ LL)
    (m0 : ∀ p ∈ cl0, p ∈ LL) (m1 : ∀ p ∈ cl1, p ∈ LL) (hA0 : DatAll cl0 vs0 top0) (hA1 : DatAll cl1 vs1 top1) : DatIn LL (.ref D10) (.list (bodyOf top0 top1)) := by
  refine DatIn.list h10 ?_
  have e : bodyOf top0 top1 = top0 ++ [.str t0T, .tuple [.str forT, .list (top1 ++ [.str sPass])], .str t1T, .str retT] := by simp [bodyOf]
  rw [e]
  exact (hA0.mono m0).append (.cons (.str _ _) (.cons (.tuple h9 (.cons (.str _ _) (.cons (.list h8 ((hA1.mono m1).append (.cons (.str _ _) .nil))) .nil))) (.cons (.str _ _) (.cons (.str _ _) .nil))))
section
local macro_rules | `(tactic| walk_at "call ref") => `(tactic| (refine stop ?_))
local macro_rules | `(tactic| walk_at "call builtin:str.replace") => `(tactic| (refine stop ?_))
noncomputable def mLaw (T0 T1 : Nat) (x0 x1 : Str) (t0 t1 : Nat) (u : Str → Option Value) : Str → Option Value := fun y =>
  if y = Str.ofString "timed" then some (.str x1 t1) else if y = Str.ofString "stmt" then some (.ref T1) else if y = Str.ofString "before" then some (.str x0 t0) else if y = Str.ofString "setup" then some (.ref T0) else u y
theorem mLaw_of {T0 T1 : Nat} {x0 x1 : Str} {t0 t1 : Nat} {m : Str → Option Value} (h1 : m (Str.ofString "timed") = some (.str x1 t1)) (h2 : m (Str.ofString "stmt") = some (.ref T1)) (h3 : m (Str.ofString "before") = some (.str x0 t0)) (h4 : m (Str.ofString "setup") = some (.ref T0)) :
    m = mLaw T0 T1 x0 x1 t0 t1 m := by
  funext y
  unfold mLaw
  (repeat' split) <;> first | rfl | (subst_vars; assumption)
noncomputable def lawEnd : List Stmt := lawBody.drop 4
theorem law_end {w : World} {dp un : Nat} {gd : Option (List Code)} {outer : List Env} {A₀ : Around} {base h₀ : Heap} {L fa : Addr} {cd : Value} {u : Str → Option Value}
    {s : Shared} {Q : Flow → Shared → Prop} {E : Value → Shared → Prop} {mean : ExcName → Option Value} {mg mb : Str → Option Value}
    {T0 T1 a0 a1 t0 t1 : Nat} {vs0 vs1 : List Value} {R cl0 cl1 : List (Addr × Obj)} {n0 : Int} {ns : List Int}
    (B : Below A₀ base outer h₀) (X : (hd.heap_39 w.params).In h₀) (Tp : Top hd.view_39 (looseW hd.view_39 []) mean mg mb h₀)
    (F : Fr h₀ L s.heap (mLaw T0 T1 (drawText0 n0 ns) (drawText1 n0 ns) t0 t1 u)) (N : News h₀ L s.heap R) (mT0 : (T0, listOf vs0.toArray a0) ∈ R) (mT1 : (T1, listOf vs1.toArray a1) ∈ R)
    (m0 : ∀ p ∈ cl0, p ∈ R) (m1 : ∀ p ∈ cl1, p ∈ R) (hA0 : DatAll cl0 vs0 (fin0 n0 ns).top) (hA1 : DatAll cl1 vs1 (fin1 n0 ns).top) (hlen : ns.length < 20) (ht0 : 1 ≤ t0 ∧ t0 < s.toks) (ht1 : 1 ≤ t1 ∧ t1 < s.toks)
    (hd : dp + 20 < recursionLimit) (hu : un + 300 < cLine)
    (hret : ∀ (h' : Heap) (tk' : Nat) (m' : Str → Option Value), Fr h₀ L h' m' → Q (.ret (.bool true)) { s with heap := h', toks := tk' }) :
    wpAny (model prg w) (ktrTop dp un gd (Str.ofString "law") lawScope L fa cd (lawCells L) outer) (execs lawEnd (envX (Str.ofString "law") lawScope L fa cd (lawCells L))) Q E s := by
  refine wpAny_noE ?_
  obtain ⟨sh, sgn, sdr, stk, sos⟩ := s
  dsimp only at F N ht0 ht1 hret
  conv in (execs _ _) => arg 1; whnf
  unfold mLaw at F
  try k_fold
  k_steps
  obtain ⟨x0, x1⟩ := texts (n0 := n0) hlen
  have xe0 := x0.eq
  have xe1 := x1.eq
  have lA : tA.length ≤ 100 ∧ tB.length ≤ 100 ∧ tC.length ≤ 100 ∧ kSetup.length ≤ 10 ∧ kStmt.length ≤ 10 := by decide +kernel
  have l0 := x0.len nl (by decide +kernel)
  have l1 := x1.len nl (by decide +kernel)
  have l4 := x0.len (nl ++ s4) (by decide +kernel)
  have l8 := x1.len (nl ++ s8) (by decide +kernel)
  have n4 := x0.no (nl ++ s4) (by decide +kernel)
  rw [← xe0] at l0
  rw [← xe1] at l1
  have l4' : (Str.join (Str.ofString "\n" ++ s4) (fin0 n0 ns).rows).length ≤ 26000 := l4
  have l8' : (Str.join (Str.ofString "\n" ++ s8) (fin1 n0 ns).rows).length ≤ 26000 := l8
  refine unstop ?_
  refine replace_once (by omega) (by omega) (by omega) repl_init.1 repl_init.2 (by decide +kernel) (by decide +kernel) (noneBooked_of (Frag.In.keeps X F.keep)) ?_
  intro t2 tk2 hle2 ht2
  dsimp only at hle2 ht2 ⊢
  k_steps
  refine unstop ?_
  k_dflt (refine' reindent_spec B F X Tp ?hk (by omega) (by omega) (by omega) ?tk ?d ?u ?_)
  case hk => rfl
  case tk => (dsimp only; walk_at "m le")
  case d => walk_at "m room"
  case u => walk_at "m room"
  intro h3 t3 tk3 F3 G3 hle3 ht3
  dsimp only at G3 hle3 ht3 ⊢
  have N3 := news_all N G3
  clear F N G3
  rw [mul48.1, x0.replace]
  k_steps
  refine unstop ?_
  refine replace_once (by omega) (by omega) (by omega) (repl_setup (Str.join (nl ++ s4) (fin0 n0 ns).rows)).1 (repl_setup _).2 ?_ (by omega) (noneBooked_of (Frag.In.keeps X F3.keep)) ?_
  · simp only [Str.length_append]; omega
  intro t4 tk4 hle4 ht4
  dsimp only at hle4 ht4 ⊢
  k_steps
  refine unstop ?_
  k_dflt (refine' reindent_spec B F3 X Tp ?hk (by omega) (by omega) (by omega) ?tk ?d ?u ?_)
  case hk => rfl
  case tk => (dsimp only; walk_at "m le")
  case d => walk_at "m room"
  case u => walk_at "m room"
  intro h5 t5 tk5 F5 G5 hle5 ht5
  dsimp only at G5 hle5 ht5 ⊢
  have N5 := news_all N3 G5
  clear F3 N3 G5
  rw [mul48.2, x1.replace]
  k_steps
  refine unstop ?_
  refine replace_once (by omega) (by omega) (by omega) (r := madeT n0 ns) (repl_stmt n4 (Str.join (nl ++ s8) (fin1 n0 ns).rows)).1 (repl_stmt n4 (Str.join (nl ++ s8) (fin1 n0 ns).rows)).2 ?_ (by omega) (noneBooked_of (Frag.In.keeps X F5.keep)) ?_
  · simp only [Str.length_append]; omega
  intro t6 tk6 hle6 ht6
  dsimp only at hle6 ht6 ⊢
  k_steps
  obtain ⟨tp0, tp1⟩ := fin_tops (n0 := n0) hlen
  have vl0 := hA0.length
  have vl1 := hA1.length
  rename News h₀ L _ _ => N7
  rename Fr h₀ L _ _ => F7
  refine kmk_add_lit F7 N7 (its := vs1.toArray) (News.isList N7 (.tail _ mT1)) (News.isList N7 (.head _)) rfl ?_ (by rw [sizeLine_eq]; simp; omega)
  intro D8 h8 F8 N8 lt8
  clear F7 N7
  k_steps
  rename News h₀ L _ _ => N9
  rename Fr h₀ L _ _ => F9
  refine kmk_add_lit F9 N9 (its := vs0.toArray) (News.isList N9 (.tail _ (.tail _ (.tail _ (.tail _ mT0))))) (News.isList N9 (.head _)) rfl ?_ (by rw [sizeLine_eq]; simp; omega)
  intro D10 h10 F10 N10 lt10
  clear F9 N9
  k_steps
  refine unstop ?_
  rename News h₀ L _ _ => N11
  rename Fr h₀ L _ _ => F11
  obtain ⟨hr1, hr2⟩ := made_reads (n0 := n0) hlen
  k_dflt (refine' read_spec B F11 X Tp ?hk (Nat.lt_trans (made_len hlen) (by decide)) hr1 hr2 ?d ?u ?_)
  case hk => rfl
  case d => walk_at "m room"
  case u => walk_at "m room"
  intro h12 tk12 T n12 vs12 cl12 F12 N12 hD12 G12
  rw [res_closed] at hD12
  dsimp only at G12 ⊢
  obtain ⟨LL, N13, sub1, sub2⟩ := pack N12 (news_all N11 G12)
  have hBody := body_dat (LL := LL) (sub2 _ (.head _)) (sub2 _ (.tail _ (.tail _ (.head _)))) (sub2 _ (.tail _ (.tail _ (.tail _ (.head _))))) (fun p hp => sub2 p (.tail _ (.tail _ (.tail _ (.tail _ (.tail _ (m0 p hp))))))) (fun p hp => sub2 p (.tail _ (.tail _ (.tail _ (.tail _ (.tail _ (m1 p hp))))))) hA0 hA1
  have mT := sub1 _ (.head _)
  have mC : ∀ p ∈ cl12, p ∈ LL := fun p hp => sub1 p (.tail _ hp)
  clear F11 N11 N12 G12 sub1 sub2
  k_steps
  rename News h₀ L _ _ => N14
  rename Fr h₀ L _ _ => F14
  refine dat_eq (ds := resT n0 ns) N14 (.tail _ (.tail _ mT)) (hD12.mono fun p hp => .tail _ (.tail _ (mC p hp))) (ys := [Value.ref _]) (.head _) ?_ (res_ok hlen) (room (a := 64) hu (by decide)) (hret _ _ _ F14)
  exact .cons (.tuple (.tail _ (.head _)) (.cons (.str _ _) (.cons (hBody.mono fun p hp => .tail _ (.tail _ hp)) .nil))) .nil
end
theorem law_loop {w : World} {dp un : Nat} {gd : Option (List Code)} {outer : List Env} {A₀ : Around} {base h₀ : Heap} {L fa : Addr} {cd : Value} {mm : Str → Option Value}
    {s : Shared} {Q : Flow → Shared → Prop} {mean : ExcName → Option Value} {mg mb : Str → Option Value} {px : Pos}
    {oc : Obj} {rest : List (Addr × Obj)} {k : Int} {tk t0 t1 t2 l3 k3 : Nat} {x0 x1 x2 : Str} {T0 T1 : Nat}
    (B : Below A₀ base outer h₀) (X : (hd.heap_39 w.params).In h₀) (Tp : Top hd.view_39 (looseW hd.view_39 []) mean mg mb h₀)
    (F : Fr h₀ L s.heap mm) (e1 : mm (Str.ofString "timed") = some (.str x1 t1)) (e2 : mm (Str.ofString "stmt") = some (.ref T1)) (e3 : mm (Str.ofString "before") = some (.str x0 t0)) (e4 : mm (Str.ofString "setup") = some (.ref T0))
    (N : News h₀ L s.heap ((l3, listOf [Value.str x0 t0, Value.str x1 t1, Value.str x2 t2].toArray k3) :: (L + 1, oc) :: rest)) (hoc : oc.data = .cell (some (.int k tk)))
    (hx0 : x0.length ≤ 100000) (hx1 : x1.length ≤ 100000) (hx2 : x2.length ≤ 100000) (hk0 : -10 < k) (hk1 : k < 10) (htk : 1 ≤ s.toks)
    (hd : dp + 5 < recursionLimit) (hu : un + 50 < cLine)
    (done : ∀ (h' : Heap) (tk' : Nat) (u : Str → Option Value), Fr h₀ L h' (mLaw T0 T1 x0 x1 t0 t1 u) → News h₀ L h' ((l3, listOf [Value.str x0 t0, Value.str x1 t1, Value.str x2 t2].toArray k3) :: (L + 1, oc) :: rest) → s.toks ≤ tk' → Q .next { s with heap := h', toks := tk' }) :
    wpAny (model prg w) (ktrTop dp un gd (Str.ofString "law") lawScope L fa cd (lawCells L) outer) (pyIter (.ref l3))
      (fun it s₂ => codeAny (model prg w) (ktrTop dp un gd (Str.ofString "law") lawScope L fa cd (lawCells L) outer) (.forLoop (.Name (Str.ofString "text") px) it lawCheck [] (envX (Str.ofString "law") lawScope L fa cd (lawCells L)))
        (fun r s' => match r with | .ok f => Q f s' | .error e => cameBackBy (model prg w) (ktrTop dp un gd (Str.ofString "law") lawScope L fa cd (lawCells L) outer) (envX (Str.ofString "law") lawScope L fa cd (lawCells L)) (fun _ _ => False) e s') s₂) (fun _ _ => False) s := by
  refine iter_tk (h₀ := h₀) (vs := [Value.str x0 t0, Value.str x1 t1, Value.str x2 t2]) (news := (l3, listOf [Value.str x0 t0, Value.str x1 t1, Value.str x2 t2].toArray k3) :: (L + 1, oc) :: rest)
    (K := fun j tk m nx => nx = (l3, listOf [Value.str x0 t0, Value.str x1 t1, Value.str x2 t2].toArray k3) :: (L + 1, oc) :: rest ∧ (∃ u, m = mLaw T0 T1 x0 x1 t0 t1 u) ∧ s.toks ≤ tk) rfl rfl rfl (News.isList N (.head _)) ?hst ?mono F N ⟨rfl, ⟨mm, mLaw_of e1 e2 e3 e4⟩, Nat.le_refl _⟩ ?turn ?done noPass
  case hst =>
    rintro j tk m nx h ⟨rfl, _, _⟩ F' N'
    exact News.isList N' (.head _)
  case mono =>
    rintro j tk tk' m nx hle ⟨a, b, c⟩
    exact ⟨a, b, by omega⟩
  case turn =>
    rintro j v tk m₁ nx h oI hv ⟨rfl, ⟨u, rfl⟩, hle0⟩ hoff F' N' hle
    have hv' : ∃ x t, v = Value.str x t ∧ x.length ≤ 100000 := by
      match j, hv with
      | 0, hv => exact ⟨x0, t0, (Option.some.inj hv).symm, hx0⟩
      | 1, hv => exact ⟨x1, t1, (Option.some.inj hv).symm, hx1⟩
      | 2, hv => exact ⟨x2, t2, (Option.some.inj hv).symm, hx2⟩
      | j + 3, hv => simp at hv
    obtain ⟨x, t, rfl, hx⟩ := hv'
    refine law_check (rest := (s.heap.objs.size, oI) :: (l3, listOf [Value.str x0 t0, Value.str x1 t1, Value.str x2 t2].toArray k3) :: rest) B X Tp F' (fun p hp => N' p ?_) hoc hx hk0 hk1 (by dsimp only; omega) hd hu ?_
    · simp only [List.mem_cons] at hp ⊢
      grind
    intro h' tk' F2 N2 hle2
    dsimp only at hle2
    refine ⟨h', tk', _, (l3, listOf [Value.str x0 t0, Value.str x1 t1, Value.str x2 t2].toArray k3) :: (L + 1, oc) :: rest, rfl, F2, (fun p hp => N2 p ?_), hoff, rfl, ⟨_, mLaw_of rfl rfl rfl rfl⟩, by omega⟩
    simp only [List.mem_cons] at hp ⊢
    grind
  case done =>
    rintro m₁ nx h tk ⟨rfl, ⟨u, rfl⟩, hle0⟩ F' N' hle
    exact done h tk u F' N' hle0
section
local macro_rules | `(tactic| walk_at "call ref") => `(tactic| (refine stop ?_))
local macro_rules | `(tactic| walk_at "exec For Name List cons nil") => `(tactic| (refine stop ?_))
local macro_rules | `(tactic| walk_at "pyIter ref") => `(tactic| (refine stop ?_))
theorem law_tail {w : World} {dp un : Nat} {gd : Option (List Code)} {outer : List Env} {A₀ : Around} {base h₀ : Heap} {L fa : Addr} {cd : Value} {m : Str → Option Value}
    {s : Shared} {Q : Flow → Shared → Prop} {E : Value → Shared → Prop} {mean : ExcName → Option Value} {mg mb : Str → Option Value}
    {oc : Obj} {v0 : Option Value} {nl nk : Nat} {vs : List Value} {n0 : Int} {ns : List Int}
    (B : Below A₀ base outer h₀) (X : (hd.heap_39 w.params).In h₀) (Tp : Top hd.view_39 (looseW hd.view_39 []) mean mg mb h₀)
    (F : Fr h₀ L s.heap (fun z => if z = Str.ofString "numbers" then some (.ref nl) else m z)) (N : News h₀ L s.heap [(nl, listOf vs.toArray nk), (L + 1, oc)]) (hoc : oc.data = .cell v0) (hnl : @Ne Nat nl (L + 1))
    (hi : IntsAre vs (n0 :: ns)) (hlen : ns.length < 20) (htk : 1 ≤ s.toks)
    (hd : dp + 20 < recursionLimit) (hu : un + 300 < cLine)
    (hret : ∀ (h' : Heap) (tk' : Nat) (m' : Str → Option Value), Fr h₀ L h' m' → Q (.ret (.bool true)) { s with heap := h', toks := tk' }) :
    wpAny (model prg w) (ktrTop dp un gd (Str.ofString "law") lawScope L fa cd (lawCells L) outer) (execs lawRest (envX (Str.ofString "law") lawScope L fa cd (lawCells L))) Q E s := by
  refine wpAny_noE ?_
  obtain ⟨sh, sgn, sdr, stk, sos⟩ := s
  dsimp only at F N htk hret
  conv in (execs _ _) => arg 1; whnf
  try k_fold
  k_steps
  refine unstop ?_
  k_dflt (refine' draw_spec B F X Tp ?hk (News.isList N (.head _)) hi hlen htk ?d ?u ?_)
  case hk => rfl
  case d => walk_at "m room"
  case u => walk_at "m room"
  intro h2 tk2 D D0 D1 T0 T1 nD k0 k1 a0 a1 t0 t1 vs0 vs1 cl0 cl1 F2 N2 hA0 hA1 ht0 ht1 hle2 G2 fr2
  dsimp only at hle2 G2 fr2 ⊢
  have gc : sh.get? (L + 1) = some oc := (N (L + 1, oc) (.tail _ (.head _))).1
  have ne2 : ∀ p ∈ ((D, listOf [Value.ref D0, Value.ref D1].toArray nD) :: (D0, tupOf [Value.ref T0, Value.str (drawText0 n0 ns) t0].toArray k0) :: (D1, tupOf [Value.ref T1, Value.str (drawText1 n0 ns) t1].toArray k1) :: (T0, listOf vs0.toArray a0) :: (T1, listOf vs1.toArray a1) :: (cl0 ++ cl1) : List (Addr × Obj)), @Ne Nat p.1 (L + 1) := by
    intro p hp e
    have := fr2 p hp
    rw [e, gc] at this
    cases this
  have N3 : News h₀ L h2 ((L + 1, oc) :: (D, listOf [Value.ref D0, Value.ref D1].toArray nD) :: (D0, tupOf [Value.ref T0, Value.str (drawText0 n0 ns) t0].toArray k0) :: (D1, tupOf [Value.ref T1, Value.str (drawText1 n0 ns) t1].toArray k1) :: (nl, listOf vs.toArray nk) :: ((T0, listOf vs0.toArray a0) :: (T1, listOf vs1.toArray a1) :: (cl0 ++ cl1))) := by
    intro p hp
    refine news_app N2 (news_all N G2) p ?_
    simp only [List.mem_cons, List.mem_append, List.not_mem_nil] at hp ⊢
    grind
  have o1 : Off D (L + 1) ∧ Off D0 (L + 1) ∧ Off D1 (L + 1) ∧ Off nl (L + 1) := ⟨ne2 _ (.head _), ne2 _ (.tail _ (.head _)), ne2 _ (.tail _ (.tail _ (.head _))), hnl⟩
  obtain ⟨o1, o2, o3, o4⟩ := o1
  have tR : ∀ p ∈ ((T0, listOf vs0.toArray a0) :: (T1, listOf vs1.toArray a1) :: (cl0 ++ cl1) : List (Addr × Obj)), p.1 ≠ L + 1 := fun p hp => ne2 p (.tail _ (.tail _ (.tail _ hp)))
  have mT0 : (T0, listOf vs0.toArray a0) ∈ ((T0, listOf vs0.toArray a0) :: (T1, listOf vs1.toArray a1) :: (cl0 ++ cl1) : List (Addr × Obj)) := .head _
  have mT1 : (T1, listOf vs1.toArray a1) ∈ ((T0, listOf vs0.toArray a0) :: (T1, listOf vs1.toArray a1) :: (cl0 ++ cl1) : List (Addr × Obj)) := .tail _ (.head _)
  have m0 : ∀ p ∈ cl0, p ∈ ((T0, listOf vs0.toArray a0) :: (T1, listOf vs1.toArray a1) :: (cl0 ++ cl1) : List (Addr × Obj)) := fun p hp => .tail _ (.tail _ (List.mem_append.mpr (.inl hp)))
  have m1 : ∀ p ∈ cl1, p ∈ ((T0, listOf vs0.toArray a0) :: (T1, listOf vs1.toArray a1) :: (cl0 ++ cl1) : List (Addr × Obj)) := fun p hp => .tail _ (.tail _ (List.mem_append.mpr (.inr hp)))
  generalize hR : ((T0, listOf vs0.toArray a0) :: (T1, listOf vs1.toArray a1) :: (cl0 ++ cl1) : List (Addr × Obj)) = R at N3 tR mT0 mT1 m0 m1
  clear F N N2 G2 fr2 ne2 hR
  obtain ⟨x0, x1⟩ := texts (n0 := n0) hlen
  have l0 := x0.len Mine.nl (by decide +kernel)
  have l1 := x1.len Mine.nl (by decide +kernel)
  have xe0 := x0.eq
  have xe1 := x1.eq
  rw [← xe0] at l0
  rw [← xe1] at l1
  have lnl : (Str.ofString "\n").length = 1 := by decide +kernel
  k_steps
  refine unstop ?_
  refine wpAny_noE ?_
  refine wpAny_For ?_
  k_steps
  refine unstop ?_
  rename News h₀ L _ _ => N7
  rename Fr h₀ L _ _ => F7
  rename (_ : Obj).data = Data.cell (some _) => hoc'
  have f1 := Int.fmod_nonneg_of_pos (((n0 :: ns).getD (Int.toNat 0) 0).fdiv 32 + 5) (b := 12) (by decide)
  have f2 := Int.fmod_lt_of_pos (((n0 :: ns).getD (Int.toNat 0) 0).fdiv 32 + 5) (b := 12) (by decide)
  refine law_loop B X Tp F7 rfl rfl rfl rfl N7 hoc' (by omega) (by omega) (by omega) (by omega) (by omega) (by dsimp only; omega) (by omega) (by omega) ?_
  intro h8 tk8 u F8 N8 hle8
  dsimp only at hle8 ⊢
  refine law_end (R := R) B X Tp F8 (fun p hp => N8 p (.tail _ (.tail _ (.tail _ (.tail _ (.tail _ (.tail _ hp))))))) mT0 mT1 m0 m1 hA0 hA1 hlen ⟨ht0.1, Nat.lt_of_lt_of_le ht0.2 (by dsimp only; walk_at "m le")⟩ ⟨ht1.1, Nat.lt_of_lt_of_le ht1.2 (by dsimp only; walk_at "m le")⟩ hd hu ?_
  intro h' tk' m' F'
  exact hret h' tk' m' F'
end
section
theorem take_cons {l : List Int} (h : 0 < l.length) : ∃ n0 ns, List.take 20 l = n0 :: ns ∧ ns.length < 20 := by
  cases l with
  | nil => cases h
  | cons a r => exact ⟨a, r.take 19, rfl, by rw [List.length_take]; omega⟩
local macro_rules | `(tactic| walk_at "execs cons") => `(tactic| (k_here; (with_reducible show wpAny _ _ (execs (Stmt.Assign [Expr.Tuple _ _ _] _ _ :: _) _) _ _ _); (refine stop ?_)))
theorem law_walk : PySem.Challenge.rw_ki0091_01.Holds := hd (by
  k_go0
  all_goals (try k_fold)
  k_steps
  · refine unstop ?_
    rename Fr _ _ _ _ => F7
    rename News _ _ _ _ => N7
    rename IntsAre _ (List.take 20 _) => hI7
    rename (_ : Obj).data = Data.cell _ => hoc7
    rename Top _ _ _ _ _ _ => T7
    rename Frag.In _ _ => X7
    rename Below _ _ _ _ => B7
    rename 0 < List.length _ => hpos
    obtain ⟨n0, ns, e7, hl7⟩ := take_cons hpos
    rw [e7] at hI7
    k_dflt (refine' law_tail B7 X7 T7 F7 N7 hoc7 ?ne hI7 hl7 ?tk ?d ?u ?_)
    case ne => omega
    case tk => (dsimp only; omega)
    case d => decide
    case u => decide
    intro h9 tk9 m9 F9
    clear F7 N7
    dsimp only
    k_steps
  · refine unstop ?_
    rename Fr _ _ _ _ => F7
    rename News _ _ _ _ => N7
    rename (_ : Obj).data = Data.cell _ => hoc7
    rename Top _ _ _ _ _ _ => T7
    rename Frag.In _ _ => X7
    rename Below _ _ _ _ => B7
    have N8 := cb_drop N7 (List.forall_mem_cons.mpr ⟨List.Mem.head _, List.forall_mem_cons.mpr ⟨List.Mem.tail _ (List.Mem.tail _ (List.Mem.head _)), List.forall_mem_nil _⟩⟩)
    k_dflt (refine' law_tail (n0 := 18) (ns := [10, 0, 4, 37, 3, 7, 6, 47, 2, 2, 20, 1, 3, 3, 63]) B7 X7 T7 F7 N8 hoc7 ?ne ?i ?l ?tk ?d ?u ?_)
    case ne => omega
    case i => (repeat (first | exact IntsAre.nil | refine IntsAre.cons _ _ ?_))
    case l => decide
    case tk => (dsimp only; omega)
    case d => decide
    case u => decide
    intro h9 tk9 m9 F9
    clear F7 N7 N8
    dsimp only
    k_steps
    done)
end
end
end
end
end Mine
theorem PySem.Challenge.cw_ki0091_01_holds : PySem.Challenge.rw_ki0091_01.Holds :=
  Mine.law_walk
