import PyProof.Rows.All
import Wide.All
import OpenK.AllK
import Wide.FinOn
import PySem.Challenge.RW_go0003_01
set_option Elab.async false
set_option maxRecDepth 100000
set_option maxHeartbeats 0
section
open PySem PySem.W PyProof.Rows
namespace Mine
open_top hd for PySem.Challenge.rw_go0003_01
end Mine
end
section
open PySem PySem.W PyProof.Rows PyProof.V PySem.Calls PySem.Spec
namespace Mine
/-! the game, as a plain function -/
def wf : Nat → Nat → Nat → Bool
  | 0, _, _ => false
  | f + 1, n, m => (List.range (min n m)).any fun i => !(wf f (n - (i + 1)) (2 * (i + 1)))
def WI (x y : Int) : Bool := wf x.toNat x.toNat y.toNat
theorem any_same {p q : Nat → Bool} : ∀ {l : List Nat}, (∀ i ∈ l, p i = q i) → l.any p = l.any q
  | [], _ => rfl
  | a :: r, h => by rw [List.any_cons, List.any_cons, h a (.head _), any_same fun i hi => h i (.tail _ hi)]
theorem wf_any (f : Nat) : ∀ (g n m : Nat), n ≤ f → n ≤ g → wf f n m = wf g n m := by
  induction f with
  | zero =>
    intro g n m hf _
    have : n = 0 := by omega
    subst this
    cases g with
    | zero => rfl
    | succ g => simp [wf]
  | succ f ih =>
    intro g n m hf hg
    cases g with
    | zero =>
      have : n = 0 := by omega
      subst this
      simp [wf]
    | succ g =>
      simp only [wf]
      refine any_same fun i hi => ?_
      have := List.mem_range.mp hi
      rw [ih g _ _ (by omega) (by omega)]
def won (x : Int) (i : Nat) : Bool := (List.range i).any fun j => !(WI (x - (1 + (j : Int))) (2 * (1 + (j : Int))))
theorem won_succ (x : Int) (i : Nat) : won x (i + 1) = (won x i || !(WI (x - (1 + (i : Int))) (2 * (1 + (i : Int))))) := by
  unfold won
  rw [List.range_succ, List.any_append]
  simp
theorem WI_eq {x y : Int} (hx : 0 ≤ x) (hy : 0 ≤ y) : WI x y = won x ((if y < x then y else x) + 1 - 1).toNat := by
  unfold WI won
  cases h : x.toNat with
  | zero =>
    have : ((if y < x then y else x) + 1 - 1).toNat = 0 := by split <;> omega
    rw [this]; rfl
  | succ n =>
    simp only [wf]
    have hm : min (n + 1) y.toNat = ((if y < x then y else x) + 1 - 1).toNat := by split <;> omega
    rw [hm]
    refine any_same fun i hi => ?_
    have hi' := List.mem_range.mp hi
    have : i < n + 1 := by revert hi'; split <;> omega
    unfold WI
    have e1 : (x - (1 + (i : Int))).toNat = n + 1 - (i + 1) := by omega
    have e2 : (2 * (1 + (i : Int))).toNat = 2 * (i + 1) := by omega
    rw [e1, e2, wf_any n (n + 1 - (i + 1)) _ _ (by omega) (Nat.le_refl _)]
theorem WI_zero (y : Int) : WI 0 y = false := rfl
/-! the memo: honest, and apart from what else the call has made -/
def Good (D : List (PyData × PyData)) : Prop := ∀ (a b : Int) (v : PyData), lookup (encTuple PyData.int [a, b]) D = some v → v = .bool (WI a b)
def Apart (oth tabs : List (Addr × Obj)) : Prop := ∀ q ∈ oth, ∀ p ∈ tabs, q.1 ≠ p.1
theorem Apart.cons {q : Addr × Obj} {oth tabs : List (Addr × Obj)} (h : Apart oth tabs) (hq : ∀ p ∈ tabs, q.1 ≠ p.1) : Apart (q :: oth) tabs := fun r hr p hp => by
  rcases List.mem_cons.mp hr with rfl | hr
  · exact hq p hp
  · exact h r hr p hp
theorem Apart.head {q : Addr × Obj} {oth tabs : List (Addr × Obj)} (h : Apart (q :: oth) tabs) : ∀ p ∈ tabs, q.1 ≠ p.1 := h q (.head _)
theorem Apart.tail {q : Addr × Obj} {oth tabs : List (Addr × Obj)} (h : Apart (q :: oth) tabs) : Apart oth tabs := fun r hr => h r (.tail _ hr)
theorem Apart.off {I C D : Addr} {oth tabs tabs' : List (Addr × Obj)} (h : LCg.Off3 I C D (oth ++ tabs)) (a1 : ∀ p ∈ tabs', I ≠ p.1) (a2 : ∀ p ∈ tabs', C ≠ p.1) (a3 : ∀ p ∈ tabs', D ≠ p.1) : LCg.Off3 I C D (oth ++ tabs') :=
  LCg.Off3.of fun p hp => by
    rcases List.mem_append.mp hp with hp | hp
    · exact h.mem p (List.mem_append_left _ hp)
    · exact ⟨Ne.symm (a1 p hp), Ne.symm (a2 p hp), Ne.symm (a3 p hp)⟩
section
variable {prog : Program} {w : World} {K : Type} [DecidableEq K] {knd : KeyKind prog w K} {enc : K → PyData} {h₀ h : Heap} {L d a : Addr} {m : Str → Option Value} {news news' oth tabs : List (Addr × Obj)} {D : List (PyData × PyData)} {ks : List K} {ok : Obj} {A : Around} {E : Value → Shared → Prop} {s : Shared}
theorem tab_sub (T : TupTab knd enc news d D) (hs : ∀ p ∈ news, p ∈ news') : TupTab knd enc news' d D :=
  let ⟨lo, o, es, ep, xs, hm, hc, hd, he, hn, hk, hf⟩ := T
  ⟨lo, o, es, ep, xs, hs _ hm, hc, hd, he, hn, fun x hx => let ⟨okx, hmk, t⟩ := hk x hx; ⟨okx, hs _ hmk, t⟩, hf⟩
theorem news_sub (N : News h₀ L h news') (hs : ∀ p ∈ news, p ∈ news') : News h₀ L h news := fun p hp => N p (hs p hp)
/-- storing into the memo: the key's object goes over to the memo's part of the ledger -/
theorem set_tab {v : Value} {dv : PyData} {Q : Unit → Shared → Prop} (henc : ∀ a b, same (enc a) (enc b) = decide (a = b)) (hu : A.units + 1 < cLine) (hv : Flat v dv)
    (F : Fr h₀ L s.heap m) (N : News h₀ L s.heap ((a, ok) :: (oth ++ tabs))) (T : TupTab knd enc tabs d D) (ap : Apart oth tabs) (apk : ∀ q ∈ oth, q.1 ≠ a) (tk : TupKeyObj knd ks ok)
    (h : ∀ h' tabs', Fr h₀ L h' m → News h₀ L h' (oth ++ tabs') → TupTab knd enc tabs' d (putD (encTuple enc ks) dv D) → Apart oth tabs' → Q () { s with heap := h', toks := s.toks + (ks.length + 1) })
    (hsz : D.length ≤ sizeLine) :
    wpAny (model prog w) A (setItem (.ref d) (.ref a) v) Q E s := by
  obtain ⟨lo, o, es, ep, xs, hm, hc, hd, he, hn, hk, hf⟩ := T
  have Nt : ∀ p ∈ tabs, p ∈ (a, ok) :: (oth ++ tabs) := fun p hp => .tail _ (List.mem_append_right _ hp)
  have hD : s.heap.DictOfH (tupleKind knd) d xs := ⟨o, es, ep, N.get (Nt _ hm), hc, hd, he, fun x hx => let ⟨_, hmk, t⟩ := hk x hx; t.key (N.get (Nt _ hmk)), hn⟩
  have hka : (a, ok) ∈ (a, ok) :: (oth ++ tabs) := .head _
  have hne : ∀ {b : Addr} {ob : Obj} {ks' : List K}, (b, ob) ∈ (a, ok) :: (oth ++ tabs) → TupKeyObj knd ks' ob → b ≠ d := by
    intro b ob ks' hb t e
    subst e
    obtain rfl : ob = o := Option.some.inj ((N.get hb).symm.trans (N.get (Nt _ hm)))
    have h1 := t.1
    rw [hc.1] at h1
    injection h1 with h2
    exact absurd h2 (by decide)
  have hxs : xs.length ≤ sizeLine := by have e := hf.length; simp only [kvsOf, List.length_map] at e; omega
  refine wpAny_setItem_heap (hsz := hxs) (knd := tupleKind knd) (tupleKind_room_in1 hu) (tk.key (N.get hka)) hD fun h' hm' hs => ?_
  obtain ⟨o', es', ep', ho', hc', hd', he', _, hn'⟩ := hm'
  have N₀ := N.replace hs ho'
  have had : a ≠ d := hne hka tk
  have keep : ∀ p ∈ (a, ok) :: tabs, p.1 ≠ d → p ∈ ((a, ok) :: tabs).map fun p => if p.1 = d then (d, o') else p := fun p hp hpd => List.mem_map.mpr ⟨p, hp, by simp [hpd]⟩
  have hod : ∀ q ∈ oth, q.1 ≠ d := fun q hq => ap q hq (d, o) hm
  refine h h' (((a, ok) :: tabs).map fun p => if p.1 = d then (d, o') else p) (F.change hs (N _ (Nt _ hm)).2.1 (N.fresh (Nt _ hm))) (fun p hp => ?_)
    ⟨lo, o', es', ep', storedH xs ks a v, List.mem_map.mpr ⟨(d, o), .tail _ hm, by simp⟩, hc', hd', he', hn', fun x hx => ?_, by rw [kvsOf_storedH]; exact hf.stored (same_encTuple henc) ks hv⟩ (fun q hq p hp => ?_)
  · refine N₀ p ?_
    rcases List.mem_append.mp hp with hp | hp
    · exact List.mem_map.mpr ⟨p, .tail _ (List.mem_append_left _ hp), by simp [hod p hp]⟩
    · obtain ⟨q, hq, rfl⟩ := List.mem_map.mp hp
      refine List.mem_map.mpr ⟨q, ?_, rfl⟩
      rcases List.mem_cons.mp hq with rfl | hq
      · exact .head _
      · exact Nt _ hq
  · rcases mem_storedH hx with ⟨y, hy, e1, e2⟩ | ⟨e1, e2⟩
    · obtain ⟨oky, hmk, t⟩ := hk y hy
      exact ⟨oky, by rw [e2]; exact keep _ (.tail _ hmk) (hne (Nt _ hmk) t), by rw [e1]; exact t⟩
    · exact ⟨ok, by rw [e2]; exact keep _ (.head _) had, by rw [e1]; exact tk⟩
  · obtain ⟨r, hr, rfl⟩ := List.mem_map.mp hp
    by_cases hrd : r.1 = d
    · rw [if_pos hrd]; exact hod q hq
    · rw [if_neg hrd]
      rcases List.mem_cons.mp hr with rfl | hr
      · exact apk q hq
      · exact ap q hq r hr
end
section
variable {prog : Program} {w : World} {h₀ : Heap} {L d a : Addr} {m : Str → Option Value} {news : List (Addr × Obj)} {D : List (PyData × PyData)} {ok : Obj} {A : Around} {E : Value → Shared → Prop} {s : Shared}
theorem item_good {x y : Int} {value slice : Expr} {Q : Value → Shared → Prop} (hu : A.units + 1 < cLine) (N : News h₀ L s.heap news) (T : TupTab (intKind prog w) PyData.int news d D) (G : Good D)
    (hka : (a, ok) ∈ news) (tk : TupKeyObj (intKind prog w) [x, y] ok) (hl : (lookup (encTuple PyData.int [x, y]) D).isSome = true) (h : Q (.bool (WI x y)) { s with toks := s.toks + (([x, y] : List Int).length + 1) })
    (hs : subscripted slice false (.ref d) (.ref a) = operate [.ref d, .ref a] (getItem (.ref d) (.ref a)) := by with_unfolding_all rfl) (hg : ∀ r, letTemporaryGo value (.ref d) r = pure () := by intro _; with_unfolding_all rfl) :
    wpAny (model prog w) A (subscriptTail value slice (.ref d) (.ref a)) Q E s := by
  obtain ⟨dv, hdv⟩ := Option.isSome_iff_exists.mp hl
  refine item_tupTab (knd := intKind prog w) (enc := PyData.int) same_int hu N T hka tk hdv (fun v hv => ?_) hs hg
  rw [G x y dv hdv] at hv
  rw [hv.bool_inv]
  exact h
theorem good_put {x y : Int} (G : Good D) : Good (putD (encTuple PyData.int [x, y]) (.bool (WI x y)) D) := by
  intro a b v hv
  by_cases e : ([a, b] : List Int) = [x, y]
  · have e1 : a = x := by injection e
    have e2 : b = y := by injection e with _ e2; injection e2
    subst e1 e2
    rw [lookup_putK_same (keyEnc_tuple keyEnc_int)] at hv
    exact (Option.some.inj hv).symm
  · rw [lookup_putK_other (keyEnc_tuple keyEnc_int) e] at hv
    exact G a b v hv
end
/-! a comprehension with a test, over a range, whose test may turn the ledger -/
def TurnEnd (h₀ : Heap) (L : Addr) (m : Str → Option Value) (s₁ : Shared) (I : Addr) (oI : Obj) (C : Addr) (oC : Obj) (D : Addr) (oD : Obj) (rest : Value → List (Addr × Obj) → Prop) (y : Value) (s₂ : Shared) : Prop :=
  ∃ h' tk news', s₂ = { s₁ with heap := h', toks := tk } ∧ Fr h₀ L h' m ∧ News h₀ L h' ((I, oI) :: (C, oC) :: (D, oD) :: news') ∧ LCg.Off3 I C D news' ∧ rest y news'
section
variable {prog : Program} {w : World} {A : Around} {h₀ : Heap} {L : Addr} {m : Str → Option Value} {env : Env} {ct elt : Expr} {x : Str} {scope : Scope} {cl : List (Str × Addr)} {s : Shared} {Fin : List Value → List (Addr × Obj) → Prop} {news : List (Addr × Obj)}
theorem comp_rest {n : Nat} {a : Int} (Inv : Nat → List Int → List (Addr × Obj) → Prop)
    (turn : ∀ (i : Nat) t I oI C oC D m₂ ys l h tk newsi (E' : Value → Shared → Prop), i < n → IntsAre ys l → Inv i l newsi → LCg.NsObj oC m₂ → m₂ x = some (.int (a + (i : Int)) t) → Fr h₀ L h m → News h₀ L h ((I, oI) :: (C, oC) :: (D, LCg.lst ys) :: newsi) → LCg.Off3 I C D newsi → ((@Ne Nat I C) ∧ (@Ne Nat I D) ∧ (@Ne Nat C D)) →
      wpAny (model prog w) A (isTrue ct (compEnvC scope cl C env) (eval ct (compEnvC scope cl C env))) (fun b s' => if b = true then wpAny (model prog w) A (eval elt (compEnvC scope cl C env)) (TurnEnd h₀ L m { s with heap := h, toks := tk } I oI C oC D (LCg.lst ys) (fun y news' => ∃ k t, y = .int k t ∧ Inv (i + 1) (l ++ [k]) news')) E' s'
        else TurnEnd h₀ L m { s with heap := h, toks := tk } I oI C oC D (LCg.lst ys) (fun _ news' => Inv (i + 1) l news') Value.none s') E' { s with heap := h, toks := tk })
    (fin : ∀ ys l newsn, IntsAre ys l → Inv n l newsn → Fin ys newsn) (h0 : Inv 0 [] news) : LCt.CompRestT prog w A h₀ L m env ct elt x scope cl s (fun _ => True) (fun i v => ∃ t, v = .int (a + (i : Int)) t) Fin n 0 [] news := by
  have key : ∀ (j i : Nat) (ys : List Value) (l : List Int) newsi, i + j = n → IntsAre ys l → Inv i l newsi → LCt.CompRestT prog w A h₀ L m env ct elt x scope cl s (fun _ => True) (fun i v => ∃ t, v = .int (a + (i : Int)) t) Fin j i ys newsi := by
    intro j
    induction j with
    | zero =>
      intro i ys l newsi hi hy hI
      have e : i = n := by omega
      subst e
      exact LCt.CompRestT.zero (fin ys l newsi hy hI)
    | succ j ih =>
      intro i ys l newsi hi hy hI
      refine LCt.CompRestT.succ ?_
      intro v I oI C oC D m₂ h tk E' hv hC hx F N off ne
      obtain ⟨t, rfl⟩ := hv
      refine wpAny_mono (turn i t I oI C oC D m₂ ys l h tk newsi E' (by omega) hy hI hC hx F N off ne) (fun b s₂ hq => ?_) fun _ _ e => e
      cases b with
      | true =>
        simp only [if_true] at hq ⊢
        refine wpAny_mono hq (fun y s₃ hr => ?_) fun _ _ e => e
        obtain ⟨h', tk', nw, e, F', N', off', k, t', rfl, hI'⟩ := hr
        exact ⟨h', tk', nw, e, F', N', off', trivial, ih (i + 1) _ _ _ (by omega) (IntsAre.append hy (.cons k t' .nil)) hI'⟩
      | false =>
        simp only [Bool.false_eq_true, if_false] at hq ⊢
        obtain ⟨h', tk', nw, e, F', N', off', hI'⟩ := hq
        exact ⟨h', tk', nw, e, F', N', off', trivial, ih (i + 1) _ _ _ (by omega) hy hI'⟩
  exact key n 0 [] [] news (by omega) .nil h0
end
def WInv (prog : Program) (w : World) (d : Addr) (q1 q2 q3 : Addr × Obj) (oth : List (Addr × Obj)) (x : Int) (B : Nat) (i : Nat) (l : List Int) (newsi : List (Addr × Obj)) : Prop :=
  ∃ tabsi Di, newsi = q1 :: q2 :: q3 :: (oth ++ tabsi) ∧ TupTab (intKind prog w) PyData.int tabsi d Di ∧ Apart (q1 :: q2 :: q3 :: oth) tabsi ∧ Good Di ∧ Di.length + 2 ^ (x.toNat - i) ≤ B ∧ l.isEmpty = !won x i
section
variable {prog : Program} {w : World} {A : Around} {h₀ : Heap} {L : Addr} {m : Str → Option Value} {env : Env} {ct elt : Expr} {xn : Str} {scope : Scope} {cl : List (Str × Addr)} {s : Shared} {Fin : List Value → List (Addr × Obj) → Prop} {q1 q2 q3 : Addr × Obj} {oth tabs : List (Addr × Obj)}
theorem wins_rest {n : Nat} {d : Addr} {D : List (PyData × PyData)} {x : Int} {B : Nat} (T : TupTab (intKind prog w) PyData.int tabs d D) (ap : Apart (q1 :: q2 :: q3 :: oth) tabs) (G : Good D) (hB : D.length + 2 ^ x.toNat ≤ B)
    (turn : ∀ (i : Nat) t I oI C oC Dl m₂ ys l h tk tabsi Di (E' : Value → Shared → Prop), i < n → IntsAre ys l → TupTab (intKind prog w) PyData.int tabsi d Di → Apart (q1 :: q2 :: q3 :: oth) tabsi → Good Di → Di.length + 2 ^ (x.toNat - i) ≤ B → l.isEmpty = !won x i → LCg.NsObj oC m₂ → m₂ xn = some (.int (1 + (i : Int)) t) → Fr h₀ L h m →
      News h₀ L h ((I, oI) :: (C, oC) :: (Dl, LCg.lst ys) :: q1 :: q2 :: q3 :: (oth ++ tabsi)) → LCg.Off3 I C Dl (q1 :: q2 :: q3 :: (oth ++ tabsi)) → ((@Ne Nat I C) ∧ (@Ne Nat I Dl) ∧ (@Ne Nat C Dl)) →
      wpAny (model prog w) A (isTrue ct (compEnvC scope cl C env) (eval ct (compEnvC scope cl C env))) (fun b s' => if b = true then wpAny (model prog w) A (eval elt (compEnvC scope cl C env)) (TurnEnd h₀ L m { s with heap := h, toks := tk } I oI C oC Dl (LCg.lst ys) (fun y news' => ∃ k t, y = .int k t ∧ WInv prog w d q1 q2 q3 oth x B (i + 1) (l ++ [k]) news')) E' s'
        else TurnEnd h₀ L m { s with heap := h, toks := tk } I oI C oC Dl (LCg.lst ys) (fun _ news' => WInv prog w d q1 q2 q3 oth x B (i + 1) l news') Value.none s') E' { s with heap := h, toks := tk })
    (fin : ∀ ys l tabsn Dn, IntsAre ys l → TupTab (intKind prog w) PyData.int tabsn d Dn → Apart (q1 :: q2 :: q3 :: oth) tabsn → Good Dn → Dn.length + 2 ^ (x.toNat - n) ≤ B → l.isEmpty = !won x n → Fin ys (q1 :: q2 :: q3 :: (oth ++ tabsn))) :
    LCt.CompRestT prog w A h₀ L m env ct elt xn scope cl s (fun _ => True) (fun i v => ∃ t, v = .int (1 + (i : Int)) t) Fin n 0 [] (q1 :: q2 :: q3 :: (oth ++ tabs)) := by
  refine comp_rest (WInv prog w d q1 q2 q3 oth x B) ?_ ?_ ⟨tabs, D, rfl, T, ap, G, hB, rfl⟩
  · rintro i t I oI C oC Dl m₂ ys l h tk newsi E' hi hy ⟨tabsi, Di, rfl, Ti, api, Gi, hBi, hl⟩ hC hx F N off ne
    exact turn i t I oI C oC Dl m₂ ys l h tk tabsi Di E' hi hy Ti api Gi hBi hl hC hx F N off ne
  · rintro ys l newsn hy ⟨tabsi, Di, rfl, Ti, api, Gi, hBi, hl⟩
    exact fin ys l tabsi Di hy Ti api Gi hBi hl
end
section
variable {prog : Program} {w : World} {g h8 : Heap} {L : Addr} {m : Str → Option Value} {q1 q2 q3 : Addr × Obj} {oth tabs8 tabs9 : List (Addr × Obj)} {s₁ : Shared} {I C Dl d : Addr} {oI oC oD : Obj} {tk8 : Nat}
theorem turn_inv {x : Int} {i B : Nat} {l' : List Int} {D8 D9 : List (PyData × PyData)} (T8 : TupTab (intKind prog w) PyData.int tabs8 d D8) (ap8 : Apart ((I, oI) :: (C, oC) :: (Dl, oD) :: q1 :: q2 :: q3 :: oth) tabs8) (G8 : Good D8)
    (hB8 : D8.length ≤ D9.length + 2 ^ (x - (1 + (i : Int))).toNat) (hB9 : D9.length + 2 ^ (x.toNat - i) ≤ B) (hi : (i : Int) < x) (hl : l'.isEmpty = !won x (i + 1)) :
    WInv prog w d q1 q2 q3 oth x B (i + 1) l' (q1 :: q2 :: q3 :: (oth ++ tabs8)) := by
  refine ⟨tabs8, D8, rfl, T8, ap8.tail.tail.tail, G8, ?_, hl⟩
  have e1 : x.toNat - i = (x.toNat - (i + 1)) + 1 := by omega
  have e2 : (x - (1 + (i : Int))).toNat = x.toNat - (i + 1) := by omega
  rw [e1, Nat.pow_succ] at hB9
  rw [e2] at hB8
  omega
theorem turn_off (ap8 : Apart ((I, oI) :: (C, oC) :: (Dl, oD) :: q1 :: q2 :: q3 :: oth) tabs8) (off : LCg.Off3 I C Dl (q1 :: q2 :: q3 :: (oth ++ tabs9))) : LCg.Off3 I C Dl (q1 :: q2 :: q3 :: (oth ++ tabs8)) :=
  Apart.off (oth := q1 :: q2 :: q3 :: oth) (tabs := tabs9) off ap8.head ap8.tail.head ap8.tail.tail.head
theorem turn_no {x : Int} {i B : Nat} {l : List Int} {v : Value} {D8 D9 : List (PyData × PyData)} (F8 : Fr g L h8 m) (N8 : News g L h8 (((I, oI) :: (C, oC) :: (Dl, oD) :: q1 :: q2 :: q3 :: oth) ++ tabs8)) (T8 : TupTab (intKind prog w) PyData.int tabs8 d D8) (ap8 : Apart ((I, oI) :: (C, oC) :: (Dl, oD) :: q1 :: q2 :: q3 :: oth) tabs8) (G8 : Good D8)
    (hB8 : D8.length ≤ D9.length + 2 ^ (x - (1 + (i : Int))).toNat) (hB9 : D9.length + 2 ^ (x.toNat - i) ≤ B) (hi : (i : Int) < x) (off : LCg.Off3 I C Dl (q1 :: q2 :: q3 :: (oth ++ tabs9))) (hW : WI (x - (1 + (i : Int))) (2 * (1 + (i : Int))) = true) (hl : l.isEmpty = !won x i) :
    TurnEnd g L m s₁ I oI C oC Dl oD (fun _ news' => WInv prog w d q1 q2 q3 oth x B (i + 1) l news') v { s₁ with heap := h8, toks := tk8 } :=
  ⟨h8, tk8, _, rfl, F8, N8, turn_off ap8 off, turn_inv T8 ap8 G8 hB8 hB9 hi (by rw [won_succ, hW, hl]; simp)⟩
theorem turn_yes {x : Int} {i B : Nat} {l : List Int} {k : Int} {t : Tok} {D8 D9 : List (PyData × PyData)} (F8 : Fr g L h8 m) (N8 : News g L h8 (((I, oI) :: (C, oC) :: (Dl, oD) :: q1 :: q2 :: q3 :: oth) ++ tabs8)) (T8 : TupTab (intKind prog w) PyData.int tabs8 d D8) (ap8 : Apart ((I, oI) :: (C, oC) :: (Dl, oD) :: q1 :: q2 :: q3 :: oth) tabs8) (G8 : Good D8)
    (hB8 : D8.length ≤ D9.length + 2 ^ (x - (1 + (i : Int))).toNat) (hB9 : D9.length + 2 ^ (x.toNat - i) ≤ B) (hi : (i : Int) < x) (off : LCg.Off3 I C Dl (q1 :: q2 :: q3 :: (oth ++ tabs9))) (hW : WI (x - (1 + (i : Int))) (2 * (1 + (i : Int))) = false) :
    TurnEnd g L m s₁ I oI C oC Dl oD (fun y news' => ∃ k t, y = .int k t ∧ WInv prog w d q1 q2 q3 oth x B (i + 1) (l ++ [k]) news') (.int k t) { s₁ with heap := h8, toks := tk8 } :=
  ⟨h8, tk8, _, rfl, F8, N8, turn_off ap8 off, k, t, rfl, turn_inv T8 ap8 G8 hB8 hB9 hi (by rw [won_succ, hW]; simp)⟩
theorem off_ap (off : LCg.Off3 I C Dl (q1 :: q2 :: q3 :: (oth ++ tabs9))) : (∀ p ∈ tabs9, I ≠ p.1) ∧ (∀ p ∈ tabs9, C ≠ p.1) ∧ ∀ p ∈ tabs9, Dl ≠ p.1 := by
  have key : ∀ p ∈ tabs9, p.1 ≠ I ∧ p.1 ≠ C ∧ p.1 ≠ Dl := fun p hp => off.mem p (.tail _ (.tail _ (.tail _ (List.mem_append_right _ hp))))
  exact ⟨fun p hp => Ne.symm (key p hp).1, fun p hp => Ne.symm (key p hp).2.1, fun p hp => Ne.symm (key p hp).2.2⟩
end
theorem apk_of {a t c1 c2 : Addr} {o1 o2 o3 : Obj} {oth tabs : List (Addr × Obj)} (h1 : t < a) (h2 : c1 < a) (h3 : c2 < a) (h4 : AllLt a (oth ++ tabs)) : ∀ q ∈ (t, o1) :: (c1, o2) :: (c2, o3) :: oth, q.1 ≠ a := by
  intro q hq
  refine Nat.ne_of_lt ?_
  rcases List.mem_cons.mp hq with rfl | hq
  · exact h1
  · rcases List.mem_cons.mp hq with rfl | hq
    · exact h2
    · rcases List.mem_cons.mp hq with rfl | hq
      · exact h3
      · exact ktn_ltOf h4 q (List.mem_append_left _ hq)
theorem apt_of {t c1 c2 : Addr} {oth tabs : List (Addr × Obj)} (h : c1 < t ∧ c2 < t ∧ AllLt t (oth ++ tabs)) : ∀ p ∈ tabs, t ≠ p.1 := fun p hp => Nat.ne_of_gt (ktn_ltOf h.2.2 p (List.mem_append_right _ hp))
section
variable {prog : Program} {w : World} {h₀ : Heap} {L d a t1 c1 c2 l' Dl : Addr} {m : Str → Option Value} {D : List (PyData × PyData)} {p1 p2 p3 ol od : Obj} {oth tabs : List (Addr × Obj)} {A : Around} {E : Value → Shared → Prop} {s : Shared}
theorem set_wins {x y : Int} {tx ty : Tok} {b : Bool} {Q : Unit → Shared → Prop} (hu : A.units + 1 < cLine) (hW : b = WI x y) (F : Fr h₀ L s.heap m)
    (N : News h₀ L s.heap ((a, { cls := .type "tuple", data := .seq #[.int x tx, .int y ty] }) :: (l', ol) :: (Dl, od) :: (t1, p1) :: (c1, p2) :: (c2, p3) :: (oth ++ tabs)))
    (T : TupTab (intKind prog w) PyData.int tabs d D) (ap : Apart ((t1, p1) :: (c1, p2) :: (c2, p3) :: oth) tabs) (lt : l' < a ∧ Dl < a ∧ t1 < a ∧ c1 < a ∧ c2 < a ∧ AllLt a (oth ++ tabs)) (G : Good D) (hsz : D.length ≤ sizeLine)
    (h : ∀ h' tabs' D', Fr h₀ L h' m → News h₀ L h' ((t1, p1) :: (c1, p2) :: (c2, p3) :: (oth ++ tabs')) → TupTab (intKind prog w) PyData.int tabs' d D' → Apart ((t1, p1) :: (c1, p2) :: (c2, p3) :: oth) tabs' → Good D' → D'.length ≤ D.length + 1 →
      (lookup (encTuple PyData.int [x, y]) D').isSome = true → Q () { s with heap := h', toks := s.toks + (([x, y] : List Int).length + 1) }) :
    wpAny (model prog w) A (setItem (.ref d) (.ref a) (.bool b)) Q E s := by
  subst hW
  obtain ⟨-, -, a1, a2, a3, a4⟩ := lt
  refine set_tab (knd := intKind prog w) (enc := PyData.int) (dv := .bool (WI x y)) (oth := (t1, p1) :: (c1, p2) :: (c2, p3) :: oth) (tabs := tabs) (ks := [x, y]) same_int hu (Flat.bool _) F (news_sub N fun p hp => ?_) T ap (apk_of a1 a2 a3 a4)
    (TupKeyObj.made (vs := [.int x tx, .int y ty]) (.cons (intKind_is _ _ _ _) (.cons (intKind_is _ _ _ _) .nil))) (fun h' tabs' F' N' T' ap' => h h' tabs' _ F' N' T' ap' (good_put G) (putD_length_le _ _ _) (isSome_putT keyEnc_int _ _ _)) hsz
  rcases List.mem_cons.mp hp with rfl | hp
  · exact .head _
  · exact .tail _ (.tail _ (.tail _ hp))
end
/-! what a call of _law_wins answers -/
def WinsC (prog : Program) (w : World) (K : Frag) (p : Program) (loose : List Str) (mean : ExcName → Option Value) (mg mb : Str → Option Value) (f : Addr) (N : Nat) : Prop :=
  ∀ (x y : Int) (tx ty : Tok) (d : Addr) (D : List (PyData × PyData)) (dp un : Nat) (gd : Option (List Code)) (cn : Str) (cs : Scope) (a : Addr) (ccd : Value) (cl : List (Str × Addr)) (outer : List Env) (A₀ : Around) (base h₀ : Heap) (L : Addr) (m : Str → Option Value) (oth tabs : List (Addr × Obj)) (s : Shared) (Q E : Value → Shared → Prop),
    0 ≤ x → x < N → x ≤ 13 → 0 ≤ y → y ≤ 26 → TupTab (intKind prog w) PyData.int tabs d D → Apart oth tabs → Good D → D.length + 2 ^ x.toNat ≤ 2000000 →
    Below A₀ base outer h₀ → Fr h₀ L s.heap m → K.In h₀ → News h₀ L s.heap (oth ++ tabs) → Top p loose mean mg mb h₀ → cs.kind = .function →
    dp + N + 1 < recursionLimit → un + 8 * (N + 1) + 100 < cLine →
    (∀ (h' : Heap) (tk' : Nat) (tabs' : List (Addr × Obj)) (D' : List (PyData × PyData)), Fr h₀ L h' m → News h₀ L h' (oth ++ tabs') → TupTab (intKind prog w) PyData.int tabs' d D' → Apart oth tabs' → Good D' → D'.length ≤ D.length + 2 ^ x.toNat →
      Q (.bool (WI x y)) { s with heap := h', toks := tk' }) →
    wpAny (model prog w) (ktrTop dp un gd cn cs L a ccd cl outer) (call (.ref f) [.int x tx, .int y ty, .ref d]) Q E s
end Mine
namespace Mine
/-- a place where the walk is to stand still -/
def Park (P : Prop) : Prop := P
theorem Park.out {P : Prop} (h : Park P) : P := h
theorem Park.in {P : Prop} (h : P) : Park P := h
end Mine
end
section
open PySem PySem.W PyProof.Rows PyProof.V PySem.Calls PySem.Spec
namespace Mine
local macro_rules | `(tactic| walk_at $s:str) => `(tactic| k_extra $s)
theorem wins_walk (w : World) (p : Program) (loose : List Str) (mean : ExcName → Option Value) (mg mb : Str → Option Value) (N : Nat)
    (IH : WinsC PySem.Challenge.rw_go0003_01.prog w (Mine.hd.heap_39 w.params) p loose mean mg mb 79 N) :
    WinsC PySem.Challenge.rw_go0003_01.prog w (Mine.hd.heap_39 w.params) p loose mean mg mb 79 (N + 1) := by
  w_top off
  k_with_none
  k_fill
  intro x y tx ty d D dp un gd cn cs a ccd cl outer A₀ base h₀ L m oth tabs s Q E hx0 hxN hx hy0 hy T₀ ap GD hD B F X N' T hk hdp hun hret
  have TT : TupTab (intKind PySem.Challenge.rw_go0003_01.prog w) PyData.int (oth ++ tabs) d D := tab_sub T₀ fun p hp => List.mem_append_right _ hp
  refine wpAny_call ?_
  k_dflt (refine' code_defC ?k1 ?k2 ?k3 ?k4 ?k5 ?kA ?kF ?kK ?k6 ?k7 ?k8 ?k9 ?kB ?kD ?_ ?c2 ?c3 ?c4; (case kA => exact rfl); (case kF => exact rfl); (case kK => assumption); (case k1 => k_asm); (case k2 => k_asm); (case k3 => k_asm); (case k4 => k_asm); (case k5 => k_asm); (case k6 => k_is); (case k7 => k_is); (case k8 => ktr_room); (case k9 => exact BindsTo.of_eq rfl); (case kB => exact rfl); (case kD => decide +kernel); (case c2 => exact rfl); (case c3 => exact rfl); (case c4 => exact rfl); k_whole; intro g' L' h' tk' cells' FG' F' N' Y' B' X' T' l1)
  obtain ⟨o1, o2, hE, dc1, dc2⟩ := CellsAre.two Y'
  subst hE
  clear Y'
  have dc1' : o1.data = .cell (some (.ref d)) := dc1
  have dc2' : o2.data = .cell (some (.int x tx)) := dc2
  clear dc1 dc2
  (try simp only [List.cons_append, List.nil_append] at N')
  (try dsimp only)
  (try k_lift B')
  (try k_fold)
  k_with "subscriptTail Name Tuple" => (refine item_good (x := x) (y := y) (by units_room) (by k_asm) (tab_sub T₀ (fun p hp => List.mem_cons_of_mem _ (List.mem_cons_of_mem _ (List.mem_cons_of_mem _ (List.mem_cons_of_mem _ (List.mem_append_right _ hp)))))) GD (.head _) (TupKeyObj.made (.cons (intKind_is _ _ _ _) (.cons (intKind_is _ _ _ _) .nil))) (by assumption) ?_)
  k_with "CompSrcT" => (refine Park.out ?_)
  k_with "call ref" => (refine Park.out ?_)
  k_with "compareOp NotEq ref ref" => (refine Park.out ?_)
  k_with "setItem ref ref" => (refine Park.out ?_)
  k_steps
  · rename_i hx9 kF kN kT kX
    subst hx9
    exact hret _ _ tabs D kF (news_sub kN fun p hp => .tail _ (.tail _ hp)) T₀ ap GD (Nat.le_add_right _ _)
  · rename_i kF kN kT kX
    exact hret _ _ tabs D kF (news_sub kN fun p hp => .tail _ (.tail _ (.tail _ (.tail _ hp)))) T₀ ap GD (Nat.le_add_right _ _)
  · refine Park.in ?_
    refine LCt.CompSrcT.range (by rfl) (by k_asm) (by k_asm) (by assumption) (small_one (by decide) (by decide) (by split <;> omega) (by split <;> omega)) (rangeSize_nat _ _) (by rw [PySem.sizeLine_eq]; split <;> omega) ?_
    intro g9
    refine wins_rest (x := x) (B := D.length + 2 ^ x.toNat) T₀ (((ap.cons ?a1).cons ?a2).cons ?a3) GD (Nat.le_refl _) ?turn ?fin
    case a1 => exact fun p hp => Nat.ne_of_gt (Nat.lt_succ_of_lt (l1 p (List.mem_append_right _ hp)))
    case a2 => exact fun p hp => Nat.ne_of_gt (Nat.lt_succ_of_lt (Nat.lt_succ_of_lt (l1 p (List.mem_append_right _ hp))))
    case a3 => exact apt_of (by assumption)
    case turn =>
      intro i9 t9 I9 oI9 C9 oC9 Dl9 m9 ys9 l9 h9 tk9 tabs9 D9 E9 hi9 hy9 T9 ap9 G9 hB9 hl9 hC9 hx9 F9 N9 off9 ne9
      k_fold
      k_steps
      refine Park.in ?_
      have hi9' : (i9 : Int) < x := by revert hi9; split <;> omega
      obtain ⟨apI, apC, apD⟩ := off_ap off9
      refine' IH _ _ _ _ d D9 _ _ _ _ _ _ _ _ _ _ _ _ _ _ ((I9, oI9) :: (C9, oC9) :: (Dl9, LCg.lst ys9) :: _ :: _ :: _ :: oth) tabs9 _ _ _ ?c1 ?c2 ?c3 ?c4 ?c5 T9 (((ap9.cons apD).cons apC).cons apI) G9 ?c6 ?c7 ?c8 ?c9 N9 ?c10 ?c11 ?c12 ?c13 ?c14
      case c1 => omega
      case c2 => omega
      case c3 => omega
      case c4 => omega
      case c5 => omega
      case c6 =>
        have e1 : x.toNat - i9 = (x.toNat - (i9 + 1)) + 1 := by omega
        have e2 : (x - (1 + (i9 : Int))).toNat = x.toNat - (i9 + 1) := by omega
        rw [e1, Nat.pow_succ] at hB9
        rw [e2]
        omega
      case c7 => k_asm
      case c8 => k_asm
      case c9 => k_asm
      case c10 => k_asm
      case c11 => exact rfl
      case c12 => ktr_room
      case c13 => ktr_units
      case c14 =>
        intro h8 tk8 tabs8 D8 F8 N8 T8 ap8 G8 hB8
        (try dsimp only)
        (try k_fold)
        k_steps
        · exact turn_no F8 N8 T8 ap8 G8 hB8 hB9 hi9' off9 (by assumption) hl9
        · exact turn_yes F8 N8 T8 ap8 G8 hB8 hB9 hi9' off9 (by assumption)
    case fin =>
      intro ys9 l9 tabs9 D9 hy9 T9 ap9 G9 hB9 hl9
      intro Dl9 h9 tk9 F9 N9 off9
      k_steps
      refine Park.in ?_
      refine ne_intsK (vs := ys9) (ns := l9) (us := []) (ms := []) (by is_list) hy9 (by is_list) .nil (by ktr_units) ?_
      k_steps
      refine Park.in ?_
      rename_i N5 l5
      have hW : (!decide (l9 = [])) = WI x y := by
        rw [WI_eq hx0 hy0, ← Bool.not_not (won _ _), ← hl9]
        cases l9 <;> rfl
      have hDn : D9.length + 1 ≤ D.length + 2 ^ x.toNat := by
        have := Nat.one_le_two_pow (n := x.toNat - ((if y < x then y else x) + 1 - 1).toNat)
        omega
      refine set_wins (by ktr_units) hW (by k_asm) N5 T9 ap9 l5 G9 (by rw [PySem.sizeLine_eq]; omega) ?_
      intro h5 tabs5 D5 F5 N5' T5 ap5 G5 L5 S5
      clear N5
      k_with "subscriptTail Name Tuple" => (refine item_good (x := x) (y := y) (by units_room) (by k_asm) (tab_sub T5 (fun p hp => List.mem_cons_of_mem _ (List.mem_cons_of_mem _ (List.mem_cons_of_mem _ (List.mem_cons_of_mem _ (List.mem_append_right _ hp)))))) G5 (.head _) (TupKeyObj.made (.cons (intKind_is _ _ _ _) (.cons (intKind_is _ _ _ _) .nil))) S5 ?_)
      k_steps
      rename_i kF kN kT kX
      exact hret _ _ tabs5 D5 kF (news_sub kN fun p hp => .tail _ (.tail _ (.tail _ (.tail _ hp)))) T5 ap5.tail.tail.tail G5 (by omega)
end Mine
namespace Mine
theorem wins_all (w : World) (p : Program) (loose : List Str) (mean : ExcName → Option Value) (mg mb : Str → Option Value) : ∀ N, WinsC PySem.Challenge.rw_go0003_01.prog w (Mine.hd.heap_39 w.params) p loose mean mg mb 79 N
  | 0 => by
    intro x y tx ty d D dp un gd cn cs a ccd cl outer A₀ base h₀ L m oth tabs s Q E hx0 hxN
    exfalso
    omega
  | N + 1 => wins_walk w p loose mean mg mb N (wins_all w p loose mean mg mb N)
end Mine
end
section
open PySem PySem.W PyProof.Rows PyProof.V PySem.Calls PySem.Spec
namespace Mine
/-! a for over a range whose target is a name that a block closes over; the ledger may turn -/
def CellEnd (h₀ : Heap) (L I c : Addr) (it : Obj) (Jn : (Str → Option Value) → List (Addr × Obj) → Prop) (s₁ s₂ : Shared) : Prop :=
  ∃ h' tk m' o v news', s₂ = { s₁ with heap := h', toks := tk } ∧ Fr h₀ L h' m' ∧ News h₀ L h' ((I, it) :: (c, o) :: news') ∧ o.data = .cell v ∧ (∀ p ∈ news', p.1 ≠ I ∧ p.1 ≠ c) ∧ Jn m' news'
def CellPost (h₀ : Heap) (L I c : Addr) (it : Obj) (Jn : (Str → Option Value) → List (Addr × Obj) → Prop) (s₁ : Shared) (Q : Flow → Shared → Prop) (f : Flow) (s₂ : Shared) : Prop :=
  match f with
  | .ret v => Q (.ret v) s₂
  | .brk => Q .next s₂
  | _ => CellEnd h₀ L I c it Jn s₁ s₂
def CellLoop (prog : Program) (w : World) (A : Around) (h₀ : Heap) (env : Env) (c : Addr) (body : List Stmt) (Q : Flow → Shared → Prop) (xv : Value) (s₁ : Shared) : Prop :=
  ∃ (r : Addr) (a b : Int) (t u v : Tok) (n : Nat) (m : Str → Option Value) (news : List (Addr × Obj)) (o : Obj) (v₀ : Option Value) (J : Nat → (Str → Option Value) → List (Addr × Obj) → Prop),
    xv = .ref r ∧ A.handled = none ∧ IsRange s₁.heap r a b 1 t u v ∧ Builtin.Range.small a b 1 = true ∧ Builtin.Range.rangeSize a b 1 = (n : Int) ∧ Fr h₀ env.locals s₁.heap m ∧ News h₀ env.locals s₁.heap ((c, o) :: news) ∧ o.data = .cell v₀ ∧ (∀ p ∈ news, p.1 ≠ c) ∧ J 0 m news ∧
    (∀ (i : Nat) (t : Tok) (I : Addr) m₁ news₁ o h tk (E' : Value → Shared → Prop), i < n → J i m₁ news₁ → Fr h₀ env.locals h m₁ → News h₀ env.locals h ((I, itR (a + ((i + 1 : Nat) : Int)) ((n : Int) - ((i + 1 : Nat) : Int))) :: (c, o) :: news₁) → o.data = .cell (some (.int (a + (i : Int)) t)) → I ≠ c → (∀ p ∈ news₁, p.1 ≠ I ∧ p.1 ≠ c) →
      wpAny (model prog w) A (execs body env) (CellPost h₀ env.locals I c (itR (a + ((i + 1 : Nat) : Int)) ((n : Int) - ((i + 1 : Nat) : Int))) (J (i + 1)) { s₁ with heap := h, toks := tk } Q) E' { s₁ with heap := h, toks := tk }) ∧
    (∀ m₁ news₁ o v h tk, J n m₁ news₁ → Fr h₀ env.locals h m₁ → News h₀ env.locals h ((c, o) :: news₁) → o.data = .cell v → Q .next { s₁ with heap := h, toks := tk })
section
variable {prog : Program} {w : World} {A : Around} {E : Value → Shared → Prop} {s : Shared} {h₀ : Heap} {L a : Addr} {cn : Str} {cs : Scope} {ccd : Value} {cl : List (Str × Addr)}
theorem for_cell {x : Str} {px pos : Pos} {iter : Expr} {body : List Stmt} {c : Addr} {Q : Flow → Shared → Prop} (hx : (envX cn cs L a ccd cl).kindOf x = some .cell) (hk : cs.kind = .function) (hc : cl.lookup x = some c)
    (h : wpAny (model prog w) A (eval iter (envX cn cs L a ccd cl)) (CellLoop prog w A h₀ (envX cn cs L a ccd cl) c body Q) E s)
    (hs : ∀ x, foldedSetIterable iter (envX cn cs L a ccd cl) x = pure x := by intro _; rfl) :
    wpAny (model prog w) A (exec (.For (.Name x px) iter body [] pos) (envX cn cs L a ccd cl)) Q E s := by
  refine wpAny_For (wpAny_mono h (fun xv s₁ h₁ => ?_) fun _ _ e => e) hs
  obtain ⟨r, a₀, b₀, t, u, v, n, m, news, o, v₀, J, rfl, hh, hr, hsm, hn, F, N, ho, hap, h0, turn, done⟩ := h₁
  refine wpAny_pyIter_range hr hsm ?_
  have hnewI := next_is_new F
  have hLI : s₁.heap.objs.size ≠ L := Nat.ne_of_gt F.ns.lt
  have hnI : ∀ p ∈ (c, o) :: news, p.1 ≠ s₁.heap.objs.size := fun p hp => Nat.ne_of_lt (Heap.lt_size (N p hp).1)
  generalize hI : s₁.heap.objs.size = I at hnewI hLI hnI ⊢
  have hcI : c ≠ I := hnI (c, o) (.head _)
  refine codeAny_forLoop (fun k s' => ∃ h' tk m' news' o' v' i, s' = { s₁ with heap := h', toks := tk } ∧ IsRangeIter h' I (a₀ + (i : Nat) * 1) ((n : Int) - (i : Nat)) 1 ∧ Fr h₀ L h' m' ∧ News h₀ L h' ((c, o') :: news') ∧ o'.data = .cell v' ∧
      (∀ p ∈ news', p.1 ≠ I ∧ p.1 ≠ c) ∧ J i m' news' ∧ i ≤ n ∧ k = n + 1 - i) ?_ (n + 1)
    ⟨_, _, m, news, o, v₀, 0, rfl, by rw [hn, ← hI]; simpa using Heap.get?_push_size _ rfl, F.push _, N.grown fun _ _ e => Heap.get?_push_of_some _ e, ho, fun p hp => ⟨hnI p (.tail _ hp), hap p hp⟩, h0, Nat.zero_le _, rfl⟩
  rintro k s' ⟨h', tk, m', news', o', v', i, rfl, hit', F', N', ho', hap', hJ, hi, rfl⟩
  by_cases hlt : i < n
  · refine wpAny_pyNext_range_item hit' (by omega) fun h₁ hit₁ hs₁ => ?_
    have F₁ : Fr h₀ L h₁ m' := F'.change hs₁ hLI hnewI
    have e1 : a₀ + (i : Int) * 1 + 1 = a₀ + ((i + 1 : Nat) : Int) := by push_cast; omega
    have e2 : (n : Int) - (i : Int) - 1 = (n : Int) - ((i + 1 : Nat) : Int) := by push_cast; omega
    have N₁ : News h₀ L h₁ ((I, itR (a₀ + ((i + 1 : Nat) : Int)) ((n : Int) - ((i + 1 : Nat) : Int))) :: (c, o') :: news') := fun p hp => by
      rcases List.mem_cons.mp hp with rfl | hp
      · rw [e1, e2] at hit₁
        exact ⟨hit₁, hLI, hnewI⟩
      · refine ⟨(hs₁.2 p.1 ?_).trans (N' p hp).1, (N' p hp).2⟩
        rcases List.mem_cons.mp hp with rfl | hp
        · exact hcI
        · exact (hap' p hp).1
    refine wpAny_assign_Name (storeX_C (s := { s₁ with heap := h₁, toks := tk + 1 }) F₁ N₁ hc (.tail (Ne.symm hcI) (.head fun p hp => (hap' p hp).2)) ho' (fun h₂ o₂ F₂ N₂ ho₂ => ?_) hk hx)
    rw [Int.mul_one] at ho₂
    refine wpAny_mono (turn i _ I m' news' o₂ h₂ _ _ hlt hJ F₂ N₂ ho₂ (Ne.symm hcI) hap') (fun f s₃ h₃ => ?_) fun _ _ e => e
    have fin : CellEnd h₀ L I c (itR (a₀ + ((i + 1 : Nat) : Int)) ((n : Int) - ((i + 1 : Nat) : Int))) (J (i + 1)) { s₁ with heap := h₂, toks := tk + 1 } s₃ → ∃ k', k' < n + 1 - i ∧ ∃ h' tk m' news' o' v' i, s₃ = { s₁ with heap := h', toks := tk } ∧ IsRangeIter h' I (a₀ + (i : Nat) * 1) ((n : Int) - (i : Nat)) 1 ∧ Fr h₀ L h' m' ∧ News h₀ L h' ((c, o') :: news') ∧ o'.data = .cell v' ∧
      (∀ p ∈ news', p.1 ≠ I ∧ p.1 ≠ c) ∧ J i m' news' ∧ i ≤ n ∧ k' = n + 1 - i := by
      rintro ⟨h₃, tk₃, m₃, o₃, v₃, news₃, e, F₃, N₃, ho₃, hap₃, hJ₃⟩
      refine ⟨n + 1 - (i + 1), by omega, h₃, tk₃, m₃, news₃, o₃, v₃, i + 1, e, ?_, F₃, fun p hp => N₃ p (.tail _ hp), ho₃, hap₃, hJ₃, hlt, rfl⟩
      have := (N₃ _ (.head _)).1
      rw [Int.mul_one]
      exact this
    cases f with
    | ret v => exact h₃
    | brk => exact h₃
    | next => exact fin h₃
    | cont => exact fin h₃
  · have hin : i = n := by omega
    subst hin
    refine wpAny_pyNext_range_end hh hit' (by omega) fun h₁ he₁ => wpAny_execs_nil ?_
    have F₁ : Fr h₀ L h₁ m' := ⟨F'.ns.extBut he₁ (Ne.symm hLI), fun b o e => he₁ b o (fun q => by rw [q, hnewI] at e; cases e) (F'.keep b o e), F'.above⟩
    refine done m' news' o' v' h₁ tk hJ F₁ (fun p hp => ⟨he₁ _ _ ?_ (N' p hp).1, (N' p hp).2⟩) ho'
    rcases List.mem_cons.mp hp with rfl | hp
    · exact hcI
    · exact (hap' p hp).1
end
end Mine
end
section
open PySem PySem.W PyProof.Rows PyProof.V PySem.Calls PySem.Spec
namespace Mine
structure T7 where
  (a b c d e f g : Tok)
abbrev rowObj (t : T7) (k : Nat) : Obj := W.listOf #[.int 1 t.a, .int 2 t.b, .int 3 t.c, .int 5 t.d, .int 8 t.e, .int 13 t.f, .int 21 t.g] k
/-- how many of the row are at most x -/
def cntR (x : Int) : Int := if x < 1 then 0 else if x < 2 then 1 else if x < 3 then 2 else if x < 5 then 3 else if x < 8 then 4 else if x < 13 then 5 else if x < 21 then 6 else 7
/-- how many of the row are less than x -/
def cntL (x : Int) : Int := if 21 < x then 7 else if 13 < x then 6 else if 8 < x then 5 else if 5 < x then 4 else if 3 < x then 3 else if 2 < x then 2 else if 1 < x then 1 else 0
def BisC (prog : Program) (w : World) (K : Frag) (p : Program) (loose : List Str) (mean : ExcName → Option Value) (mg mb : Str → Option Value) (f : Addr) (g : Int → Int) : Prop :=
  ∀ (x : Int) (tx : Tok) (r : Addr) (tr : T7) (kr : Nat) (dp un : Nat) (gd : Option (List Code)) (cn : Str) (cs : Scope) (a : Addr) (ccd : Value) (cl : List (Str × Addr)) (outer : List Env) (A₀ : Around) (base h₀ : Heap) (L : Addr) (m : Str → Option Value) (news : List (Addr × Obj)) (s : Shared) (Q E : Value → Shared → Prop),
    (r, rowObj tr kr) ∈ news →
    Below A₀ base outer h₀ → Fr h₀ L s.heap m → K.In h₀ → News h₀ L s.heap news → Top p loose mean mg mb h₀ → cs.kind = .function →
    dp + 1 < recursionLimit → un + 100 < cLine →
    (∀ (t : Tok) (h' : Heap) (tk' : Nat), Fr h₀ L h' m → News h₀ L h' news → Q (.int (g x) t) { s with heap := h', toks := tk' }) →
    wpAny (model prog w) (ktrTop dp un gd cn cs L a ccd cl outer) (call (.ref f) [.ref r, .int x tx]) Q E s
end Mine
end
section
open PySem PySem.W PyProof.Rows PyProof.V PySem.Calls PySem.Spec
namespace Mine
local macro_rules | `(tactic| walk_at $s:str) => `(tactic| k_extra $s)
theorem bisR (w : World) (p : Program) (loose : List Str) (mean : ExcName → Option Value) (mg mb : Str → Option Value) :
    BisC PySem.Challenge.rw_go0003_01.prog w (Mine.hd.heap_39 w.params) p loose mean mg mb 23 cntR := by
  w_top off
  k_with_none
  k_fill
  intro x tx r tr kr dp un gd cn cs a ccd cl outer A₀ base h₀ L m news s Q E hr B F X N' T hk hdp hun hret
  refine wpAny_call ?_
  k_dflt (refine' code_def ?k1 ?k2 ?k3 ?k4 ?k5 ?kA ?kF ?kK ?k6 ?k7 ?k8 ?k9 ?kB ?_ ?c2 ?c3 ?c4 ?c5; (case kA => exact rfl); (case kF => exact rfl); (case kK => assumption); (case k1 => k_asm); (case k2 => k_asm); (case k3 => k_asm); (case k4 => k_asm); (case k5 => k_asm); (case k6 => k_is); (case k7 => k_is); (case k8 => ktr_room); (case k9 => (refine' kp_binds ?kx ?ke; (case kx => k_in); (case ke => exact fun _ => rfl))); (case c5 => decide); (case kB => exact locs rfl); (case c2 => exact rfl); (case c3 => exact rfl); (case c4 => exact rfl); k_whole; intro g' L' h' FG' F' N' B' X' T')
  (try dsimp only)
  (try k_lift B')
  (try k_fold)
  k_with "subscriptTail Name Name" => (refine' item_litK (vs := [.int 1 tr.a, .int 2 tr.b, .int 3 tr.c, .int 5 tr.d, .int 8 tr.e, .int 13 tr.f, .int 21 tr.g]) ?k1 ?k2 ?k3 ?k4 ?_ ?k6; (case k1 => exact News.isList (by k_asm) hr); (case k2 => decide); (case k3 => decide); (case k4 => rfl); (case k6 => with_unfolding_all rfl); k_whole)
  k_steps
  all_goals (rename_i kF kN kT kX; refine cb_retI hret ?_ kF kN; unfold cntR; (repeat' split) <;> first | (exfalso; omega) | rfl)
theorem bisL (w : World) (p : Program) (loose : List Str) (mean : ExcName → Option Value) (mg mb : Str → Option Value) :
    BisC PySem.Challenge.rw_go0003_01.prog w (Mine.hd.heap_39 w.params) p loose mean mg mb 32 cntL := by
  k_fill
  intro x tx r tr kr dp un gd cn cs a ccd cl outer A₀ base h₀ L m news s Q E hr B F X N' T hk hdp hun hret
  refine wpAny_call ?_
  k_dflt (refine' code_def ?k1 ?k2 ?k3 ?k4 ?k5 ?kA ?kF ?kK ?k6 ?k7 ?k8 ?k9 ?kB ?_ ?c2 ?c3 ?c4 ?c5; (case kA => exact rfl); (case kF => exact rfl); (case kK => assumption); (case k1 => k_asm); (case k2 => k_asm); (case k3 => k_asm); (case k4 => k_asm); (case k5 => k_asm); (case k6 => k_is); (case k7 => k_is); (case k8 => ktr_room); (case k9 => (refine' kp_binds ?kx ?ke; (case kx => k_in); (case ke => exact fun _ => rfl))); (case c5 => decide); (case kB => exact locs rfl); (case c2 => exact rfl); (case c3 => exact rfl); (case c4 => exact rfl); k_whole; intro g' L' h' FG' F' N' B' X' T')
  (try dsimp only)
  (try k_lift B')
  (try k_fold)
  k_with "subscriptTail Name Name" => (refine' item_litK (vs := [.int 1 tr.a, .int 2 tr.b, .int 3 tr.c, .int 5 tr.d, .int 8 tr.e, .int 13 tr.f, .int 21 tr.g]) ?k1 ?k2 ?k3 ?k4 ?_ ?k6; (case k1 => exact News.isList (by k_asm) hr); (case k2 => decide); (case k3 => decide); (case k4 => rfl); (case k6 => with_unfolding_all rfl); k_whole)
  k_steps
  all_goals (rename_i kF kN kT kX; refine cb_retI hret ?_ kF kN; unfold cntL; (repeat' split) <;> first | (exfalso; omega) | rfl)
end Mine
end
section
open PySem PySem.W PyProof.Rows PyProof.V PySem.Calls PySem.Spec
namespace Mine
def partsL : List (List Int) := [[], [1], [2], [3], [3, 1], [5], [5, 1], [5, 2], [8], [8, 1], [8, 2], [8, 3], [8, 3, 1], [13]]
def partsOf (x : Int) : List Int := partsL.getD x.toNat []
def PartsC (prog : Program) (w : World) (K : Frag) (p : Program) (loose : List Str) (mean : ExcName → Option Value) (mg mb : Str → Option Value) (f : Addr) : Prop :=
  ∀ (x : Int) (tx : Tok) (r : Addr) (tr : T7) (kr : Nat) (dp un : Nat) (gd : Option (List Code)) (cn : Str) (cs : Scope) (a : Addr) (ccd : Value) (cl : List (Str × Addr)) (outer : List Env) (A₀ : Around) (base h₀ : Heap) (L : Addr) (m : Str → Option Value) (news : List (Addr × Obj)) (s : Shared) (Q E : Value → Shared → Prop),
    1 ≤ x → x ≤ 13 → (r, rowObj tr kr) ∈ news →
    Below A₀ base outer h₀ → Fr h₀ L s.heap m → K.In h₀ → News h₀ L s.heap news → Top p loose mean mg mb h₀ → cs.kind = .function →
    dp + 2 < recursionLimit → un + 200 < cLine →
    (∀ (D : Addr) (vs : List Value) (k : Nat) (h' : Heap) (tk' : Nat), Fr h₀ L h' m → News h₀ L h' ((D, W.listOf vs.toArray k) :: news) → (∀ p ∈ news, p.1 < D) → IntsAre vs (partsOf x) → Q (.ref D) { s with heap := h', toks := tk' }) →
    wpAny (model prog w) (ktrTop dp un gd cn cs L a ccd cl outer) (call (.ref f) [.ref r, .int x tx]) Q E s
end Mine
end
section
open PySem PySem.W PyProof.Rows PyProof.V PySem.Calls PySem.Spec
namespace Mine
def bigI (x : Int) : Int := if x < 2 then 1 else if x < 3 then 2 else if x < 5 then 3 else if x < 8 then 5 else if x < 13 then 8 else 13
def BigOf (x b : Int) : Prop := b = bigI x
theorem parts_cons {x b : Int} (h1 : 1 ≤ x) (h2 : x ≤ 13) (hb : BigOf x b) : partsOf x = b :: partsOf (x - b) := by
  subst hb
  have hc : x = 1 ∨ x = 2 ∨ x = 3 ∨ x = 4 ∨ x = 5 ∨ x = 6 ∨ x = 7 ∨ x = 8 ∨ x = 9 ∨ x = 10 ∨ x = 11 ∨ x = 12 ∨ x = 13 := by omega
  rcases hc with rfl | rfl | rfl | rfl | rfl | rfl | rfl | rfl | rfl | rfl | rfl | rfl | rfl <;> rfl
theorem parts_nil {x : Int} (h : x ≤ 0) : partsOf x = [] := by
  have e : x.toNat = 0 := by omega
  unfold partsOf
  rw [e]
  rfl
theorem ints1 {x b : Int} {u : Tok} (h1 : 1 ≤ x) (h2 : x ≤ 13) (hb : BigOf x b) (h0 : x - b ≤ 0) : IntsAre [.int b u] (partsOf x) := by
  rw [parts_cons h1 h2 hb, parts_nil h0]
  exact .cons _ _ .nil
theorem ints2 {x b c : Int} {u v : Tok} (h1 : 1 ≤ x) (h2 : x ≤ 13) (hb : BigOf x b) (hc : BigOf (x - b) c) (g1 : 1 ≤ x - b) (g2 : x - b ≤ 13) (h0 : x - b - c ≤ 0) : IntsAre [.int b u, .int c v] (partsOf x) := by
  rw [parts_cons h1 h2 hb]
  exact .cons _ _ (ints1 g1 g2 hc h0)
theorem ints3 {x b c d : Int} {u v t : Tok} (h1 : 1 ≤ x) (h2 : x ≤ 13) (hb : BigOf x b) (hc : BigOf (x - b) c) (hd : BigOf (x - b - c) d) (g1 : 1 ≤ x - b) (g2 : x - b ≤ 13) (g3 : 1 ≤ x - b - c) (g4 : x - b - c ≤ 13) (h0 : x - b - c - d ≤ 0) : IntsAre [.int b u, .int c v, .int d t] (partsOf x) := by
  rw [parts_cons h1 h2 hb]
  exact .cons _ _ (ints2 g1 g2 hc hd g3 g4 h0)
theorem big_item {x : Int} (h1 : 1 ≤ x) (h2 : x ≤ 13) (t : T7) : ∃ u, ([.int 1 t.a, .int 2 t.b, .int 3 t.c, .int 5 t.d, .int 8 t.e, .int 13 t.f, .int 21 t.g] : List Value)[(cntR x - 1).toNat]? = some (.int (bigI x) u) := by
  have hc : x = 1 ∨ x = 2 ∨ x = 3 ∨ x = 4 ∨ x = 5 ∨ x = 6 ∨ x = 7 ∨ x = 8 ∨ x = 9 ∨ x = 10 ∨ x = 11 ∨ x = 12 ∨ x = 13 := by omega
  rcases hc with rfl | rfl | rfl | rfl | rfl | rfl | rfl | rfl | rfl | rfl | rfl | rfl | rfl <;> exact ⟨_, rfl⟩
theorem big_use {prog : Program} {w : World} {A : Around} {E : Value → Shared → Prop} {s : Shared} {x : Int} {t : T7} {l : Addr} {tk : Tok} {value slice : Expr} {Q : Value → Shared → Prop} (h1 : 1 ≤ x) (h2 : x ≤ 13) (hl : s.heap.IsList l #[.int 1 t.a, .int 2 t.b, .int 3 t.c, .int 5 t.d, .int 8 t.e, .int 13 t.f, .int 21 t.g])
    (h : ∀ u b, BigOf x b → 1 ≤ b → 0 ≤ x - b → x - b ≤ 4 → (x ≤ 4 → x - b ≤ 1) → (x ≤ 1 → x - b ≤ 0) → Q (.int b u) s) (hs : subscripted slice false (.ref l) (.int (cntR x - 1) tk) = operate [.ref l, .int (cntR x - 1) tk] (getItem (.ref l) (.int (cntR x - 1) tk)) := by with_unfolding_all rfl) :
    wpAny (model prog w) A (subscriptTail value slice (.ref l) (.int (cntR x - 1) tk)) Q E s := by
  obtain ⟨u, hu⟩ := big_item h1 h2 t
  have g1 : 0 ≤ cntR x - 1 := by unfold cntR; (repeat' split) <;> omega
  have g2 : cntR x - 1 < 2 ^ 63 := by unfold cntR; (repeat' split) <;> omega
  have hb : ∀ b, b = bigI x → 1 ≤ b ∧ 0 ≤ x - b ∧ x - b ≤ 4 ∧ (x ≤ 4 → x - b ≤ 1) ∧ (x ≤ 1 → x - b ≤ 0) := by
    intro b e
    subst e
    unfold bigI
    refine ⟨?_, ?_, ?_, ?_, ?_⟩ <;> (repeat' split) <;> omega
  obtain ⟨b1, b2, b3, b4, b5⟩ := hb _ rfl
  exact item_litK hl g1 g2 hu (h u _ rfl b1 b2 b3 b4 b5) hs
local macro_rules | `(tactic| walk_at $s:str) => `(tactic| k_extra $s)
theorem parts (w : World) (p : Program) (loose : List Str) (mean : ExcName → Option Value) (mg mb : Str → Option Value) :
    PartsC PySem.Challenge.rw_go0003_01.prog w (Mine.hd.heap_39 w.params) p loose mean mg mb 86 := by
  w_top off
  k_with_none
  k_fill
  intro x tx r tr kr dp un gd cn cs a ccd cl outer A₀ base h₀ L m news s Q E hx0 hx hr B F X N' T hk hdp hun hret
  refine wpAny_call ?_
  k_dflt (refine' code_def ?k1 ?k2 ?k3 ?k4 ?k5 ?kA ?kF ?kK ?k6 ?k7 ?k8 ?k9 ?kB ?_ ?c2 ?c3 ?c4 ?c5; (case kA => exact rfl); (case kF => exact rfl); (case kK => assumption); (case k1 => k_asm); (case k2 => k_asm); (case k3 => k_asm); (case k4 => k_asm); (case k5 => k_asm); (case k6 => k_is); (case k7 => k_is); (case k8 => ktr_room); (case k9 => exact BindsTo.of_eq rfl); (case c5 => decide); (case kB => exact locs rfl); (case c2 => exact rfl); (case c3 => exact rfl); (case c4 => exact rfl); k_whole; intro g' L' h' FG' F' N' B' X' T')
  (try dsimp only)
  (try k_lift B')
  (try k_fold)
  k_with "subscriptTail Name" => (k_dflt refine' big_use (t := tr) ?zb1 ?zb2 ?zb3 ?_; (case zb1 => omega); (case zb2 => omega); (case zb3 => exact News.isList (by k_asm) (by repeat (first | exact hr | refine List.mem_cons_of_mem _ ?_))); intro u9 b9 hb9 hb1 hb2 hb3 hb4 hb5)
  k_with "call ref" => (refine' bisR w p loose mean mg mb _ _ r tr kr _ _ _ _ _ _ _ _ _ _ _ _ _ _ _ _ _ _ ?b0 ?b1 ?b2 ?b3 ?b4 ?b5 ?b6 ?b7 ?b8 ?_; (case b3 => k_asm); (case b1 => k_asm); (case b2 => k_asm); (case b4 => k_asm); (case b5 => k_asm); (case b6 => exact rfl); (case b7 => ktr_room); (case b8 => ktr_units); (case b0 => repeat (first | exact hr | refine List.mem_cons_of_mem _ ?_)); intro t9 h9 tk9 F9 N9; (try dsimp only); (try k_fold))
  k_with "ite" => (first | (refine' W.ite_pos ?zzc ?_; (case zzc => first | omega | (simp only [decide_eq_true_eq]; omega))) | (refine' W.ite_neg ?zzd ?_; (case zzd => first | omega | (simp only [decide_eq_true_eq]; omega))))
  k_steps
  all_goals ((with_reducible rename Fr _ _ _ _ => kF); (with_reducible rename News _ _ _ _ => kN); first
    | exact hret _ [.int _ _] _ _ _ kF kN (by assumption) (ints1 hx0 hx (by assumption) (by omega))
    | exact hret _ [.int _ _, .int _ _] _ _ _ kF kN (by assumption) (ints2 hx0 hx (by assumption) (by assumption) (by omega) (by omega) (by omega))
    | exact hret _ [.int _ _, .int _ _, .int _ _] _ _ _ kF kN (by assumption) (ints3 hx0 hx (by assumption) (by assumption) (by assumption) (by omega) (by omega) (by omega) (by omega) (by omega)))
end Mine
end
section
open PySem PySem.W PyProof.Rows PyProof.V PySem.Calls PySem.Spec
namespace Mine
theorem bl0 : ((Builtin.Int.intBits 0 : Nat) : Int) = 0 := by decide +kernel
theorem bl1 : ((Builtin.Int.intBits 1 : Nat) : Int) = 1 := by decide +kernel
theorem bl2 : ((Builtin.Int.intBits 2 : Nat) : Int) = 2 := by decide +kernel
theorem bl3 : ((Builtin.Int.intBits 3 : Nat) : Int) = 2 := by decide +kernel
theorem bl4 : ((Builtin.Int.intBits 4 : Nat) : Int) = 3 := by decide +kernel
theorem bl5 : ((Builtin.Int.intBits 5 : Nat) : Int) = 3 := by decide +kernel
theorem bl6 : ((Builtin.Int.intBits 6 : Nat) : Int) = 3 := by decide +kernel
theorem bl7 : ((Builtin.Int.intBits 7 : Nat) : Int) = 3 := by decide +kernel
theorem bl8 : ((Builtin.Int.intBits 8 : Nat) : Int) = 4 := by decide +kernel
theorem bl9 : ((Builtin.Int.intBits 9 : Nat) : Int) = 4 := by decide +kernel
theorem bl10 : ((Builtin.Int.intBits 10 : Nat) : Int) = 4 := by decide +kernel
theorem bl11 : ((Builtin.Int.intBits 11 : Nat) : Int) = 4 := by decide +kernel
theorem bl12 : ((Builtin.Int.intBits 12 : Nat) : Int) = 4 := by decide +kernel
theorem bl13 : ((Builtin.Int.intBits 13 : Nat) : Int) = 4 := by decide +kernel
theorem kall_lt {news : List (Addr × Obj)} {b d : Nat} (h : AllLt b news) (hb : b ≤ d) : ∀ p ∈ news, p.1 ≠ d := fun p hp => Nat.ne_of_lt (Nat.lt_of_lt_of_le (ktn_ltOf h p hp) hb)
theorem kall_lt2 {news : List (Addr × Obj)} {b d : Nat} (h : ∀ p ∈ news, p.1 < b) (hb : b ≤ d) : ∀ p ∈ news, p.1 ≠ d := fun p hp => Nat.ne_of_lt (Nat.lt_of_lt_of_le (h p hp) hb)
abbrev pairObj (q r : Int) (t u : Tok) : Obj := { cls := .type "tuple", data := .seq #[.int q t, .int r u] }
theorem divmod_mine {prog : Program} {w : World} {A : Around} {E : Value → Shared → Prop} {s : Shared} {h₀ : Heap} {L : Addr} {m : Str → Option Value} {news : List (Addr × Obj)} {a b : Int} {t u : Tok} {Q : Value → Shared → Prop} (F : Fr h₀ L s.heap m) (N : News h₀ L s.heap news) (hb : b ≠ 0)
    (h : ∀ (D : Addr) (t1 t2 : Tok) (h' : Heap) (tk' : Nat), Fr h₀ L h' m → News h₀ L h' ((D, pairObj (a.fdiv b) (a.fmod b) t1 t2) :: news) → (∀ p ∈ news, p.1 < D) → Q (.ref D) { s with heap := h', toks := tk' })
    (hp : Builtin.divisionGoesByPylong a b = false) : wpAny (model prog w) A (call (.builtin "divmod") [.int a t, .int b u]) Q E s :=
  divmod_N F N hb (fun h' F' N' => h _ _ _ h' _ F' N' fun p hp => Heap.lt_size (N p hp).1) (.inl hp)
theorem bits_call {prog : Program} {w : World} {A : Around} {E : Value → Shared → Prop} {s : Shared} {a : Int} {t : Tok} {Q : Value → Shared → Prop} (h0 : 0 ≤ a) (h1 : a ≤ 13)
    (h : ∀ k : Int, 0 ≤ k → k ≤ 4 → (1 ≤ a → 1 ≤ k) → (a ≤ 7 → k ≤ 3) → (8 ≤ a → k = 4) → Q (.int k s.toks) { s with toks := s.toks + 1 }) :
    wpAny (model prog w) A (call (.builtin "int.bit_length") [.int a t]) Q E s := by
  refine call_int_bit_length ?_
  have hc : a = 0 ∨ a = 1 ∨ a = 2 ∨ a = 3 ∨ a = 4 ∨ a = 5 ∨ a = 6 ∨ a = 7 ∨ a = 8 ∨ a = 9 ∨ a = 10 ∨ a = 11 ∨ a = 12 ∨ a = 13 := by omega
  rcases hc with rfl | rfl | rfl | rfl | rfl | rfl | rfl | rfl | rfl | rfl | rfl | rfl | rfl | rfl
  · rw [bl0]; exact h _ (by omega) (by omega) (by omega) (by omega) (by omega)
  · rw [bl1]; exact h _ (by omega) (by omega) (by omega) (by omega) (by omega)
  · rw [bl2]; exact h _ (by omega) (by omega) (by omega) (by omega) (by omega)
  · rw [bl3]; exact h _ (by omega) (by omega) (by omega) (by omega) (by omega)
  · rw [bl4]; exact h _ (by omega) (by omega) (by omega) (by omega) (by omega)
  · rw [bl5]; exact h _ (by omega) (by omega) (by omega) (by omega) (by omega)
  · rw [bl6]; exact h _ (by omega) (by omega) (by omega) (by omega) (by omega)
  · rw [bl7]; exact h _ (by omega) (by omega) (by omega) (by omega) (by omega)
  · rw [bl8]; exact h _ (by omega) (by omega) (by omega) (by omega) (by omega)
  · rw [bl9]; exact h _ (by omega) (by omega) (by omega) (by omega) (by omega)
  · rw [bl10]; exact h _ (by omega) (by omega) (by omega) (by omega) (by omega)
  · rw [bl11]; exact h _ (by omega) (by omega) (by omega) (by omega) (by omega)
  · rw [bl12]; exact h _ (by omega) (by omega) (by omega) (by omega) (by omega)
  · rw [bl13]; exact h _ (by omega) (by omega) (by omega) (by omega) (by omega)
theorem fd1 {k : Int} (h1 : 1 ≤ k) (h2 : k ≤ 3) : (k + 3 - 1).fdiv 3 = 1 := by
  have hc : k = 1 ∨ k = 2 ∨ k = 3 := by omega
  rcases hc with rfl | rfl | rfl <;> rfl
theorem fd2 {k : Int} (h1 : k = 4) : (k + 3 - 1).fdiv 3 = 2 := by
  subst h1; rfl
theorem store_int {M : Model} {A : Around} {E : Value → Shared → Prop} {s : Shared} {env : Env} {x : Str} {a b : Int} {t : Tok} {Q : Unit → Shared → Prop} (e : a = b) (h : wpAny M A (storeName env x (.int b t)) Q E s) : wpAny M A (storeName env x (.int a t)) Q E s := e ▸ h
theorem nm1 : ((0 : Int) + 2).fdiv (2 ^ Int.toNat 1) = 1 := rfl
theorem nm2 : ((1 : Int) - 0) * 3 = 3 := rfl
theorem nm3 : ((0 : Int) * 2 ^ Int.toNat 3 + 1).fmod 4 = 1 := rfl
theorem nm4 : ((0 : Int) * 2 ^ Int.toNat 3 + 1).fdiv 4 = 0 := rfl
theorem nm5 : (1 : Int) * 2 ^ Int.toNat 3 = 8 := rfl
theorem hup {x : Int} (h0 : 8 ≤ x) (h1 : x ≤ 13) : x.fdiv (2 ^ Int.toNat 3) = 1 := by
  have hc : x = 8 ∨ x = 9 ∨ x = 10 ∨ x = 11 ∨ x = 12 ∨ x = 13 := by omega
  rcases hc with rfl | rfl | rfl | rfl | rfl | rfl <;> rfl
theorem hlo {x : Int} (h0 : 8 ≤ x) (h1 : x ≤ 13) : Builtin.bitXor x (1 * 2 ^ Int.toNat 3) = x - 8 := by
  have hc : x = 8 ∨ x = 9 ∨ x = 10 ∨ x = 11 ∨ x = 12 ∨ x = 13 := by omega
  rcases hc with rfl | rfl | rfl | rfl | rfl | rfl <;> decide +kernel
/-- the tables of inner defs, once they are made -/
abbrev madeL (a1 a2 : Addr) (o1 o2 : Obj) : List (Addr × Obj) := [(55, tabObj #[rawInt 88, rawInt 4, .ref a1]), (a1, o1), (48, tabObj #[rawInt 73, rawInt 4, .ref a2]), (a2, o2)]
def CodeOf (o : Obj) (q : Str) : Prop := ∃ vs t, o.data = .fields vs ∧ vs[1]? = some (.str q t)
/-- the first call of int_divmod makes the tables -/
def DivA (prog : Program) (w : World) (K : Frag) (p : Program) (loose : List Str) (mean : ExcName → Option Value) (mg mb : Str → Option Value) (f : Addr) : Prop :=
  ∀ (tx ty : Tok) (dp un : Nat) (gd : Option (List Code)) (cn : Str) (cs : Scope) (a : Addr) (ccd : Value) (cl : List (Str × Addr)) (outer : List Env) (A₀ : Around) (base h₀ : Heap) (L : Addr) (m : Str → Option Value) (s : Shared) (Q E : Value → Shared → Prop),
    CodeHd base 59 55 → CodeHd base 52 48 →
    Below A₀ base outer h₀ → Fr h₀ L s.heap m → K.In h₀ → News h₀ L s.heap [(55, tabObj #[]), (48, tabObj #[])] → Top p loose mean mg mb h₀ → cs.kind = .function →
    dp + 10 < recursionLimit → un + 400 < cLine →
    (∀ (D : Addr) (a1 a2 : Addr) (o1 o2 : Obj) (q : Int) (t u : Tok) (h' : Heap) (tk' : Nat), Fr h₀ L h' m → (∀ b o, s.heap.get? b = some o → b ∉ [55, 48] → h'.get? b = some o) → News h₀ L h' ((D, pairObj q 0 t u) :: madeL a1 a2 o1 o2) →
      CodeOf o1 (Str.ofString "_digits2int.<locals>.inner") → CodeOf o2 (Str.ofString "_int2digits.<locals>.inner") → Q (.ref D) { s with heap := h', toks := tk' }) →
    wpAny (model prog w) (ktrTop dp un gd cn cs L a ccd cl outer) (call (.ref f) [.int 0 tx, .int 4 ty]) Q E s
def DivB (prog : Program) (w : World) (K : Frag) (p : Program) (loose : List Str) (mean : ExcName → Option Value) (mg mb : Str → Option Value) (f : Addr) (lo hi : Int) : Prop :=
  ∀ (a1 a2 : Addr) (o1 o2 : Obj) (x : Int) (tx ty : Tok) (dp un : Nat) (gd : Option (List Code)) (cn : Str) (cs : Scope) (a : Addr) (ccd : Value) (cl : List (Str × Addr)) (outer : List Env) (A₀ : Around) (base h₀ : Heap) (L : Addr) (m : Str → Option Value) (s : Shared) (Q E : Value → Shared → Prop),
    lo ≤ x → x ≤ hi → CodeHd base 59 55 → CodeHd base 52 48 → CodeOf o1 (Str.ofString "_digits2int.<locals>.inner") → CodeOf o2 (Str.ofString "_int2digits.<locals>.inner") →
    Below A₀ base outer h₀ → Fr h₀ L s.heap m → K.In h₀ → News h₀ L s.heap (madeL a1 a2 o1 o2) → Top p loose mean mg mb h₀ → cs.kind = .function →
    dp + 10 < recursionLimit → un + 400 < cLine →
    (∀ (D : Addr) (q : Int) (t u : Tok) (h' : Heap) (tk' : Nat), Fr h₀ L h' m → (∀ b o, s.heap.get? b = some o → b ∉ [55, a1, 48, a2] → h'.get? b = some o) → News h₀ L h' ((D, pairObj q (Int.fmod x 4) t u) :: madeL a1 a2 o1 o2) → Q (.ref D) { s with heap := h', toks := tk' }) →
    wpAny (model prog w) (ktrTop dp un gd cn cs L a ccd cl outer) (call (.ref f) [.int x tx, .int 4 ty]) Q E s
theorem leave_keep {h₀ g s₀ : Heap} {L L' : Addr} {m m' : Str → Option Value} {adr : List Addr} {news' : List (Addr × Obj)} {R : Result → Shared → Prop} {v : Value} {s' : Shared} (hG : GSub s₀ g adr) (F' : Fr g L' s'.heap m') (N' : News g L' s'.heap news')
    (k : (∀ b o, s₀.get? b = some o → b ∉ adr → s'.heap.get? b = some o) → Fr h₀ L s'.heap m → News h₀ L s'.heap news' → R (.ok (.ret v)) s') : LeaveK h₀ L m g R v s' :=
  leaveK_ F' N' (k fun b o e n => F'.keep b o (hG b o e n))
end Mine
end
section
open PySem PySem.W PyProof.Rows PyProof.V PySem.Calls PySem.Spec
namespace Mine
/-- the first call of int_divmod makes the tables -/
def DivA2 (prog : Program) (w : World) (K : Frag) (p : Program) (loose : List Str) (mean : ExcName → Option Value) (mg mb : Str → Option Value) (f : Addr) : Prop :=
  ∀ (tx ty : Tok) (dp un : Nat) (gd : Option (List Code)) (cn : Str) (cs : Scope) (a : Addr) (ccd : Value) (cl : List (Str × Addr)) (outer : List Env) (A₀ : Around) (base h₀ : Heap) (L : Addr) (m : Str → Option Value) (s : Shared) (Q E : Value → Shared → Prop),
    CodeHd base 59 55 → CodeHd base 52 48 →
    Below A₀ base outer h₀ → Fr h₀ L s.heap m → K.In h₀ → News h₀ L s.heap [(55, tabObj #[]), (48, tabObj #[])] → Top p loose mean mg mb h₀ → cs.kind = .function →
    dp + 10 < recursionLimit → un + 400 < cLine →
    (∀ (D : Addr) (a1 a2 : Addr) (o1 o2 : Obj) (q : Int) (t u : Tok) (h' : Heap) (tk' : Nat), Fr h₀ L h' m → (∀ b o, s.heap.get? b = some o → b ∉ [55, 48] → h'.get? b = some o) → (∀ p ∈ (D, pairObj q 0 t u) :: madeL a1 a2 o1 o2, ∀ o, s.heap.get? p.1 = some o → p.1 ∈ [55, 48]) → News h₀ L h' ((D, pairObj q 0 t u) :: madeL a1 a2 o1 o2) →
      CodeOf o1 (Str.ofString "_digits2int.<locals>.inner") → CodeOf o2 (Str.ofString "_int2digits.<locals>.inner") → Q (.ref D) { s with heap := h', toks := tk' }) →
    wpAny (model prog w) (ktrTop dp un gd cn cs L a ccd cl outer) (call (.ref f) [.int 0 tx, .int 4 ty]) Q E s
theorem leave_keep2 {h₀ g s₀ : Heap} {L L' : Addr} {m m' : Str → Option Value} {adr : List Addr} {news' : List (Addr × Obj)} {R : Result → Shared → Prop} {v : Value} {s' : Shared} (hG : GSub s₀ g adr) (F' : Fr g L' s'.heap m') (N' : News g L' s'.heap news')
    (k : (∀ b o, s₀.get? b = some o → b ∉ adr → s'.heap.get? b = some o) → (∀ p ∈ news', ∀ o, s₀.get? p.1 = some o → p.1 ∈ adr) → Fr h₀ L s'.heap m → News h₀ L s'.heap news' → R (.ok (.ret v)) s') : LeaveK h₀ L m g R v s' :=
  leaveK_ F' N' (k (fun b o e n => F'.keep b o (hG b o e n)) fun p hp o e => Classical.byContradiction fun n => by
    have h1 := hG _ o e n
    rw [(N' p hp).2.2] at h1
    cases h1)
end Mine
namespace Mine
local macro_rules | `(tactic| walk_at $s:str) => `(tactic| k_extra $s)
local macro_rules | `(tactic| k_room) => `(tactic| ktr_room)
theorem divA2 (w : World) (p : Program) (loose : List Str) (mean : ExcName → Option Value) (mg mb : Str → Option Value) :
    DivA2 PySem.Challenge.rw_go0003_01.prog w (Mine.hd.heap_39 w.params) p loose mean mg mb 74 := by
  w_top off
  k_with_none
  k_fill
  intro tx ty dp un gd cn cs a ccd cl outer A₀ base h₀ L m s Q E hc1 hc2 B F X N' T hk hdp hun hret
  k_with "call builtin:int.bit_length" => (with_reducible refine call_int_bit_length ?_; (try simp only [bl0, bl1, bl2, bl3, bl4, bl5, bl6, bl7, bl8, bl9, bl10, bl11, bl12, bl13]))
  k_with "binaryOp Mult ref int" => ((simp only [Int.reduceAdd, Int.reduceSub, Int.reduceFDiv]); k_dflt (refine' KMa.mul ?F ?N ?l ?lo ?hi ?z ?e ?_; (case F => k_asm); (case N => k_asm); (case l => is_list); (case lo => decide); (case hi => decide); (case z => (simp only [List.length_cons, List.length_nil]; decide)); (case e => (simp only [Int.reduceToNat, List.replicate_succ, List.replicate_zero, List.flatten_cons, List.flatten_nil, List.cons_append, List.nil_append, List.append_nil]; first | done | exact rfl)); k_whole); intro D' h' F' N' l1; (try k_lt l1); (try k_sweep))
  refine wpAny_call ?_
  k_dflt (refine' code_defG ?k1 ?k2 ?k3 ?k4 ?k5 ?kA ?kF ?kK ?k6 ?k7 ?k8 ?k9 ?kB ?_ ?c2 ?c3 ?c4 ?c5; (case kA => exact rfl); (case kF => exact rfl); (case kK => assumption); (case k1 => k_asm); (case k2 => k_asm); (case k3 => k_asm); (case k4 => k_asm); (case k5 => k_asm); (case k6 => k_is); (case k7 => k_is); (case k8 => ktr_room); (case k9 => exact BindsTo.of_eq rfl); (case c5 => decide); (case kB => exact locs rfl); (case c2 => exact rfl); (case c3 => exact rfl); (case c4 => exact rfl); k_whole; intro gX L' h' FG' F' N' B' X' T' hGX)
  (try dsimp only)
  (try k_lift B')
  (try k_fold)
  k_with "LeaveK" => ((refine leave_keep2 (g := gX) hGX (by k_asm) (by k_asm) ?_); intro hKX hFX F9 N9; refine Park.out ?_)
  k_steps
  refine Park.in ?_
  k_dflt (refine' hret _ _ _ _ _ _ _ _ _ _ F9 hKX ?fr ?n ?c1 ?c2)
  case n => exact fun p hp => N9 p (SubL.mem (by k_dflt k_subL) p hp)
  case fr => exact fun p hp => hFX p (SubL.mem (by k_dflt k_subL) p hp)
  case c1 => exact ⟨_, _, by assumption, by assumption⟩
  case c2 => exact ⟨_, _, by assumption, by assumption⟩
end Mine
end
section
open PySem PySem.W PyProof.Rows PyProof.V PySem.Calls PySem.Spec
namespace Mine
local macro_rules | `(tactic| walk_at $s:str) => `(tactic| k_extra $s)
local macro_rules | `(tactic| k_room) => `(tactic| ktr_room)
theorem divB (w : World) (p : Program) (loose : List Str) (mean : ExcName → Option Value) (mg mb : Str → Option Value) :
    DivB PySem.Challenge.rw_go0003_01.prog w (Mine.hd.heap_39 w.params) p loose mean mg mb 74 1 7 := by
  w_top off
  k_with_none
  k_fill
  intro a1 a2 o1 o2 x tx ty dp un gd cn cs a ccd cl outer A₀ base h₀ L m s Q E hx0 hx1 hc1 hc2 hC1 hC2 B F X N' T hk hdp hun hret
  obtain ⟨v1, t1, hd1, hv1⟩ := hC1
  obtain ⟨v2, t2, hd2, hv2⟩ := hC2
  k_with "call builtin:int.bit_length" => (refine' bits_call ?zze ?zzf ?_; (case zze => omega); (case zzf => omega); intro kb hb1 hb2 hb3 hb4 hb5)
  k_with "call builtin:int.bit_length" => ((with_reducible show wpAny _ _ (call _ [Value.int 4 _]) _ _ _); with_reducible refine call_int_bit_length ?_; (simp only [bl4]))
  k_with "binaryOp Mult ref int" => ((rw [fd1 (k := _) ?zzg ?zzh]; (case zzg => omega); (case zzh => omega)); k_dflt (refine' KMa.mul ?F ?N ?l ?lo ?hi ?z ?e ?_; (case F => k_asm); (case N => k_asm); (case l => is_list); (case lo => decide); (case hi => decide); (case z => (simp only [List.length_cons, List.length_nil]; decide)); (case e => (simp only [Int.reduceToNat, List.replicate_succ, List.replicate_zero, List.flatten_cons, List.flatten_nil, List.cons_append, List.nil_append, List.append_nil]; first | done | exact rfl)); k_whole); intro D' h' F' N' l1; (try k_lt l1); (try k_sweep))
  k_with "call builtin:divmod" => (k_dflt (refine' divmod_mine ?zzF ?zzN ?zzb ?_ ?zzp; (case zzF => k_asm); (case zzN => k_asm); (case zzb => decide); (case zzp => refine PyProof.noPylong_small ?_; omega)); intro D' t1' t2' h' tk' F' N' l1; (try k_lt l1); (try k_sweep))
  k_with "ite" => (first | (refine' W.ite_pos ?zzc ?_; (case zzc => first | omega | (simp; omega))) | (refine' W.ite_neg ?zzd ?_; (case zzd => first | omega | (simp; omega))))
  refine wpAny_call ?_
  k_dflt (refine' code_defG ?k1 ?k2 ?k3 ?k4 ?k5 ?kA ?kF ?kK ?k6 ?k7 ?k8 ?k9 ?kB ?_ ?c2 ?c3 ?c4 ?c5; (case kA => exact rfl); (case kF => exact rfl); (case kK => assumption); (case k1 => k_asm); (case k2 => k_asm); (case k3 => k_asm); (case k4 => k_asm); (case k5 => k_asm); (case k6 => k_is); (case k7 => k_is); (case k8 => ktr_room); (case k9 => exact BindsTo.of_eq rfl); (case c5 => decide); (case kB => exact locs rfl); (case c2 => exact rfl); (case c3 => exact rfl); (case c4 => exact rfl); k_whole; intro gX L' h' FG' F' N' B' X' T' hGX)
  (try dsimp only)
  (try k_lift B')
  (try k_fold)
  k_with "LeaveK" => ((refine leave_keep (g := gX) hGX (by k_asm) (by k_asm) ?_); intro hKX F9 N9; refine Park.out ?_)
  k_steps
  refine Park.in ?_
  simp only [Int.zero_mul, Int.zero_add] at N9
  k_dflt (refine' hret _ _ _ _ _ _ F9 hKX ?zzn)
  case zzn => exact fun p hp => N9 p (SubL.mem (by k_dflt k_subL) p hp)
end Mine
end
section
open PySem PySem.W PyProof.Rows PyProof.V PySem.Calls PySem.Spec
namespace Mine
local macro_rules | `(tactic| walk_at $s:str) => `(tactic| k_extra $s)
local macro_rules | `(tactic| k_room) => `(tactic| ktr_room)
theorem divC (w : World) (p : Program) (loose : List Str) (mean : ExcName → Option Value) (mg mb : Str → Option Value) :
    DivB PySem.Challenge.rw_go0003_01.prog w (Mine.hd.heap_39 w.params) p loose mean mg mb 74 8 13 := by
  w_top off
  k_with_none
  k_fill
  intro a1 a2 o1 o2 x tx ty dp un gd cn cs a ccd cl outer A₀ base h₀ L m s Q E hx0 hx1 hc1 hc2 hC1 hC2 B F X N' T hk hdp hun hret
  obtain ⟨v1, t1, hd1, hv1⟩ := hC1
  obtain ⟨v2, t2, hd2, hv2⟩ := hC2
  k_with "call builtin:int.bit_length" => (refine' bits_call ?zze ?zzf ?_; (case zze => first | omega | (simp only [nm5]; omega)); (case zzf => first | omega | (simp only [nm5]; omega)); intro kb hb1 hb2 hb3 hb4 hb5)
  k_with "call builtin:int.bit_length" => ((with_reducible show wpAny _ _ (call _ [Value.int 4 _]) _ _ _); with_reducible refine call_int_bit_length ?_; (simp only [bl4]))
  k_with "binaryOp Mult ref int" => ((rw [fd2 (k := _) ?zzg]; (case zzg => omega)); k_dflt (refine' KMa.mul ?F ?N ?l ?lo ?hi ?z ?e ?_; (case F => k_asm); (case N => k_asm); (case l => is_list); (case lo => decide); (case hi => decide); (case z => (simp only [List.length_cons, List.length_nil]; decide)); (case e => (simp only [Int.reduceToNat, List.replicate_succ, List.replicate_zero, List.flatten_cons, List.flatten_nil, List.cons_append, List.nil_append, List.append_nil]; first | done | exact rfl)); k_whole); intro D' h' F' N' l1; (try k_lt l1); (try k_sweep))
  k_with "call builtin:divmod" => (k_dflt (refine' divmod_mine ?zzF ?zzN ?zzb ?_ ?zzp; (case zzF => k_asm); (case zzN => k_asm); (case zzb => decide); (case zzp => refine PyProof.noPylong_small ?_; omega)); intro D' t1' t2' h' tk' F' N' l1; (try k_lt l1); (try k_sweep))
  k_with "ite" => (first | (refine' W.ite_pos ?zzc ?_; (case zzc => first | omega | (simp; omega))) | (refine' W.ite_neg ?zzd ?_; (case zzd => first | omega | (simp; omega))))
  k_with "storeName" => (with_reducible first | refine store_int nm1 ?_ | refine store_int nm2 ?_ | refine store_int (hup hx0 hx1) ?_ | refine store_int (hlo hx0 hx1) ?_ | refine store_int nm3 ?_ | refine store_int nm4 ?_)
  refine wpAny_call ?_
  k_dflt (refine' code_defG ?k1 ?k2 ?k3 ?k4 ?k5 ?kA ?kF ?kK ?k6 ?k7 ?k8 ?k9 ?kB ?_ ?c2 ?c3 ?c4 ?c5; (case kA => exact rfl); (case kF => exact rfl); (case kK => assumption); (case k1 => k_asm); (case k2 => k_asm); (case k3 => k_asm); (case k4 => k_asm); (case k5 => k_asm); (case k6 => k_is); (case k7 => k_is); (case k8 => ktr_room); (case k9 => exact BindsTo.of_eq rfl); (case c5 => decide); (case kB => exact locs rfl); (case c2 => exact rfl); (case c3 => exact rfl); (case c4 => exact rfl); k_whole; intro gX L' h' FG' F' N' B' X' T' hGX)
  (try dsimp only)
  (try k_lift B')
  (try k_fold)
  k_with "LeaveK" => ((refine leave_keep (g := gX) hGX (by k_asm) (by k_asm) ?_); intro hKX F9 N9; refine Park.out ?_)
  k_steps
  refine Park.in ?_
  simp only [nm5] at N9
  have e9 : 8 + (x - 8) = x := by omega
  rw [e9] at N9
  k_dflt (refine' hret _ _ _ _ _ _ F9 hKX ?zzn)
  case zzn => exact fun p hp => N9 p (SubL.mem (by k_dflt k_subL) p hp)
end Mine
end
section
open PySem PySem.W PyProof.Rows PyProof.V PySem.Calls PySem.Spec
namespace Mine
/-! plain facts of the game, up to thirteen pieces -/
def lastN (n : Nat) : Nat := [0, 1, 2, 3, 1, 5, 1, 2, 8, 1, 2, 3, 1, 13].getD n 0
def rowN (n : Nat) : Nat := [1, 1, 2, 3, 5, 5, 8, 8, 8, 13, 13, 13, 13, 13].getD n 0
theorem p_wins : ∀ n, n < 14 → ∀ m, m < 14 → 1 ≤ m → m ≤ n → wf n n m = decide (lastN n ≤ m) := by decide +kernel
theorem p_rest : ∀ n, n < 14 → lastN n < n → wf (n - lastN n) (n - lastN n) (2 * lastN n) = false := by decide +kernel
theorem p_first : ∀ n, n < 14 → 1 ≤ n → wf n n (n - 1) = !decide (rowN n = n) := by decide +kernel
theorem p_sum : ∀ n, n < 14 → (partsL.getD n []).sum = (n : Int) := by decide +kernel
theorem p_len : ∀ n, n < 14 → 1 ≤ n → 1 ≤ (partsL.getD n []).length := by decide +kernel
theorem p_len3 : ∀ n, n < 14 → (partsL.getD n []).length ≤ 3 := by decide +kernel
theorem p_last : ∀ n, n < 14 → 1 ≤ n → (partsL.getD n []).getD ((partsL.getD n []).length - 1) 0 = (lastN n : Int) := by decide +kernel
theorem p_gap : ∀ n, n < 14 → ∀ j, j < 3 → 1 ≤ j → j < (partsL.getD n []).length → 2 * (partsL.getD n []).getD j 0 < (partsL.getD n []).getD (j - 1) 0 := by decide +kernel
theorem p_small : ∀ n, n < 14 → ∀ j, j < 3 → 0 ≤ (partsL.getD n []).getD j 0 ∧ (partsL.getD n []).getD j 0 ≤ 13 := by decide +kernel
theorem p_lastle : ∀ n, n < 14 → 1 ≤ n → 1 ≤ lastN n ∧ lastN n ≤ n := by decide +kernel
end Mine
end
section
open PySem PySem.W PyProof.Rows PyProof.V PySem.Calls PySem.Spec
namespace Mine
def rowI (P : Int) : Int := (rowN P.toNat : Int)
def lastI (P : Int) : Int := (lastN P.toNat : Int)
theorem row_item {P : Int} (h1 : 1 ≤ P) (h2 : P ≤ 13) (t : T7) : ∃ u, ([.int 1 t.a, .int 2 t.b, .int 3 t.c, .int 5 t.d, .int 8 t.e, .int 13 t.f, .int 21 t.g] : List Value)[(cntL P).toNat]? = some (.int (rowI P) u) := by
  have hc : P = 1 ∨ P = 2 ∨ P = 3 ∨ P = 4 ∨ P = 5 ∨ P = 6 ∨ P = 7 ∨ P = 8 ∨ P = 9 ∨ P = 10 ∨ P = 11 ∨ P = 12 ∨ P = 13 := by omega
  rcases hc with rfl | rfl | rfl | rfl | rfl | rfl | rfl | rfl | rfl | rfl | rfl | rfl | rfl <;> exact ⟨_, rfl⟩
theorem cntL_lo (P : Int) : 0 ≤ cntL P := by unfold cntL; (repeat' split) <;> omega
theorem cntL_hi (P : Int) : cntL P < 2 ^ 63 := by unfold cntL; (repeat' split) <;> omega
section
variable {prog : Program} {w : World} {A : Around} {E : Value → Shared → Prop} {s : Shared}
theorem row_use {P : Int} {t : T7} {l : Addr} {tk : Tok} {value slice : Expr} {Q : Value → Shared → Prop} (h1 : 1 ≤ P) (h2 : P ≤ 13) (hl : s.heap.IsList l #[.int 1 t.a, .int 2 t.b, .int 3 t.c, .int 5 t.d, .int 8 t.e, .int 13 t.f, .int 21 t.g])
    (h : ∀ u, Q (.int (rowI P) u) s) (hs : subscripted slice false (.ref l) (.int (cntL P) tk) = operate [.ref l, .int (cntL P) tk] (getItem (.ref l) (.int (cntL P) tk)) := by with_unfolding_all rfl) :
    wpAny (model prog w) A (subscriptTail value slice (.ref l) (.int (cntL P) tk)) Q E s := by
  obtain ⟨u, hu⟩ := row_item h1 h2 t
  exact item_litK hl (cntL_lo P) (cntL_hi P) hu (h u) hs
end
theorem split8 {h₀ h : Heap} {L : Addr} {q0 qd q1 q2 q3 q4 q5 q6 : Addr × Obj} (N : News h₀ L h [q0, qd, q1, q2, q3, q4, q5, q6]) : News h₀ L h ([q1, q2, q3, q4, q5, q6] ++ [qd]) := fun p hp => N p (by
  simp only [List.cons_append, List.nil_append, List.mem_cons, List.not_mem_nil, or_false] at hp ⊢
  rcases hp with h | h | h | h | h | h | h <;> simp [h])
theorem apart6 {a1 a2 a3 a4 a5 a6 d : Addr} {o1 o2 o3 o4 o5 o6 od : Obj} (h : a1 < d ∧ a2 < d ∧ a3 < d ∧ a4 < d ∧ a5 < d ∧ a6 < d) : Apart [(a1, o1), (a2, o2), (a3, o3), (a4, o4), (a5, o5), (a6, o6)] [(d, od)] := by
  intro q hq p hp
  rw [List.mem_singleton.mp hp]
  refine Nat.ne_of_lt ?_
  obtain ⟨b1, b2, b3, b4, b5, b6⟩ := h
  simp only [List.mem_cons, List.not_mem_nil, or_false] at hq
  rcases hq with rfl | rfl | rfl | rfl | rfl | rfl <;> assumption
theorem first_eq {P : Int} (h1 : 1 ≤ P) (h2 : P ≤ 13) : WI P (P - 1) = !decide (rowI P = P) := by
  have h := p_first P.toNat (by omega) (by omega)
  unfold WI rowI
  have e : (P - 1).toNat = P.toNat - 1 := by omega
  rw [e, h]
  have e2 : decide (rowN P.toNat = P.toNat) = decide ((rowN P.toNat : Int) = P) := by
    rw [decide_eq_decide]
    omega
  rw [e2]
end Mine
end
section
open PySem PySem.W PyProof.Rows PyProof.V PySem.Calls PySem.Spec
namespace Mine
abbrev mostS : Str := Str.ofString "most"
/-- what stands between the turns of the loop over number -/
def NInv (prog : Program) (w : World) (d cp : Addr) (m₀ : Str → Option Value) (q1 q3 q4 q5 : Addr × Obj) (i : Nat) (m : Str → Option Value) (news : List (Addr × Obj)) : Prop :=
  ∃ tabsi Di op vp u, m = (fun y => if y = mostS then u else m₀ y) ∧ news = q1 :: (cp, op) :: q3 :: q4 :: q5 :: tabsi ∧ op.data = .cell vp ∧ TupTab (intKind prog w) PyData.int tabsi d Di ∧
    Apart [q1, (cp, op), q3, q4, q5] tabsi ∧ Good Di ∧ Di.length ≤ 8192 * (1 + 14 * i)
theorem cell_loop {prog : Program} {w : World} {A : Around} {h₀ : Heap} {env : Env} {c : Addr} {body : List Stmt} {Q : Flow → Shared → Prop} {s₁ : Shared} {r : Addr} {a b : Int} {t u v : Tok} {n : Nat} {m : Str → Option Value} {news : List (Addr × Obj)} {o : Obj} {v₀ : Option Value} (J : Nat → (Str → Option Value) → List (Addr × Obj) → Prop)
    (hh : A.handled = none) (hr : IsRange s₁.heap r a b 1 t u v) (hsm : Builtin.Range.small a b 1 = true) (hn : Builtin.Range.rangeSize a b 1 = (n : Int)) (F : Fr h₀ env.locals s₁.heap m) (N : News h₀ env.locals s₁.heap ((c, o) :: news)) (ho : o.data = .cell v₀) (hap : ∀ p ∈ news, p.1 ≠ c) (h0 : J 0 m news)
    (turn : ∀ (i : Nat) (t : Tok) (I : Addr) m₁ news₁ o h tk (E' : Value → Shared → Prop), i < n → J i m₁ news₁ → Fr h₀ env.locals h m₁ → News h₀ env.locals h ((I, itR (a + ((i + 1 : Nat) : Int)) ((n : Int) - ((i + 1 : Nat) : Int))) :: (c, o) :: news₁) → o.data = .cell (some (.int (a + (i : Int)) t)) → I ≠ c → (∀ p ∈ news₁, p.1 ≠ I ∧ p.1 ≠ c) →
      wpAny (model prog w) A (execs body env) (CellPost h₀ env.locals I c (itR (a + ((i + 1 : Nat) : Int)) ((n : Int) - ((i + 1 : Nat) : Int))) (J (i + 1)) { s₁ with heap := h, toks := tk } Q) E' { s₁ with heap := h, toks := tk })
    (done : ∀ m₁ news₁ o v h tk, J n m₁ news₁ → Fr h₀ env.locals h m₁ → News h₀ env.locals h ((c, o) :: news₁) → o.data = .cell v → Q .next { s₁ with heap := h, toks := tk }) :
    CellLoop prog w A h₀ env c body Q (.ref r) s₁ :=
  ⟨r, a, b, t, u, v, n, m, news, o, v₀, J, rfl, hh, hr, hsm, hn, F, N, ho, hap, h0, turn, done⟩
end Mine
end
section
open PySem PySem.W PyProof.Rows PyProof.V PySem.Calls PySem.Spec
namespace Mine
/-! a for over a range whose target is a plain local; the ledger may turn -/
def LocEnd (h₀ : Heap) (L I : Addr) (it : Obj) (Jn : (Str → Option Value) → List (Addr × Obj) → Prop) (s₁ s₂ : Shared) : Prop :=
  ∃ h' tk m' news', s₂ = { s₁ with heap := h', toks := tk } ∧ Fr h₀ L h' m' ∧ News h₀ L h' ((I, it) :: news') ∧ (∀ p ∈ news', p.1 ≠ I) ∧ Jn m' news'
def LocPost (h₀ : Heap) (L I : Addr) (it : Obj) (Jn : (Str → Option Value) → List (Addr × Obj) → Prop) (s₁ : Shared) (Q : Flow → Shared → Prop) (f : Flow) (s₂ : Shared) : Prop :=
  match f with
  | .ret v => Q (.ret v) s₂
  | .brk => Q .next s₂
  | _ => LocEnd h₀ L I it Jn s₁ s₂
def LocLoop (prog : Program) (w : World) (A : Around) (h₀ : Heap) (env : Env) (x : Str) (body : List Stmt) (Q : Flow → Shared → Prop) (xv : Value) (s₁ : Shared) : Prop :=
  ∃ (r : Addr) (a b : Int) (t u v : Tok) (n : Nat) (m : Str → Option Value) (news : List (Addr × Obj)) (J : Nat → (Str → Option Value) → List (Addr × Obj) → Prop),
    xv = .ref r ∧ A.handled = none ∧ IsRange s₁.heap r a b 1 t u v ∧ Builtin.Range.small a b 1 = true ∧ Builtin.Range.rangeSize a b 1 = (n : Int) ∧ Fr h₀ env.locals s₁.heap m ∧ News h₀ env.locals s₁.heap news ∧ J 0 m news ∧
    (∀ (i : Nat) (t : Tok) (I : Addr) m₁ news₁ h tk (E' : Value → Shared → Prop), i < n → J i m₁ news₁ → Fr h₀ env.locals h (fun y => if y = x then some (.int (a + (i : Int)) t) else m₁ y) → News h₀ env.locals h ((I, itR (a + ((i + 1 : Nat) : Int)) ((n : Int) - ((i + 1 : Nat) : Int))) :: news₁) → (∀ p ∈ news₁, p.1 ≠ I) →
      wpAny (model prog w) A (execs body env) (LocPost h₀ env.locals I (itR (a + ((i + 1 : Nat) : Int)) ((n : Int) - ((i + 1 : Nat) : Int))) (J (i + 1)) { s₁ with heap := h, toks := tk } Q) E' { s₁ with heap := h, toks := tk }) ∧
    (∀ m₁ news₁ h tk, J n m₁ news₁ → Fr h₀ env.locals h m₁ → News h₀ env.locals h news₁ → Q .next { s₁ with heap := h, toks := tk })
theorem loc_loop {prog : Program} {w : World} {A : Around} {h₀ : Heap} {env : Env} {x : Str} {body : List Stmt} {Q : Flow → Shared → Prop} {s₁ : Shared} {r : Addr} {a b : Int} {t u v : Tok} {n : Nat} {m : Str → Option Value} {news : List (Addr × Obj)} (J : Nat → (Str → Option Value) → List (Addr × Obj) → Prop)
    (hh : A.handled = none) (hr : IsRange s₁.heap r a b 1 t u v) (hsm : Builtin.Range.small a b 1 = true) (hn : Builtin.Range.rangeSize a b 1 = (n : Int)) (F : Fr h₀ env.locals s₁.heap m) (N : News h₀ env.locals s₁.heap news) (h0 : J 0 m news)
    (turn : ∀ (i : Nat) (t : Tok) (I : Addr) m₁ news₁ h tk (E' : Value → Shared → Prop), i < n → J i m₁ news₁ → Fr h₀ env.locals h (fun y => if y = x then some (.int (a + (i : Int)) t) else m₁ y) → News h₀ env.locals h ((I, itR (a + ((i + 1 : Nat) : Int)) ((n : Int) - ((i + 1 : Nat) : Int))) :: news₁) → (∀ p ∈ news₁, p.1 ≠ I) →
      wpAny (model prog w) A (execs body env) (LocPost h₀ env.locals I (itR (a + ((i + 1 : Nat) : Int)) ((n : Int) - ((i + 1 : Nat) : Int))) (J (i + 1)) { s₁ with heap := h, toks := tk } Q) E' { s₁ with heap := h, toks := tk })
    (done : ∀ m₁ news₁ h tk, J n m₁ news₁ → Fr h₀ env.locals h m₁ → News h₀ env.locals h news₁ → Q .next { s₁ with heap := h, toks := tk }) :
    LocLoop prog w A h₀ env x body Q (.ref r) s₁ := ⟨r, a, b, t, u, v, n, m, news, J, rfl, hh, hr, hsm, hn, F, N, h0, turn, done⟩
section
variable {prog : Program} {w : World} {A : Around} {E : Value → Shared → Prop} {s : Shared} {h₀ : Heap} {L a : Addr} {cn : Str} {cs : Scope} {ccd : Value} {cl : List (Str × Addr)}
theorem for_local {x : Str} {px pos : Pos} {iter : Expr} {body : List Stmt} {Q : Flow → Shared → Prop} (hx : (envX cn cs L a ccd cl).kindOf x = some .local) (hk : cs.kind = .function)
    (h : wpAny (model prog w) A (eval iter (envX cn cs L a ccd cl)) (LocLoop prog w A h₀ (envX cn cs L a ccd cl) x body Q) E s)
    (hs : ∀ x, foldedSetIterable iter (envX cn cs L a ccd cl) x = pure x := by intro _; rfl) :
    wpAny (model prog w) A (exec (.For (.Name x px) iter body [] pos) (envX cn cs L a ccd cl)) Q E s := by
  refine wpAny_For (wpAny_mono h (fun xv s₁ h₁ => ?_) fun _ _ e => e) hs
  obtain ⟨r, a₀, b₀, t, u, v, n, m, news, J, rfl, hh, hr, hsm, hn, F, N, h0, turn, done⟩ := h₁
  refine wpAny_pyIter_range hr hsm ?_
  have hnewI := next_is_new F
  have hLI : s₁.heap.objs.size ≠ L := Nat.ne_of_gt F.ns.lt
  have hnI : ∀ p ∈ news, p.1 ≠ s₁.heap.objs.size := fun p hp => Nat.ne_of_lt (Heap.lt_size (N p hp).1)
  generalize hI : s₁.heap.objs.size = I at hnewI hLI hnI ⊢
  refine codeAny_forLoop (fun k s' => ∃ h' tk m' news' i, s' = { s₁ with heap := h', toks := tk } ∧ IsRangeIter h' I (a₀ + (i : Nat) * 1) ((n : Int) - (i : Nat)) 1 ∧ Fr h₀ L h' m' ∧ News h₀ L h' news' ∧
      (∀ p ∈ news', p.1 ≠ I) ∧ J i m' news' ∧ i ≤ n ∧ k = n + 1 - i) ?_ (n + 1)
    ⟨_, _, m, news, 0, rfl, by rw [hn, ← hI]; simpa using Heap.get?_push_size _ rfl, F.push _, N.grown fun _ _ e => Heap.get?_push_of_some _ e, hnI, h0, Nat.zero_le _, rfl⟩
  rintro k s' ⟨h', tk, m', news', i, rfl, hit', F', N', hap', hJ, hi, rfl⟩
  by_cases hlt : i < n
  · refine wpAny_pyNext_range_item hit' (by omega) fun h₁ hit₁ hs₁ => ?_
    have F₁ : Fr h₀ L h₁ m' := F'.change hs₁ hLI hnewI
    have e1 : a₀ + (i : Int) * 1 + 1 = a₀ + ((i + 1 : Nat) : Int) := by push_cast; omega
    have e2 : (n : Int) - (i : Int) - 1 = (n : Int) - ((i + 1 : Nat) : Int) := by push_cast; omega
    have N₁ : News h₀ L h₁ ((I, itR (a₀ + ((i + 1 : Nat) : Int)) ((n : Int) - ((i + 1 : Nat) : Int))) :: news') := fun p hp => by
      rcases List.mem_cons.mp hp with rfl | hp
      · rw [e1, e2] at hit₁
        exact ⟨hit₁, hLI, hnewI⟩
      · exact ⟨(hs₁.2 p.1 (hap' p hp)).trans (N' p hp).1, (N' p hp).2⟩
    refine wpAny_assign_Name (storeX_L (s := { s₁ with heap := h₁, toks := tk + 1 }) F₁ N₁ (fun h₂ F₂ N₂ => ?_) hk hx)
    rw [Int.mul_one] at F₂
    refine wpAny_mono (turn i _ I m' news' h₂ _ _ hlt hJ F₂ N₂ hap') (fun f s₃ h₃ => ?_) fun _ _ e => e
    have fin : LocEnd h₀ L I (itR (a₀ + ((i + 1 : Nat) : Int)) ((n : Int) - ((i + 1 : Nat) : Int))) (J (i + 1)) { s₁ with heap := h₂, toks := tk + 1 + 1 } s₃ → ∃ k', k' < n + 1 - i ∧ ∃ h' tk m' news' i, s₃ = { s₁ with heap := h', toks := tk } ∧ IsRangeIter h' I (a₀ + (i : Nat) * 1) ((n : Int) - (i : Nat)) 1 ∧ Fr h₀ L h' m' ∧ News h₀ L h' news' ∧
      (∀ p ∈ news', p.1 ≠ I) ∧ J i m' news' ∧ i ≤ n ∧ k' = n + 1 - i := by
      rintro ⟨h₃, tk₃, m₃, news₃, e, F₃, N₃, hap₃, hJ₃⟩
      refine ⟨n + 1 - (i + 1), by omega, h₃, tk₃, m₃, news₃, i + 1, e, ?_, F₃, fun p hp => N₃ p (.tail _ hp), hap₃, hJ₃, hlt, rfl⟩
      have := (N₃ _ (.head _)).1
      rw [Int.mul_one]
      exact this
    cases f with
    | ret v => exact h₃
    | brk => exact h₃
    | next => exact fin h₃
    | cont => exact fin h₃
  · have hin : i = n := by omega
    subst hin
    refine wpAny_pyNext_range_end hh hit' (by omega) fun h₁ he₁ => wpAny_execs_nil ?_
    have F₁ : Fr h₀ L h₁ m' := ⟨F'.ns.extBut he₁ (Ne.symm hLI), fun b o e => he₁ b o (fun q => by rw [q, hnewI] at e; cases e) (F'.keep b o e), F'.above⟩
    exact done m' news' h₁ tk hJ F₁ fun p hp => ⟨he₁ _ _ (hap' p hp) (N' p hp).1, (N' p hp).2⟩
end
theorem most_get {u : Option Value} {m₀ : Str → Option Value} {x : Str} {v : Value} (hx : x ≠ mostS) (e : m₀ x = some v) : (fun y => if y = mostS then u else m₀ y) x = some v := by
  simp only [if_neg hx]
  exact e
theorem most_set {u u' : Option Value} {m₀ : Str → Option Value} : (fun y => if y = mostS then u' else (fun y => if y = mostS then u else m₀ y) y) = fun y => if y = mostS then u' else m₀ y := by
  funext y
  by_cases h : y = mostS
  · simp [h]
  · simp [h]
theorem hap_of {rw L : Nat} {o1 o2 o3 o4 o5 o6 : Obj} {tabs : List (Addr × Obj)} (h1 : L + 1 + 1 + 1 < rw ∧ L + 1 + 1 < rw ∧ L + 1 < rw ∧ 55 < rw ∧ 48 < rw) (l0 : 55 < L ∧ 48 < L) (ap : Apart [(rw, o1), (L + 1 + 1 + 1, o2), (L + 1 + 1, o3), (L + 1, o4), (55, o5), (48, o6)] tabs) :
    (∀ p ∈ ((rw, o1) : Addr × Obj) :: (L + 1 + 1, o3) :: (L + 1 + 1 + 1, o2) :: (55, o5) :: (48, o6) :: tabs, p.1 ≠ L + 1) ∧ Apart [(rw, o1), (L + 1 + 1, o3), (L + 1 + 1 + 1, o2), (55, o5), (48, o6)] tabs := by
  constructor
  · intro p hp
    rcases List.mem_cons.mp hp with rfl | hp
    · exact Nat.ne_of_gt h1.2.2.1
    rcases List.mem_cons.mp hp with rfl | hp
    · exact Nat.ne_of_gt (Nat.lt_succ_self _)
    rcases List.mem_cons.mp hp with rfl | hp
    · exact Nat.ne_of_gt (Nat.lt_succ_of_lt (Nat.lt_succ_self _))
    rcases List.mem_cons.mp hp with rfl | hp
    · exact Nat.ne_of_lt (Nat.lt_succ_of_lt l0.1)
    rcases List.mem_cons.mp hp with rfl | hp
    · exact Nat.ne_of_lt (Nat.lt_succ_of_lt l0.2)
    · exact Ne.symm (ap (L + 1, o4) (.tail _ (.tail _ (.tail _ (.head _)))) p hp)
  · intro q hq
    refine ap q ?_
    simp only [List.mem_cons, List.not_mem_nil, or_false] at hq ⊢
    rcases hq with h | h | h | h | h <;> simp [h]
theorem parts_facts {K : Int} (h1 : 1 ≤ K) (h2 : K ≤ 13) : (partsOf K).sum = K ∧ 1 ≤ (partsOf K).length ∧ (partsOf K).length ≤ 3 ∧ (partsOf K).getD ((partsOf K).length - 1) 0 = lastI K ∧ 1 ≤ lastI K ∧ lastI K ≤ K := by
  unfold partsOf lastI
  have hn : K.toNat < 14 := by omega
  have hn1 : 1 ≤ K.toNat := by omega
  refine ⟨?_, p_len _ hn hn1, p_len3 _ hn, p_last _ hn hn1, ?_, ?_⟩
  · rw [p_sum _ hn]; omega
  · have := (p_lastle _ hn hn1).1; omega
  · have := (p_lastle _ hn hn1).2; omega
theorem parts_gap {K : Int} (h1 : 1 ≤ K) (h2 : K ≤ 13) {j : Int} (hj1 : 1 ≤ j) (hj2 : j < (partsOf K).length) : 2 * (partsOf K).getD j.toNat 0 < (partsOf K).getD (j - 1).toNat 0 ∧ 0 ≤ (partsOf K).getD j.toNat 0 ∧ (partsOf K).getD j.toNat 0 ≤ 13 := by
  have hn : K.toNat < 14 := by omega
  have h3 := p_len3 _ hn
  have e : (j - 1).toNat = j.toNat - 1 := by omega
  rw [e]
  have hj2' : j.toNat < (partsL.getD K.toNat []).length := by
    have : (partsOf K).length = (partsL.getD K.toNat []).length := rfl
    omega
  exact ⟨p_gap _ hn j.toNat (by omega) (by omega) hj2', p_small _ hn j.toNat (by omega)⟩
theorem wins_eq {K M : Int} (h1 : 1 ≤ K) (h2 : K ≤ 13) (h3 : 1 ≤ M) (h4 : M ≤ K) : WI K M = decide (M ≥ lastI K) := by
  have h := p_wins K.toNat (by omega) M.toNat (by omega) (by omega) (by omega)
  unfold WI lastI
  rw [h, decide_eq_decide]
  omega
theorem rest_eq {K : Int} (h1 : 1 ≤ K) (h2 : K ≤ 13) (h3 : K > lastI K) : WI (K - lastI K) (2 * lastI K) = false := by
  have h := p_rest K.toNat (by omega) (by unfold lastI at h3; omega)
  unfold WI
  have e1 : (K - lastI K).toNat = K.toNat - lastN K.toNat := by unfold lastI; omega
  have e2 : (2 * lastI K).toNat = 2 * lastN K.toNat := by unfold lastI; omega
  rw [e1, e2]
  exact h
end Mine
namespace Mine
def Quiet (news : List (Addr × Obj)) (_ : Nat) (l : List Int) (newsi : List (Addr × Obj)) : Prop := l = [] ∧ newsi = news
end Mine
namespace Mine
/-- what stands between the turns of the loop over most -/
def LInv (prog : Program) (w : World) (d : Addr) (m₀ : Str → Option Value) (oth : List (Addr × Obj)) (B : Nat) (i : Nat) (m : Str → Option Value) (news : List (Addr × Obj)) : Prop :=
  ∃ tabsi Di u, m = (fun y => if y = mostS then u else m₀ y) ∧ news = oth ++ tabsi ∧ TupTab (intKind prog w) PyData.int tabsi d Di ∧ Apart oth tabsi ∧ Good Di ∧ Di.length ≤ B + 8192 * i
theorem apart_in {D8 I9 c1 c2 c3 r : Addr} {o1 o2 o3 o4 o5 o6 o7 o8 op9 : Obj} {rest tabs : List (Addr × Obj)} (hA : AllLt D8 tabs) (hap : ∀ p ∈ rest ++ tabs, p.1 ≠ I9 ∧ p.1 ≠ c1) (ap : Apart [(r, o4), (c2, op9), (c3, o6), (55, o7), (48, o8)] tabs) :
    Apart [(D8, o1), (I9, o2), (c1, o3), (r, o4), (c2, o5), (c3, o6), (55, o7), (48, o8)] tabs := by
  intro q hq p hp
  simp only [List.mem_cons, List.not_mem_nil, or_false] at hq
  have hp' := hap p (List.mem_append_right _ hp)
  rcases hq with rfl | rfl | rfl | h | rfl | h | h | h
  · exact Nat.ne_of_gt (ktn_ltOf hA p hp)
  · exact Ne.symm hp'.1
  · exact Ne.symm hp'.2
  · exact ap q (by simp [h]) p hp
  · exact ap (c2, op9) (.tail _ (.head _)) p hp
  · exact ap q (by simp [h]) p hp
  · exact ap q (by simp [h]) p hp
  · exact ap q (by simp [h]) p hp
end Mine
namespace Mine
theorem fr_most {h₀ h : Heap} {L : Addr} {u u' : Option Value} {m₀ : Str → Option Value} (F : Fr h₀ L h (fun y => if y = mostS then u' else (fun y => if y = mostS then u else m₀ y) y)) : Fr h₀ L h (fun y => if y = mostS then u' else m₀ y) := by
  rw [most_set] at F
  exact F
theorem most_at {v : Value} {m₀ : Str → Option Value} : (fun y => if y = mostS then some v else m₀ y) mostS = some v := by simp
theorem linv0 {prog : Program} {w : World} {d : Addr} {m₀ : Str → Option Value} {oth tabs : List (Addr × Obj)} {D : List (PyData × PyData)} {u : Option Value} (T : TupTab (intKind prog w) PyData.int tabs d D) (ap : Apart oth tabs) (G : Good D) : LInv prog w d m₀ oth D.length 0 (fun y => if y = mostS then u else m₀ y) (oth ++ tabs) :=
  ⟨tabs, D, u, rfl, rfl, T, ap, G, by omega⟩
end Mine
namespace Mine
theorem last_idx {K : Int} (h1 : 1 ≤ K) (h2 : K ≤ 13) : (partsOf K).getD (-1 + ((partsOf K).length : Int)).toNat 0 = lastI K := by
  obtain ⟨-, f2, -, f4, -⟩ := parts_facts h1 h2
  rw [← f4]
  congr 1
  omega
end Mine
namespace Mine
theorem ap_ne {I : Addr} {o : Obj} {oth tabs tabs' : List (Addr × Obj)} (h : ∀ p ∈ oth ++ tabs, p.1 ≠ I) (ap : Apart ((I, o) :: oth) tabs') : ∀ p ∈ oth ++ tabs', p.1 ≠ I := by
  intro p hp
  rcases List.mem_append.mp hp with hp | hp
  · exact h p (List.mem_append_left _ hp)
  · exact Ne.symm (ap.head p hp)
end Mine
namespace Mine
theorem ite_two {c : Prop} [Decidable c] {a b : Prop} (h1 : c → a) (h2 : ¬ c → b) : if c then a else b := by
  by_cases h : c
  · rw [if_pos h]; exact h1 h
  · rw [if_neg h]; exact h2 h
theorem turn_end {prog : Program} {w : World} {h₀ h : Heap} {L d D8 I9 c1 c2 c3 r : Addr} {o1 o2 o3 o4 o5 o6 o7 o8 op9 : Obj} {v v5 u : Option Value} {m₀ : Str → Option Value} {tabs9 tabs : List (Addr × Obj)} {D : List (PyData × PyData)} {i : Nat} {s₁ : Shared} {tk : Nat} (F : Fr h₀ L h (fun y => if y = mostS then u else m₀ y))
    (N : News h₀ L h ((D8, o1) :: (I9, o2) :: (c1, o3) :: (r, o4) :: (c2, o5) :: (c3, o6) :: (55, o7) :: (48, o8) :: tabs)) (ho : o3.data = .cell v) (ho5 : o5.data = .cell v5)
    (hap : ∀ p ∈ (r, o4) :: (c2, op9) :: (c3, o6) :: (55, o7) :: (48, o8) :: tabs9, p.1 ≠ I9 ∧ p.1 ≠ c1) (T : TupTab (intKind prog w) PyData.int tabs d D) (ap : Apart [(D8, o1), (I9, o2), (c1, o3), (r, o4), (c2, o5), (c3, o6), (55, o7), (48, o8)] tabs) (G : Good D) (hD : D.length ≤ 8192 * (1 + 14 * (i + 1))) :
    CellEnd h₀ L I9 c1 o2 (NInv prog w d c2 m₀ (r, o4) (c3, o6) (55, o7) (48, o8) (i + 1)) s₁ { s₁ with heap := h, toks := tk } := by
  refine ⟨h, tk, _, o3, v, (r, o4) :: (c2, o5) :: (c3, o6) :: (55, o7) :: (48, o8) :: tabs, rfl, F, fun p hp => N p (.tail _ hp), ho, ?_, tabs, D, o5, v5, u, rfl, rfl, ho5, T, ap.tail.tail.tail, G, hD⟩
  intro p hp
  rcases List.mem_cons.mp hp with rfl | hp
  · exact hap _ (.head _)
  rcases List.mem_cons.mp hp with rfl | hp
  · exact hap (c2, op9) (.tail _ (.head _))
  rcases List.mem_cons.mp hp with rfl | hp
  · exact hap _ (.tail _ (.tail _ (.head _)))
  rcases List.mem_cons.mp hp with rfl | hp
  · exact hap _ (.tail _ (.tail _ (.tail _ (.head _))))
  rcases List.mem_cons.mp hp with rfl | hp
  · exact hap _ (.tail _ (.tail _ (.tail _ (.tail _ (.head _)))))
  · exact ⟨Ne.symm (ap.tail.head p hp), Ne.symm (ap.tail.tail.head p hp)⟩
end Mine
end
section
open PySem PySem.W PyProof.Rows PyProof.V PySem.Calls PySem.Spec
namespace Mine
/-! the row of plain bools: who loses where one takes no more than three -/
def plainB (n : Nat) : List Bool := (List.range n).map fun i => decide (i % 4 ≠ 0)
theorem plainB_len (n : Nat) : (plainB n).length = n := by simp [plainB]
theorem plainB_succ (n : Nat) : plainB (n + 1) = plainB n ++ [decide (n % 4 ≠ 0)] := by simp [plainB, List.range_succ]
theorem plainB_get {n k : Nat} (h : k < n) : (plainB n).getD k false = decide (k % 4 ≠ 0) := by
  simp [plainB, List.getD_eq_getElem?_getD, h]
def gain (K : Int) (j : Nat) : Bool := (List.range j).any fun t => decide (1 + (t : Int) ≤ K) && decide ((K - (1 + (t : Int))) % 4 = 0)
theorem gain_succ (K : Int) (j : Nat) : gain K (j + 1) = (gain K j || (decide (1 + (j : Int) ≤ K) && decide ((K - (1 + (j : Int))) % 4 = 0))) := by
  unfold gain
  rw [List.range_succ, List.any_append]
  simp
theorem gain_three {K : Int} (h : 1 ≤ K) : gain K 3 = decide (K % 4 ≠ 0) := by
  rw [gain_succ, gain_succ, gain_succ]
  have : gain K 0 = false := rfl
  rw [this, Bool.false_or, ← Bool.decide_and, ← Bool.decide_and, ← Bool.decide_and, ← Bool.decide_or, ← Bool.decide_or, decide_eq_decide]
  push_cast
  omega
def PInv (pl cp : Addr) (oP : Obj) (q4 q5 : Addr × Obj) (m₁ : Str → Option Value) (i : Nat) (m : Str → Option Value) (news : List (Addr × Obj)) : Prop :=
  ∃ vs k, m = m₁ ∧ news = [(pl, W.listOf (List.toArray vs) k), (cp, oP), q4, q5] ∧ LSm.BoolsAre vs (plainB (i + 1))
def CInv (news : List (Addr × Obj)) (K : Int) (j : Nat) (l : List Int) (newsi : List (Addr × Obj)) : Prop := newsi = news ∧ l.isEmpty = !gain K j
theorem cinv_no {news : List (Addr × Obj)} {K M : Int} {j : Nat} {l : List Int} (hM : M = 1 + (j : Int)) (h : l.isEmpty = !gain K j) (hn : ¬ (M ≤ K ∧ (K - M) % 4 = 0)) : CInv news K (j + 1) l news := by
  subst hM
  refine ⟨rfl, ?_⟩
  rw [gain_succ, h, ← Bool.decide_and, decide_eq_false hn, Bool.or_false]
theorem cinv_yes {news : List (Addr × Obj)} {K M : Int} {j : Nat} {l : List Int} {k : Int} (hM : M = 1 + (j : Int)) (h1 : M ≤ K) (h2 : (K - M) % 4 = 0) : CInv news K (j + 1) (l ++ [k]) news := by
  subst hM
  refine ⟨rfl, ?_⟩
  rw [gain_succ, decide_eq_true h1, decide_eq_true h2]
  simp
theorem gain_ne {K : Int} {l : List Int} (hK : 1 ≤ K) (h : l.isEmpty = !gain K 3) : (!decide (l = [])) = decide (K % 4 ≠ 0) := by
  rw [gain_three hK] at h
  cases l with
  | nil => simp at h ⊢; omega
  | cons a r => simp at h ⊢; omega
theorem plain_at {K M : Int} {i : Nat} (hK : K = 1 + (i : Int)) (h1 : 1 ≤ M) (h2 : M ≤ K) : (plainB (i + 1)).getD (K - M).toNat false = decide ((K - M) % 4 ≠ 0) := by
  rw [plainB_get (by omega), decide_eq_decide]
  omega
theorem plain_end {h₀ h : Heap} {L I c lP c3 : Addr} {it o oP : Obj} {q4 q5 : Addr × Obj} {v : Option Value} {m₁ : Str → Option Value} {vs : List Value} {k k' i : Nat} {K : Int} {s₁ : Shared} {tk : Nat} (hK : K = 1 + (i : Int)) (F : Fr h₀ L h m₁) (N : News h₀ L h [(lP, W.listOf (List.toArray (vs ++ [.bool (decide (K % 4 ≠ 0))])) k'), (I, it), (c, o), (c3, oP), q4, q5]) (ho : o.data = .cell v)
    (hap : ∀ p ∈ [(lP, W.listOf vs.toArray k), (c3, oP), q4, q5], p.1 ≠ I ∧ p.1 ≠ c) (hB : LSm.BoolsAre vs (plainB (i + 1))) : CellEnd h₀ L I c it (PInv lP c3 oP q4 q5 m₁ (i + 1)) s₁ { s₁ with heap := h, toks := tk } := by
  refine ⟨h, tk, _, o, v, [(lP, W.listOf (List.toArray (vs ++ [.bool (decide (K % 4 ≠ 0))])) k'), (c3, oP), q4, q5], rfl, F, fun p hp => N p ?_, ho, fun p hp => ?_, _, k', rfl, rfl, ?_⟩
  · simp only [List.mem_cons, List.not_mem_nil, or_false] at hp ⊢
    rcases hp with h | h | h | h | h | h <;> simp [h]
  · rcases List.mem_cons.mp hp with rfl | hp
    · exact hap (lP, W.listOf vs.toArray k) (.head _)
    · exact hap p (.tail _ hp)
  · rw [plainB_succ (i + 1)]
    refine kbo_app hB ?_
    have e : decide (K % 4 ≠ 0) = decide ((i + 1) % 4 ≠ 0) := by
      rw [decide_eq_decide]
      omega
    rw [e]
    exact .cons _ .nil
theorem plain_hap {L lP : Nat} {o1 oP o4 o5 : Obj} (l0 : 55 < L ∧ 48 < L) (h : L + 1 < lP) : ∀ p ∈ ([(lP, o1), (L + 1 + 1 + 1, oP), (55, o4), (48, o5)] : List (Addr × Obj)), p.1 ≠ (L + 1 : Nat) := by
  intro p hp
  simp only [List.mem_cons, List.not_mem_nil, or_false] at hp
  rcases hp with rfl | rfl | rfl | rfl
  · exact Nat.ne_of_gt h
  · exact Nat.ne_of_gt (Nat.lt_succ_of_lt (Nat.lt_succ_self _))
  · exact Nat.ne_of_lt (Nat.lt_succ_of_lt l0.1)
  · exact Nat.ne_of_lt (Nat.lt_succ_of_lt l0.2)
end Mine
end
section
open PySem PySem.W PyProof.Rows PyProof.V PySem.Calls PySem.Spec
namespace Mine
/-- what stands between the turns of the last comprehension -/
def FInv (pre : List (Addr × Obj)) (j : Nat) (l : List Int) (newsi : List (Addr × Obj)) : Prop :=
  l = [] ∧ ((j = 0 ∧ newsi = pre ++ [(55, tabObj #[]), (48, tabObj #[])]) ∨ (1 ≤ j ∧ ∃ a1 a2 o1 o2, newsi = pre ++ madeL a1 a2 o1 o2 ∧ (∀ q ∈ pre, q.1 ≠ a1 ∧ q.1 ≠ a2) ∧ CodeOf o1 (Str.ofString "_digits2int.<locals>.inner") ∧ CodeOf o2 (Str.ofString "_int2digits.<locals>.inner")))
section
variable {h₀ h h' : Heap} {L I C D Dv a1 a2 : Addr} {oI oC oD o1 o2 pr : Obj} {pre : List (Addr × Obj)}
theorem fin_A (hpre : ∀ q ∈ pre, q.1 ∉ ([55, 48] : List Addr)) (off : LCg.Off3 I C D (pre ++ [(55, tabObj #[]), (48, tabObj #[])])) (N : News h₀ L h ((I, oI) :: (C, oC) :: (D, oD) :: (pre ++ [(55, tabObj #[]), (48, tabObj #[])])))
    (K : ∀ b o, h.get? b = some o → b ∉ ([55, 48] : List Addr) → h'.get? b = some o) (X : ∀ p ∈ (Dv, pr) :: madeL a1 a2 o1 o2, ∀ o, h.get? p.1 = some o → p.1 ∈ ([55, 48] : List Addr)) (N' : News h₀ L h' ((Dv, pr) :: madeL a1 a2 o1 o2)) :
    News h₀ L h' ((Dv, pr) :: (I, oI) :: (C, oC) :: (D, oD) :: (pre ++ madeL a1 a2 o1 o2)) ∧ LCg.Off3 I C D (pre ++ madeL a1 a2 o1 o2) ∧ ∀ q ∈ pre, q.1 ≠ a1 ∧ q.1 ≠ a2 := by
  have m55 := off.mem (55, tabObj #[]) (List.mem_append_right _ (.head _))
  have m48 := off.mem (48, tabObj #[]) (List.mem_append_right _ (.tail _ (.head _)))
  have h6 : ∀ q ∈ (I, oI) :: (C, oC) :: (D, oD) :: pre, q.1 ∉ ([55, 48] : List Addr) := by
    intro q hq hm
    rcases List.mem_cons.mp hq with rfl | hq
    · simp only [List.mem_cons, List.not_mem_nil, or_false] at hm
      rcases hm with e | e
      · exact m55.1 e.symm
      · exact m48.1 e.symm
    rcases List.mem_cons.mp hq with rfl | hq
    · simp only [List.mem_cons, List.not_mem_nil, or_false] at hm
      rcases hm with e | e
      · exact m55.2.1 e.symm
      · exact m48.2.1 e.symm
    rcases List.mem_cons.mp hq with rfl | hq
    · simp only [List.mem_cons, List.not_mem_nil, or_false] at hm
      rcases hm with e | e
      · exact m55.2.2 e.symm
      · exact m48.2.2 e.symm
    · exact hpre q hq hm
  have inN : ∀ q ∈ (I, oI) :: (C, oC) :: (D, oD) :: pre, q ∈ (I, oI) :: (C, oC) :: (D, oD) :: (pre ++ [(55, tabObj #[]), (48, tabObj #[])]) := by
    intro q hq
    simp only [List.mem_cons, List.mem_append] at hq ⊢
    rcases hq with e | e | e | e <;> simp [e]
  have fr : ∀ q ∈ (I, oI) :: (C, oC) :: (D, oD) :: pre, ∀ p ∈ (Dv, pr) :: madeL a1 a2 o1 o2, q.1 ≠ p.1 := by
    intro q hq p hp e
    have := X p hp q.2 (by rw [← e]; exact (N q (inN q hq)).1)
    rw [← e] at this
    exact h6 q hq this
  have p1 : (a1, o1) ∈ (Dv, pr) :: madeL a1 a2 o1 o2 := .tail _ (.tail _ (.head _))
  have p2 : (a2, o2) ∈ (Dv, pr) :: madeL a1 a2 o1 o2 := .tail _ (.tail _ (.tail _ (.tail _ (.head _))))
  refine ⟨fun p hp => ?_, LCg.Off3.of fun p hp => ?_, fun q hq => ⟨fr q (.tail _ (.tail _ (.tail _ hq))) _ p1, fr q (.tail _ (.tail _ (.tail _ hq))) _ p2⟩⟩
  · have : p ∈ (I, oI) :: (C, oC) :: (D, oD) :: pre ∨ p ∈ (Dv, pr) :: madeL a1 a2 o1 o2 := by
      simp only [List.mem_cons, List.mem_append, List.not_mem_nil, or_false] at hp ⊢
      rcases hp with e | e | e | e | e | e | e | e | e <;> simp [e]
    rcases this with hq | hq
    · exact ⟨K _ _ (N p (inN p hq)).1 (h6 p hq), (N p (inN p hq)).2⟩
    · exact N' p hq
  · rcases List.mem_append.mp hp with hp | hp
    · exact off.mem p (List.mem_append_left _ hp)
    · rcases List.mem_cons.mp hp with rfl | hp
      · exact m55
      rcases List.mem_cons.mp hp with rfl | hp
      · exact ⟨Ne.symm (fr _ (.head _) _ p1), Ne.symm (fr _ (.tail _ (.head _)) _ p1), Ne.symm (fr _ (.tail _ (.tail _ (.head _))) _ p1)⟩
      rcases List.mem_cons.mp hp with rfl | hp
      · exact m48
      rcases List.mem_cons.mp hp with rfl | hp
      · exact ⟨Ne.symm (fr _ (.head _) _ p2), Ne.symm (fr _ (.tail _ (.head _)) _ p2), Ne.symm (fr _ (.tail _ (.tail _ (.head _))) _ p2)⟩
      · cases hp
theorem fin_B (hpre : ∀ q ∈ pre, q.1 ∉ ([55, 48] : List Addr)) (hap : ∀ q ∈ pre, q.1 ≠ a1 ∧ q.1 ≠ a2) (off : LCg.Off3 I C D (pre ++ madeL a1 a2 o1 o2)) (N : News h₀ L h ((I, oI) :: (C, oC) :: (D, oD) :: (pre ++ madeL a1 a2 o1 o2)))
    (K : ∀ b o, h.get? b = some o → b ∉ ([55, a1, 48, a2] : List Addr) → h'.get? b = some o) (N' : News h₀ L h' ((Dv, pr) :: madeL a1 a2 o1 o2)) :
    News h₀ L h' ((Dv, pr) :: (I, oI) :: (C, oC) :: (D, oD) :: (pre ++ madeL a1 a2 o1 o2)) := by
  have m55 := off.mem (55, _) (List.mem_append_right _ (.head _))
  have m1 := off.mem (a1, o1) (List.mem_append_right _ (.tail _ (.head _)))
  have m48 := off.mem (48, _) (List.mem_append_right _ (.tail _ (.tail _ (.head _))))
  have m2 := off.mem (a2, o2) (List.mem_append_right _ (.tail _ (.tail _ (.tail _ (.head _)))))
  have h6 : ∀ q ∈ (I, oI) :: (C, oC) :: (D, oD) :: pre, q.1 ∉ ([55, a1, 48, a2] : List Addr) := by
    intro q hq hm
    rcases List.mem_cons.mp hq with rfl | hq
    · simp only [List.mem_cons, List.not_mem_nil, or_false] at hm
      rcases hm with e | e | e | e
      · exact m55.1 e.symm
      · exact m1.1 e.symm
      · exact m48.1 e.symm
      · exact m2.1 e.symm
    rcases List.mem_cons.mp hq with rfl | hq
    · simp only [List.mem_cons, List.not_mem_nil, or_false] at hm
      rcases hm with e | e | e | e
      · exact m55.2.1 e.symm
      · exact m1.2.1 e.symm
      · exact m48.2.1 e.symm
      · exact m2.2.1 e.symm
    rcases List.mem_cons.mp hq with rfl | hq
    · simp only [List.mem_cons, List.not_mem_nil, or_false] at hm
      rcases hm with e | e | e | e
      · exact m55.2.2 e.symm
      · exact m1.2.2 e.symm
      · exact m48.2.2 e.symm
      · exact m2.2.2 e.symm
    · simp only [List.mem_cons, List.not_mem_nil, or_false] at hm
      rcases hm with e | e | e | e
      · exact hpre q hq (by simp [e])
      · exact (hap q hq).1 e
      · exact hpre q hq (by simp [e])
      · exact (hap q hq).2 e
  intro p hp
  have : p ∈ (I, oI) :: (C, oC) :: (D, oD) :: pre ∨ p ∈ (Dv, pr) :: madeL a1 a2 o1 o2 := by
    simp only [List.mem_cons, List.mem_append, List.not_mem_nil, or_false] at hp ⊢
    rcases hp with e | e | e | e | e | e | e | e | e <;> simp [e]
  rcases this with hq | hq
  · have inN : p ∈ (I, oI) :: (C, oC) :: (D, oD) :: (pre ++ madeL a1 a2 o1 o2) := by
      simp only [List.mem_cons, List.mem_append] at hq ⊢
      rcases hq with e | e | e | e <;> simp [e]
    exact ⟨K _ _ (N p inN).1 (h6 p hq), (N p inN).2⟩
  · exact N' p hq
end
theorem pre_off {L lP : Nat} {o1 o2 o3 : Obj} (l0 : 55 < L ∧ 48 < L) (h : L + 1 < lP) : ∀ q ∈ ([(L + 1, o1), (lP, o2), (L + 1 + 1 + 1, o3)] : List (Addr × Obj)), q.1 ∉ ([55, 48] : List Addr) := by
  intro q hq hm
  have key : (L + 1 ≠ 55 ∧ L + 1 ≠ 48) ∧ (lP ≠ 55 ∧ lP ≠ 48) ∧ (L + 1 + 1 + 1 ≠ 55 ∧ L + 1 + 1 + 1 ≠ 48) := by omega
  simp only [List.mem_cons, List.not_mem_nil, or_false] at hq hm
  rcases hq with rfl | rfl | rfl
  · exact hm.elim key.1.1 key.1.2
  · exact hm.elim key.2.1.1 key.2.1.2
  · exact hm.elim key.2.2.1 key.2.2.2
theorem plain_fin {x : Int} {n : Nat} (h0 : 0 ≤ x) (h : x ≤ n) : (plainB (n + 1)).getD x.toNat false = !decide (Int.fmod x 4 = 0) := by
  rw [plainB_get (by omega), ← decide_not, decide_eq_decide, Int.fmod_eq_emod_of_nonneg _ (by decide)]
  omega
end Mine
namespace Mine
theorem divBC (w : World) (p : Program) (loose : List Str) (mean : ExcName → Option Value) (mg mb : Str → Option Value) : DivB PySem.Challenge.rw_go0003_01.prog w (Mine.hd.heap_39 w.params) p loose mean mg mb 74 1 13 := by
  intro a1 a2 o1 o2 x tx ty dp un gd cn cs a ccd cl outer A₀ base h₀ L m s Q E hx0 hx1
  by_cases h : x ≤ 7
  · exact divB w p loose mean mg mb a1 a2 o1 o2 x tx ty dp un gd cn cs a ccd cl outer A₀ base h₀ L m s Q E hx0 h
  · exact divC w p loose mean mg mb a1 a2 o1 o2 x tx ty dp un gd cn cs a ccd cl outer A₀ base h₀ L m s Q E (by omega) hx1
theorem not_same {a c : Bool} (h : a = !c) : ¬ ((a == c) = true) := by subst h; cases c <;> simp
theorem not_same' {a c : Bool} (h : a = !c) : ¬ (decide (a = c) = true) := by subst h; cases c <;> simp
end Mine
namespace Mine
theorem plain_fin2 {x : Int} {n : Nat} (h0 : 0 ≤ x) (h : x ≤ n) : (plainB (n + 1)).getD x.toNat false = !(Int.fmod x 4 == 0) := by
  rw [plain_fin h0 h]
  rfl
end Mine
end
section
open PySem PySem.W PyProof.Rows PyProof.V PySem.Calls PySem.Spec
namespace Mine
local macro_rules | `(tactic| walk_at $s:str) => `(tactic| k_extra $s)
local macro_rules | `(tactic| k_all) => `(tactic| assumption)
theorem law : PySem.Challenge.rw_go0003_01.Holds := hd (by
  w_top off
  k_with_none
  k_go0
  (all_goals try k_fold)
  k_with "call ref" => (refine Park.out ?_)
  k_with "exec For Name Call cons nil" => (refine Park.out ?_)
  k_with "CompSrcT" => (refine Park.out ?_)
  k_steps
  refine Park.in ?_
  rename List Int => ns
  rename News _ _ _ _ => N1
  rename Fr _ _ _ _ => F1
  have hf1 := fmod_lo ns.sum (n := 13) (by decide)
  have hf2 := fmod_hi ns.sum (n := 13) (by decide)
  generalize hP : 1 + ns.sum.fmod 13 = P at N1 F1 ⊢
  have hP1 : 1 ≤ P := by omega
  have hP2 : P ≤ 13 := by omega
  clear hf1 hf2 hP
  k_dflt (refine' bisL _ _ _ _ _ _ P _ _ ⟨_, _, _, _, _, _, _⟩ _ _ _ _ _ _ _ _ _ _ _ _ _ _ _ _ _ _ _ ?zz0 ?zz1 ?zz2 ?zz3 ?zz4 ?zz5 ?zz6 ?zz7 ?zz8 ?_)
  case zz4 => exact N1
  case zz0 => k_dflt k_mem
  case zz1 => k_asm
  case zz2 => k_asm
  case zz3 => k_asm
  case zz5 => k_asm
  case zz6 => exact rfl
  case zz7 => ktr_room
  case zz8 => ktr_units
  intro t2 h2 tk2 F2 N2
  clear F1 N1
  (try dsimp only)
  (try k_fold)
  k_with "subscriptTail Name Name" => (k_dflt refine' row_use (P := P) (t := ⟨_, _, _, _, _, _, _⟩) hP1 hP2 ?zz9 ?_; (case zz9 => is_list); intro u9)
  k_steps
  refine Park.in ?_
  rename News _ _ _ _ => N2
  have N3 := split8 N2
  k_dflt (refine' wins_all _ _ _ _ _ _ 14 P (P - 1) _ _ _ [] _ _ _ _ _ _ _ _ _ _ _ _ _ _ _ _ _ _ _ ?yy0 ?yy1 ?yy2 ?yy3 ?yy4 ?yy5 ?yy6 ?yy7 ?yy8 ?yy9 ?yya ?yyb N3 ?yyc ?yyd ?yye ?yyf ?_)
  case yy0 => omega
  case yy1 => omega
  case yy2 => omega
  case yy3 => omega
  case yy4 => omega
  case yy5 => exact TupTab.ofEmpty (.head _) (by assumption) (by assumption)
  case yy6 => exact apart6 (by assumption)
  case yy7 => intro a b v hv; cases hv
  case yy8 =>
    have : 2 ^ P.toNat ≤ 2 ^ 13 := Nat.pow_le_pow_right (by decide) (by omega)
    simp only [List.length_nil]
    omega
  case yy9 => k_asm
  case yya => k_asm
  case yyb => k_asm
  case yyc => k_asm
  case yyd => exact rfl
  case yye => ktr_room
  case yyf => ktr_units
  intro h3 tk3 tabs3 D3 F3 N3' T3 ap3 G3 B3
  rw [first_eq hP1 hP2]
  simp only [List.cons_append, List.nil_append] at N3'
  clear N2 N3
  (try dsimp only)
  (try k_fold)
  k_steps
  refine Park.in ?_
  rename_i w s₀ s₁ mg mb G Y fa o pm cd doc ho hcd hg X V T B TE TW hs hlay0 hL1 hr1 hl2 w7 w6 sc vs sa hL ra w1 r0 hI hr hcond1 hcond2 hD h₁ tk₁ oP oQ oN dP dQ dN X0 X' T' K' codeHd1 l0 rw h8 l12 h7 tk1 h6 tk' t' d h5 od lo hs' fs hi fi l11 DD h4 l1 h3a h2a h1a tkz qkz ekz ha Fa aa
  have dP' : oP.data = .cell none := dP
  have dQ' : oQ.data = .cell none := dQ
  have dN' : oN.data = .cell none := dN
  clear dP dQ dN Fa aa l1 DD
  (try clear hcd)
  (try clear X0)
  (try clear hD)
  (try clear TE)
  (try clear TW)
  obtain ⟨m₀, F4, e1, e2, e3⟩ : ∃ m₀, Fr _ _ h3 m₀ ∧ m₀ (Str.ofString "row") = some (.ref rw) ∧ m₀ (Str.ofString "pieces") = some (.int P (tk' + 1 + 1)) ∧ m₀ (Str.ofString "known") = some (.ref d) := ⟨_, F3, rfl, rfl, rfl⟩
  clear F3
  have N3 : News (ghostOf s₁.heap [(59, 55), (52, 48)]) s₁.heap.objs.size h3 ((rw, rowObj ⟨tk₁, tk₁ + 1, tk₁ + 1 + 1, tk₁ + 1 + 1 + 1, tk₁ + 1 + 1 + 1 + 1, tk₁ + 1 + 1 + 1 + 1 + 1, tk₁ + 1 + 1 + 1 + 1 + 1 + 1⟩ 0) :: (s₁.heap.objs.size + 1 + 1 + 1, oP) :: (s₁.heap.objs.size + 1 + 1, oQ) :: (s₁.heap.objs.size + 1, oN) :: (55, tabObj #[]) :: (48, tabObj #[]) :: tabs3) := N3'
  obtain ⟨hapN, ap4⟩ := hap_of l12 l0 ap3
  have ap3' : Apart [(rw, rowObj ⟨tk₁, tk₁ + 1, tk₁ + 1 + 1, tk₁ + 1 + 1 + 1, tk₁ + 1 + 1 + 1 + 1, tk₁ + 1 + 1 + 1 + 1 + 1, tk₁ + 1 + 1 + 1 + 1 + 1 + 1⟩ 0), (s₁.heap.objs.size + 1 + 1, oQ), (s₁.heap.objs.size + 1 + 1 + 1, oP), (55, tabObj #[]), (48, tabObj #[])] tabs3 := ap4
  have hapN' : ∀ p ∈ (rw, rowObj ⟨tk₁, tk₁ + 1, tk₁ + 1 + 1, tk₁ + 1 + 1 + 1, tk₁ + 1 + 1 + 1 + 1, tk₁ + 1 + 1 + 1 + 1 + 1, tk₁ + 1 + 1 + 1 + 1 + 1 + 1⟩ 0) :: (s₁.heap.objs.size + 1 + 1, oQ) :: (s₁.heap.objs.size + 1 + 1 + 1, oP) :: (55, tabObj #[]) :: (48, tabObj #[]) :: tabs3, p.1 ≠ s₁.heap.objs.size + 1 := hapN
  generalize (⟨tk₁, tk₁ + 1, tk₁ + 1 + 1, tk₁ + 1 + 1 + 1, tk₁ + 1 + 1 + 1 + 1, tk₁ + 1 + 1 + 1 + 1 + 1, tk₁ + 1 + 1 + 1 + 1 + 1 + 1⟩ : T7) = tr at N3 ap3' hapN'
  clear N3' ap4 ap3 hapN
  k_dflt (refine' for_cell (h₀ := ghostOf s₁.heap [(59, 55), (52, 48)]) ?zza ?zzb ?zzc ?_; (case zza => rfl); (case zzb => rfl); (case zzc => rfl))
  k_with "eval Name" => (refine' nameX_L (v := .int P (tk' + 1 + 1)) F4 e2 ?_ ?zza ?zzb; (case zza => rfl); (case zzb => rfl))
  k_steps
  rename News _ _ _ _ => N4
  refine' cell_loop (o := oN) (news := (rw, rowObj tr 0) :: (s₁.heap.objs.size + 1 + 1, oQ) :: (s₁.heap.objs.size + 1 + 1 + 1, oP) :: (55, tabObj #[]) :: (48, tabObj #[]) :: tabs3) (NInv PySem.Challenge.rw_go0003_01.prog w d (s₁.heap.objs.size + 1 + 1) m₀ (rw, rowObj tr 0) (s₁.heap.objs.size + 1 + 1 + 1, oP) (55, tabObj #[]) (48, tabObj #[])) rfl (by assumption) (small_one (by decide) (by decide) (by omega) (by omega)) (rangeSize_nat _ _) (by k_asm) ?zzN dN' ?zzh ?zz0 ?zzt ?zzd
  case zzN => exact news_sub N4 (by intro p hp; simp only [List.mem_cons] at hp ⊢; rcases hp with h | h | h | h | h | h | h <;> simp [h])
  case zzh => exact hapN'
  case zz0 =>
    refine ⟨tabs3, D3, oQ, none, m₀ mostS, ?zz0a, rfl, dQ', T3, ap3', G3, ?zz0b⟩
    case zz0a => funext y; by_cases h : y = mostS <;> simp [h]
    case zz0b =>
      have : 2 ^ P.toNat ≤ 2 ^ 13 := Nat.pow_le_pow_right (by decide) (by omega)
      simp only [List.length_nil] at B3
      omega
  case zzd =>
    intro m9 news9 oN9 vN9 h9 tk9 hJ9 F9 N9 ho9
    obtain ⟨tabs9, D9, op9, vp9, u9, rfl, rfl, hop9, T9, ap9, G9, hD9⟩ := hJ9
    have N10 : News (ghostOf s₁.heap [(59, 55), (52, 48)]) s₁.heap.objs.size h9 [(s₁.heap.objs.size + 1, oN9), (s₁.heap.objs.size + 1 + 1 + 1, oP), (55, tabObj #[]), (48, tabObj #[])] := news_sub N9 (by intro p hp; simp only [List.mem_cons, List.not_mem_nil, or_false] at hp ⊢; rcases hp with h | h | h | h <;> simp [h])
    (try clear N9)
    (try clear T9)
    (try clear ap9)
    (try clear G9)
    (try clear hD9)
    (try clear hop9)
    (try clear N4)
    (try clear N3)
    (try clear T3)
    (try clear G3)
    (try clear ap3')
    (try clear hapN')
    (try clear B3)
    (try dsimp only)
    (try k_fold)
    k_with "eval Name" => ((with_reducible rename Fr _ _ _ _ => kF); refine' nameX_L kF (most_get (by decide) e2) ?_ ?zza ?zzb; (case zza => rfl); (case zzb => rfl))
    repeat' (first | (k_unfold; (try dsimp only)) | walk1 | (dsimp only; walk1) | (leave1; walk_say "STEP leave1"; (try dsimp only)) | fail "no step")
    refine Park.in ?_
    k_dflt (refine' for_cell (h₀ := ghostOf s₁.heap [(59, 55), (52, 48)]) ?zza ?zzb ?zzc ?_; (case zza => rfl); (case zzb => rfl); (case zzc => rfl))
    repeat' (first | (k_unfold; (try dsimp only)) | walk1 | (dsimp only; walk1) | (leave1; walk_say "STEP leave1"; (try dsimp only)) | fail "no step")
    rename_i lP hx0 fx0 nx0 lP1 hx1 oP2 hF1 hN1 dP2 hx2 tky ta tb tc aR1 aR2 aR3 aR4
    rename News _ _ _ _ => N11
    rename Fr _ _ _ _ => F11
    refine' cell_loop (o := oN9) (news := [(lP, W.listOf #[Value.bool false] 0), (s₁.heap.objs.size + 1 + 1 + 1, oP2), (55, tabObj #[]), (48, tabObj #[])]) (PInv lP (s₁.heap.objs.size + 1 + 1 + 1) oP2 (55, tabObj #[]) (48, tabObj #[]) (fun y => if y = mostS then u9 else m₀ y)) rfl (by assumption) (small_one (by decide) (by decide) (by omega) (by omega)) (rangeSize_nat _ _) F11 ?zyN ho9 ?zyh ?zy0 ?zyt ?zyd
    case zyN => exact news_sub N11 (by intro p hp; simp only [List.mem_cons, List.not_mem_nil, or_false] at hp ⊢; rcases hp with h | h | h | h | h <;> simp [h])
    case zyh => exact plain_hap l0 lP1.1
    case zy0 => exact ⟨[.bool false], 0, rfl, rfl, .cons _ .nil⟩
    case zyt =>
      (try clear N11)
      (try clear F11)
      intro i7 t7 I7 m7 news7 oN7 hh7 tk7 E7 hi7 hJ7 F7 N7 ho7 hne7 hap7
      obtain ⟨vs7, k7, rfl, rfl, hB7⟩ := hJ7
      obtain ⟨K, hK⟩ : ∃ K, K = 1 + (i7 : Int) := ⟨_, rfl⟩
      rw [← hK] at ho7
      have hK1 : 1 ≤ K := by omega
      have hK2 : K ≤ P := by omega
      have hlB := plainB_len (i7 + 1)
      (try dsimp only)
      (try k_unmd)
      k_fold
      k_with "eval ListComp Name cons" => (k_here; k_dflt (refine LCt.ListComp_T (F₀ := by k_asm) (by with_unfolding_all rfl) (by decide) (by rfl) (by decide) (by rfl) ?_); k_dflt lct_toSrc)
      iterate 8 (first | (k_unfold; (try dsimp only)) | walk1 | (dsimp only; walk1) | (leave1; walk_say "STEP leave1"; (try dsimp only)) | fail "no step")
      repeat' (first | (k_unfold; (try dsimp only)) | walk1 | (dsimp only; walk1) | (leave1; walk_say "STEP leave1"; (try dsimp only)) | fail "no step")
      refine Park.in ?_
      refine LCt.CompSrcT.range (n := 3) (by rfl) (by k_asm) (by k_asm) (by assumption) (by decide) (by decide) (by rw [PySem.sizeLine_eq]; omega) ?_
      intro g5
      refine comp_rest (CInv _ K) ?wyt ?wyf ⟨rfl, rfl⟩
      case wyt =>
        intro i5 t5 I5 oI5 C5 oC5 D5 m5 ys5 l5 h5 tk5 newsi5 E5 hi5 hy5 hq5 hC5 hx5 F5 N5 off5 ne5
        obtain ⟨rfl, hq5⟩ := hq5
        obtain ⟨M, hM⟩ : ∃ M, M = 1 + (i5 : Int) := ⟨_, rfl⟩
        rw [← hM] at hx5
        have hM1 : 1 ≤ M := by omega
        have hM2 : M ≤ 3 := by omega
        (try dsimp only)
        (try k_unmd)
        k_fold
        k_with "ite" => (first | (refine' W.ite_neg ?iyeC ?_; (case iyeC => exact Bool.false_ne_true)) | (refine' W.ite_pos ?iyeC ?_; (case iyeC => rfl)) | (refine' ite_two ?iyeD ?iyeE; (case' iyeD => intro hgt; (try simp only [decide_eq_true_eq] at hgt)); (case' iyeE => intro hgt; (try simp only [decide_eq_true_eq] at hgt))))
        repeat' (first | (k_unfold; (try dsimp only)) | walk1 | (dsimp only; walk1) | (leave1; walk_say "STEP leave1"; (try dsimp only)) | fail "no step")
        all_goals first
          | exact ⟨h5, _, _, rfl, F5, N5, off5, cinv_no hM hq5 fun h => hgt h.1⟩
          | (rename_i hpl; rw [plain_at hK hM1 hgt] at hpl; exact ⟨h5, _, _, rfl, F5, N5, off5, cinv_no hM hq5 fun h => absurd h.2 (of_decide_eq_true hpl)⟩)
          | (rename_i hpl; rw [plain_at hK hM1 hgt] at hpl; exact ⟨h5, _, _, rfl, F5, N5, off5, _, _, rfl, cinv_yes hM hgt (by simpa using hpl)⟩)
      case wyf =>
        intro ys5 l5 newsn5 hy5 hq5
        obtain ⟨rfl, hq5⟩ := hq5
        intro D5 h5 tk5 F5 N5 off5
        k_with "call builtin:list.append" => (refine Park.out ?_)
        k_with "call builtin:list.append cons nil" => (refine Park.out ?_)
        k_with "compareOp NotEq ref ref" => (refine Park.out ?_)
        repeat' (first | (k_unfold; (try dsimp only)) | walk1 | (dsimp only; walk1) | (leave1; walk_say "STEP leave1"; (try dsimp only)) | fail "no step")
        refine Park.in ?_
        refine ne_intsK (vs := ys5) (ns := l5) (us := []) (ms := []) (by is_list) hy5 (by is_list) .nil (by ktr_units) ?_
        rw [gain_ne hK1 hq5]
        repeat' (first | (k_unfold; (try dsimp only)) | walk1 | (dsimp only; walk1) | (leave1; walk_say "STEP leave1"; (try dsimp only)) | fail "no step")
        refine Park.in ?_
        rename News _ _ _ _ => N6
        rename Fr _ _ _ _ => F6
        have N8 : News (ghostOf s₁.heap [(59, 55), (52, 48)]) s₁.heap.objs.size _ ((lP, W.listOf vs7.toArray k7) :: [(I7, itR (1 + ((i7 + 1 : Nat) : Int)) (((P + 1 - 1).toNat : Int) - ((i7 + 1 : Nat) : Int))), (s₁.heap.objs.size + 1, oN7), (s₁.heap.objs.size + 1 + 1 + 1, oP2), (55, tabObj #[]), (48, tabObj #[])]) := news_sub N6 (by intro p hp; simp only [List.mem_cons, List.not_mem_nil, or_false] at hp ⊢; rcases hp with h | h | h | h | h | h <;> simp [h])
        have hr8 : ∀ p ∈ [(I7, itR (1 + ((i7 + 1 : Nat) : Int)) (((P + 1 - 1).toNat : Int) - ((i7 + 1 : Nat) : Int))), (s₁.heap.objs.size + 1, oN7), (s₁.heap.objs.size + 1 + 1 + 1, oP2), (55, tabObj #[]), (48, tabObj #[])], p.1 ≠ lP := by
          intro p hp
          simp only [List.mem_cons, List.not_mem_nil, or_false] at hp
          rcases hp with rfl | rfl | rfl | rfl | rfl
          · exact Ne.symm (hap7 _ (.head _)).1
          · exact Nat.ne_of_lt lP1.1
          · exact Nat.ne_of_lt lP1.2.1
          · exact Nat.ne_of_lt lP1.2.2.1
          · exact Nat.ne_of_lt lP1.2.2.2
        have hz8 : vs7.toArray.size ≤ sizeLine := by
          rw [List.size_toArray, hB7.length, hlB, PySem.sizeLine_eq]
          omega
        refine append_K (hsz := hz8) F6 N8 (.head hr8) ?_
        clear N6 F6 N8
        intro h8 F8 N8
        rw [List.push_toArray] at N8
        (try dsimp only)
        (try k_fold)
        repeat' (first | (k_unfold; (try dsimp only)) | walk1 | (dsimp only; walk1) | (leave1; walk_say "STEP leave1"; (try dsimp only)) | fail "no step")
        exact plain_end hK F8 N8 ho7 hap7 hB7
    case zyd =>
      (try clear N11)
      (try clear F11)
      intro m7 news7 oN7 vN7 hh7 tk7 hJ7 F7 N7 ho7
      obtain ⟨vs7, k7, rfl, rfl, hB7⟩ := hJ7
      (try dsimp only)
      (try k_fold)
      k_with "eval ListComp Name cons" => (k_here; k_dflt (refine LCt.ListComp_T (F₀ := by k_asm) (by with_unfolding_all rfl) (by decide) (by rfl) (by decide) (by rfl) ?_); k_dflt lct_toSrc)
      repeat' (first | (k_unfold; (try dsimp only)) | walk1 | (dsimp only; walk1) | (leave1; walk_say "STEP leave1"; (try dsimp only)) | fail "no step")
      refine Park.in ?_
      have hlB := plainB_len ((P + 1 - 1).toNat + 1)
      have hpre := pre_off (o1 := oN7) (o2 := W.listOf vs7.toArray k7) (o3 := oP2) l0 lP1.1
      refine LCt.CompSrcT.range (by rfl) (by k_asm) (by k_asm) (by assumption) (small_one (by decide) (by decide) (by omega) (by omega)) (rangeSize_nat _ _) (by rw [PySem.sizeLine_eq]; omega) ?_
      intro g5
      refine comp_rest (FInv [(s₁.heap.objs.size + 1, oN7), (lP, W.listOf vs7.toArray k7), (s₁.heap.objs.size + 1 + 1 + 1, oP2)]) ?wyt ?wyf ⟨rfl, .inl ⟨rfl, rfl⟩⟩
      case wyt =>
        intro i5 t5 I5 oI5 C5 oC5 D5 m5 ys5 l5 h5 tk5 newsi5 E5 hi5 hy5 hq5 hC5 hx5 F5 N5 off5 ne5
        obtain ⟨x, hx⟩ : ∃ x, x = 0 + (i5 : Int) := ⟨_, rfl⟩
        rw [← hx] at hx5
        have hx0 : 0 ≤ x := by omega
        have hxP : x ≤ P := by omega
        have hfin := plain_fin2 (n := (P + 1 - 1).toNat) hx0 (by omega)
        obtain ⟨rfl, ⟨hj, rfl⟩ | ⟨hj, a1, a2, o1, o2, rfl, hap5, hC1, hC2⟩⟩ := hq5
        · obtain rfl : x = 0 := by omega
          simp only [List.cons_append, List.nil_append] at N5
          (try dsimp only)
          (try k_unmd)
          k_fold
          k_with "subscriptTail Name Name" => (k_here; k_dflt (refine' kbo_sub ?k1 ?k2 ?k3 ?k4 ?k5 ?k6 ?_ ?k7; (case k1 => k_asm); (case k2 => k_mem); (case k3 => exact hB7); (case k4 => decide); (case k5 => (rw [hlB]; omega)); (case k6 => decide); (case k7 => with_unfolding_all rfl); k_whole))
          repeat' (first | (k_unfold; (try dsimp only)) | walk1 | (dsimp only; walk1) | (leave1; walk_say "STEP leave1"; (try dsimp only)) | fail "no step")
          refine Park.in ?_
          have N55 : News (ghostOf s₁.heap [(59, 55), (52, 48)]) s₁.heap.objs.size h5 [(55, tabObj #[]), (48, tabObj #[])] := news_sub N5 (by intro p hp; simp only [List.mem_cons, List.not_mem_nil, or_false] at hp ⊢; rcases hp with h | h <;> simp [h])
          k_dflt (refine' divA2 _ _ _ _ _ _ _ _ _ _ _ _ _ _ _ _ _ _ _ _ _ _ _ _ _ codeHd1 codeHd ?yy9 ?yya ?yyb N55 ?yyc ?yyd ?yye ?yyf ?_)
          case yy9 => k_asm
          case yya => k_asm
          case yyb => k_asm
          case yyc => k_asm
          case yyd => exact rfl
          case yye => ktr_room
          case yyf => ktr_units
          intro Dv a1 a2 o1 o2 q8 t8 u8 h8 tk8 F8 hK8 hX8 N8 hC1 hC2
          have hfin0 : (plainB ((P + 1 - 1).toNat + 1)).getD (Int.toNat 0) false = !((0 : Int) == 0) := hfin
          k_with "ite" => (refine' W.ite_neg ?iteF ?_; (case iteF => exact not_same hfin0))
          obtain ⟨N9, off9, hap9⟩ := fin_A hpre off5 N5 hK8 hX8 N8
          have N10 := N9
          simp only [List.cons_append, List.nil_append] at N10
          (try clear N8)
          (try dsimp only)
          (try k_fold)
          repeat' (first | (k_unfold; (try dsimp only)) | walk1 | (dsimp only; walk1) | (leave1; walk_say "STEP leave1"; (try dsimp only)) | fail "no step")
          exact ⟨h8, _, _, rfl, F8, fun p hp => N9 p (.tail _ hp), off9, rfl, .inr ⟨by omega, a1, a2, o1, o2, rfl, hap9, hC1, hC2⟩⟩
        · have hx1 : 1 ≤ x := by omega
          simp only [List.cons_append, List.nil_append, madeL] at N5
          (try dsimp only)
          (try k_unmd)
          k_fold
          k_with "subscriptTail Name Name" => (k_here; k_dflt (refine' kbo_sub ?k1 ?k2 ?k3 ?k4 ?k5 ?k6 ?_ ?k7; (case k1 => k_asm); (case k2 => k_mem); (case k3 => exact hB7); (case k4 => exact hx0); (case k5 => (rw [hlB]; omega)); (case k6 => omega); (case k7 => with_unfolding_all rfl); k_whole))
          repeat' (first | (k_unfold; (try dsimp only)) | walk1 | (dsimp only; walk1) | (leave1; walk_say "STEP leave1"; (try dsimp only)) | fail "no step")
          refine Park.in ?_
          have N55 : News (ghostOf s₁.heap [(59, 55), (52, 48)]) s₁.heap.objs.size h5 (madeL a1 a2 o1 o2) := news_sub N5 (by intro p hp; simp only [madeL, List.mem_cons, List.not_mem_nil, or_false] at hp ⊢; rcases hp with h | h | h | h <;> simp [h])
          k_dflt (refine' divBC _ _ _ _ _ _ a1 a2 o1 o2 x _ _ _ _ _ _ _ _ _ _ _ _ _ _ _ _ _ _ _ hx1 (show x ≤ 13 by omega) codeHd1 codeHd hC1 hC2 ?yy9 ?yya ?yyb N55 ?yyc ?yyd ?yye ?yyf ?_)
          case yy9 => k_asm
          case yya => k_asm
          case yyb => k_asm
          case yyc => k_asm
          case yyd => exact rfl
          case yye => ktr_room
          case yyf => ktr_units
          intro Dv q8 t8 u8 h8 tk8 F8 hK8 N8
          have N9 := fin_B hpre hap5 off5 N5 hK8 N8
          have N10 := N9
          simp only [List.cons_append, List.nil_append, madeL] at N10
          (try clear N8)
          (try dsimp only)
          (try k_fold)
          k_with "ite" => (refine' W.ite_neg ?iteF ?_; (case iteF => exact not_same hfin))
          repeat' (first | (k_unfold; (try dsimp only)) | walk1 | (dsimp only; walk1) | (leave1; walk_say "STEP leave1"; (try dsimp only)) | fail "no step")
          exact ⟨h8, _, _, rfl, F8, fun p hp => N9 p (.tail _ hp), off5, rfl, .inr ⟨by omega, a1, a2, o1, o2, rfl, hap5, hC1, hC2⟩⟩
      case wyf =>
        intro ys5 l5 newsn5 hy5 hq5
        obtain ⟨rfl, ⟨hj, rfl⟩ | ⟨hj, a1, a2, o1, o2, rfl, hap5, hC1, hC2⟩⟩ := hq5
        · exact absurd hj (by omega)
        cases hy5
        intro D5 h5 tk5 F5 N5 off5
        simp only [List.cons_append, List.nil_append, madeL] at N5
        k_with "compareOp Eq ref ref" => (refine Park.out ?_)
        repeat' (first | (k_unfold; (try dsimp only)) | walk1 | (dsimp only; walk1) | (leave1; walk_say "STEP leave1"; (try dsimp only)) | fail "no step")
        refine Park.in ?_
        refine eq_intsK (vs := []) (ns := []) (us := []) (ms := []) (by is_list) .nil (by is_list) .nil (by ktr_units) ?_
        simp only [decide_true]
        k_steps
  case zzt =>
    intro i9 t9 I9 m9 news9 oN9 h9 tk9 E9 hi9 hJ9 F9 N9 ho9 hne9 hap9
    obtain ⟨tabs9, D9, op9, vp9, u9, rfl, rfl, hop9, T9, ap9, G9, hD9⟩ := hJ9
    obtain ⟨K, hK⟩ : ∃ K, K = 1 + (i9 : Int) := ⟨_, rfl⟩
    rw [← hK] at ho9
    have hK1 : 1 ≤ K := by omega
    have hK2 : K ≤ P := by omega
    obtain ⟨f1, f2, f3, f4, f5, f6⟩ := parts_facts hK1 (by omega)
    have nI : (s₁.heap.objs.size + 1 + 1 : Nat) ≠ I9 := (hap9 _ (.tail _ (.head _))).1
    have nc : ∀ p ∈ tabs9, p.1 ≠ s₁.heap.objs.size + 1 + 1 := fun p hp => Ne.symm (ap9 _ (.tail _ (.head _)) p hp)
    (try dsimp only)
    (try k_unmd)
    k_fold
    k_with "eval Name" => ((with_reducible rename Fr _ _ _ _ => kF); refine' nameX_L kF (most_get (by decide) e1) ?_ ?zza ?zzb; (case zza => rfl); (case zzb => rfl))
    k_with "eval Name" => ((with_reducible rename Fr _ _ _ _ => kF); refine' nameX_L kF (most_get (by decide) e3) ?_ ?zza ?zzb; (case zza => rfl); (case zzb => rfl))
    repeat' (first | (k_unfold; (try dsimp only)) | walk1 | (dsimp only; walk1) | (leave1; walk_say "STEP leave1"; (try dsimp only)) | fail "no step")
    refine Park.in ?_
    k_dflt (refine' parts _ _ _ _ _ _ K _ rw tr 0 _ _ _ _ _ _ _ _ _ _ _ _ _ _ _ _ _ _ ?yy0 ?yy1 ?yy2 ?yy3 ?yy4 ?yy5 ?yy6 ?yy7 ?yy8 ?yy9 ?yya ?_)
    case yy6 => k_asm
    case yy0 => omega
    case yy1 => omega
    case yy2 => k_dflt k_mem
    case yy3 => k_asm
    case yy4 => k_asm
    case yy5 => k_asm
    case yy7 => k_asm
    case yy8 => exact rfl
    case yy9 => ktr_room
    case yya => ktr_units
    intro D8 vs8 k8 h8 tk8 F8 N8 l8 hI8
    (try dsimp only)
    (try k_fold)
    k_lt l8
    have hlen8 := IntsAre.length hI8
    k_with "ite" => (refine' W.ite_neg ?iteA ?_; (case iteA => (simp [f1]; done)))
    repeat' (first | (k_unfold; (try dsimp only)) | walk1 | (dsimp only; walk1) | (leave1; walk_say "STEP leave1"; (try dsimp only)) | fail "no step")
    refine Park.in ?_
    refine LCt.CompSrcT.range (by rfl) (by k_asm) (by k_asm) (by assumption) (small_one (by decide) (by decide) (by omega) (by omega)) (rangeSize_nat _ _) (by rw [PySem.sizeLine_eq]; omega) ?_
    intro g5
    refine comp_rest (Quiet _) ?wwt ?wwf ⟨rfl, rfl⟩
    case wwt =>
      intro i5 t5 I5 oI5 C5 oC5 D5 m5 ys5 l5 h5 tk5 newsi5 E5 hi5 hy5 hq5 hC5 hx5 F5 N5 off5 ne5
      obtain ⟨rfl, rfl⟩ := hq5
      have hj5 : (1 + (i5 : Int)) < (partsOf K).length := by omega
      obtain ⟨p1, p2, p3⟩ := parts_gap hK1 (by omega) (j := 1 + (i5 : Int)) (by omega) hj5
      (try dsimp only)
      (try k_unmd)
      k_fold
      repeat' (first | (k_unfold; (try dsimp only)) | walk1 | (dsimp only; walk1) | (leave1; walk_say "STEP leave1"; (try dsimp only)) | fail "no step")
      exact ⟨h5, _, _, rfl, F5, N5, off5, rfl, rfl⟩
    case wwf =>
      intro ys5 l5 newsn5 hy5 hq5
      obtain ⟨rfl, rfl⟩ := hq5
      cases hy5
      intro D5 h5 tk5 F5 N5 off5
      k_with "compareOp NotEq ref ref" => (refine Park.out ?_)
      repeat' (first | (k_unfold; (try dsimp only)) | walk1 | (dsimp only; walk1) | (leave1; walk_say "STEP leave1"; (try dsimp only)) | fail "no step")
      refine Park.in ?_
      refine ne_intsK (vs := []) (ns := []) (us := []) (ms := []) (by is_list) .nil (by is_list) .nil (by ktr_units) ?_
      simp only [decide_true, Bool.not_true]
      repeat' (first | (k_unfold; (try dsimp only)) | walk1 | (dsimp only; walk1) | (leave1; walk_say "STEP leave1"; (try dsimp only)) | fail "no step")
      refine Park.in ?_
      rename_i oQ9 dQ9 hx2 tkx tx hx1 tky ta tb tc aR1 aR2 lx hx0 F6 N6 lt6
      have N7 : News (ghostOf s₁.heap [(59, 55), (52, 48)]) s₁.heap.objs.size hx0 ([(D8, W.listOf vs8.toArray k8), (I9, itR (1 + ((i9 + 1 : Nat) : Int)) (((P + 1 - 1).toNat : Int) - ((i9 + 1 : Nat) : Int))), (s₁.heap.objs.size + 1, oN9), (rw, rowObj tr 0), (s₁.heap.objs.size + 1 + 1, oQ9), (s₁.heap.objs.size + 1 + 1 + 1, oP), (55, tabObj #[]), (48, tabObj #[])] ++ tabs9) := news_sub N6 fun p hp => .tail _ (.tail _ hp)
      have ap7 : Apart [(D8, W.listOf vs8.toArray k8), (I9, itR (1 + ((i9 + 1 : Nat) : Int)) (((P + 1 - 1).toNat : Int) - ((i9 + 1 : Nat) : Int))), (s₁.heap.objs.size + 1, oN9), (rw, rowObj tr 0), (s₁.heap.objs.size + 1 + 1, oQ9), (s₁.heap.objs.size + 1 + 1 + 1, oP), (55, tabObj #[]), (48, tabObj #[])] tabs9 := apart_in (rest := [(rw, rowObj tr 0), (s₁.heap.objs.size + 1 + 1, op9), (s₁.heap.objs.size + 1 + 1 + 1, oP), (55, tabObj #[]), (48, tabObj #[])]) l8.2.2.2.2.2.2.2 hap9 ap9
      clear N6 lt6
      (try clear N5)
      (try clear off5)
      (try clear F5)
      (try clear F9)
      (try clear N9)
      (try clear F8)
      (try clear N8)
      (try clear aR2)
      (try clear aR1)
      simp only [List.cons_append, List.nil_append] at N7
      k_dflt (refine' for_local (h₀ := ghostOf s₁.heap [(59, 55), (52, 48)]) ?zza ?zzb ?_; (case zza => rfl); (case zzb => rfl))
      repeat' (first | (k_unfold; (try dsimp only)) | walk1 | (dsimp only; walk1) | (leave1; walk_say "STEP leave1"; (try dsimp only)) | fail "no step")
      rename News _ _ _ _ => N4
      rename Fr _ _ _ _ => F4
      refine' loc_loop (LInv PySem.Challenge.rw_go0003_01.prog w d m₀ [(D8, W.listOf vs8.toArray k8), (I9, itR (1 + ((i9 + 1 : Nat) : Int)) (((P + 1 - 1).toNat : Int) - ((i9 + 1 : Nat) : Int))), (s₁.heap.objs.size + 1, oN9), (rw, rowObj tr 0), (s₁.heap.objs.size + 1 + 1, oQ9), (s₁.heap.objs.size + 1 + 1 + 1, oP), (55, tabObj #[]), (48, tabObj #[])] D9.length) rfl (by assumption) (small_one (by decide) (by decide) (by omega) (by omega)) (rangeSize_nat _ _) F4 N4 (linv0 T9 ap7 G9) ?zzlt ?zzld
      case zzlt =>
        intro i7 t7 I7 m7 news7 hh7 tk7 E7 hi7 hJ7 F7 N7 hne7
        obtain ⟨tabs7, D7, u7, rfl, rfl, T7, ap8, G7, hD7⟩ := hJ7
        replace F7 := fr_most F7
        obtain ⟨M, hM⟩ : ∃ M, M = 1 + (i7 : Int) := ⟨_, rfl⟩
        rw [← hM] at F7
        have hM1 : 1 ≤ M := by omega
        have hM2 : M ≤ K := by omega
        (try simp only [List.cons_append, List.nil_append] at N7)
        (try dsimp only)
        (try k_unmd)
        k_fold
        k_with "eval Name" => ((with_reducible rename Fr _ _ _ _ => kF); refine' nameX_L kF most_at ?_ ?zza ?zzb; (case zza => rfl); (case zzb => rfl))
        repeat' (first | (k_unfold; (try dsimp only)) | walk1 | (dsimp only; walk1) | (leave1; walk_say "STEP leave1"; (try dsimp only)) | fail "no step")
        refine Park.in ?_
        k_dflt (refine' wins_all _ _ _ _ _ _ 14 K M _ _ _ D7 _ _ _ _ _ _ _ _ _ _ _ _ _ _ ((I7, itR (1 + ((i7 + 1 : Nat) : Int)) (((K + 1 - 1).toNat : Int) - ((i7 + 1 : Nat) : Int))) :: [(D8, W.listOf vs8.toArray k8), (I9, itR (1 + ((i9 + 1 : Nat) : Int)) (((P + 1 - 1).toNat : Int) - ((i9 + 1 : Nat) : Int))), (s₁.heap.objs.size + 1, oN9), (rw, rowObj tr 0), (s₁.heap.objs.size + 1 + 1, oQ9), (s₁.heap.objs.size + 1 + 1 + 1, oP), (55, tabObj #[]), (48, tabObj #[])]) tabs7 _ _ _ ?yy0 ?yy1 ?yy2 ?yy3 ?yy4 T7 (ap8.cons fun p hp => Ne.symm (hne7 p (List.mem_append_right _ hp))) G7 ?yy8 ?yy9 ?yya ?yyb ?yyN ?yyc ?yyd ?yye ?yyf ?_)
        case yyN => k_asm
        case yy0 => omega
        case yy1 => omega
        case yy2 => omega
        case yy3 => omega
        case yy4 => omega
        case yy8 =>
          have : 2 ^ K.toNat ≤ 2 ^ 13 := Nat.pow_le_pow_right (by decide) (by omega)
          omega
        case yy9 => k_asm
        case yya => k_asm
        case yyb => k_asm
        case yyc => k_asm
        case yyd => exact rfl
        case yye => ktr_room
        case yyf => ktr_units
        intro hh3 tk3 tabs5 D5 F5 N5 T5 ap5 G5 B5
        rw [wins_eq hK1 (by omega) hM1 hM2]
        simp only [List.cons_append, List.nil_append] at N5
        (try clear N7)
        (try clear F7)
        (try dsimp only)
        (try k_fold)
        have f7 := last_idx hK1 (show K ≤ 13 by omega)
        k_with "ite" => (refine' W.ite_neg ?iteB ?_; (case iteB => (rw [f7]; simp; done)))
        repeat' (first | (k_unfold; (try dsimp only)) | walk1 | (dsimp only; walk1) | (leave1; walk_say "STEP leave1"; (try dsimp only)) | fail "no step")
        (try dsimp only [LocPost])
        refine ⟨_, _, _, _, rfl, F5, N5, ?zzl1, tabs5, D5, _, rfl, rfl, T5, ap5.tail, G5, ?zzl2⟩
        case zzl1 => exact ap_ne hne7 ap5
        case zzl2 =>
          have : 2 ^ K.toNat ≤ 2 ^ 13 := Nat.pow_le_pow_right (by decide) (by omega)
          omega
      intro m6 news6 hh6 tk6 hJ6 F6 N6
      obtain ⟨tabs6, D6, u6, rfl, rfl, T6, ap6, G6, hD6⟩ := hJ6
      simp only [List.cons_append, List.nil_append] at N6
      (try clear F4)
      (try clear N4)
      (try clear N7)
      (try dsimp only)
      (try k_fold)
      have f7 := last_idx hK1 (show K ≤ 13 by omega)
      have hB6 : 2 ^ (K - lastI K).toNat ≤ 2 ^ 13 := Nat.pow_le_pow_right (by decide) (by omega)
      have hL6 : lastI K ≤ 13 := by omega
      have hD6a : D6.length ≤ 8192 * (14 + 14 * i9) := by omega
      have hD6b : D6.length + 2 ^ (K - lastI K).toNat ≤ 2000000 := by omega
      have hD6c : D6.length ≤ 8192 * (1 + 14 * (i9 + 1)) := by omega
      k_with "ite" => (first | (refine' W.ite_neg ?iteC ?_; (case iteC => exact Bool.false_ne_true)) | (refine' ite_two ?iteD ?iteE; (case' iteD => intro hgt); (case' iteE => intro hgt)))
      repeat' (first | (k_unfold; (try dsimp only)) | walk1 | (dsimp only; walk1) | (leave1; walk_say "STEP leave1"; (try dsimp only)) | fail "no step")
      case iteE =>
        exact turn_end F6 N6 ho9 dQ9 hap9 T6 ap6 G6 hD6c
      case iteD =>
        refine Park.in ?_
        rw [f7] at hgt
        have hgt' : K > lastI K := by simpa using hgt
        simp only [f7]
        k_dflt (refine' wins_all _ _ _ _ _ _ 14 (K - lastI K) (2 * lastI K) _ _ _ D6 _ _ _ _ _ _ _ _ _ _ _ _ _ _ [(D8, W.listOf vs8.toArray k8), (I9, itR (1 + ((i9 + 1 : Nat) : Int)) (((P + 1 - 1).toNat : Int) - ((i9 + 1 : Nat) : Int))), (s₁.heap.objs.size + 1, oN9), (rw, rowObj tr 0), (s₁.heap.objs.size + 1 + 1, oQ9), (s₁.heap.objs.size + 1 + 1 + 1, oP), (55, tabObj #[]), (48, tabObj #[])] tabs6 _ _ _ ?yy0 ?yy1 ?yy2 ?yy3 ?yy4 T6 ap6 G6 ?yy8 ?yy9 ?yya ?yyb ?yyN ?yyc ?yyd ?yye ?yyf ?_)
        case yyN => k_asm
        case yy0 => omega
        case yy1 => omega
        case yy2 => omega
        case yy3 => omega
        case yy4 => omega
        case yy8 => exact hD6b
        case yy9 => k_asm
        case yya => k_asm
        case yyb => k_asm
        case yyc => k_asm
        case yyd => exact rfl
        case yye => ktr_room
        case yyf => ktr_units
        intro hh3 tk3 tabs5 D5 F5 N5 T5 ap5 G5 B5
        rw [rest_eq hK1 (by omega) hgt']
        (try dsimp only)
        (try k_fold)
        repeat' (first | (k_unfold; (try dsimp only)) | walk1 | (dsimp only; walk1) | (leave1; walk_say "STEP leave1"; (try dsimp only)) | fail "no step")
        exact turn_end F5 N5 ho9 dQ9 hap9 T5 ap5 G5 (by omega))
end Mine
end
theorem PySem.Challenge.cw_go0003_01_holds : PySem.Challenge.rw_go0003_01.Holds := by
  exact Mine.law
