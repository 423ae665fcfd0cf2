import PyProof.Rows.All
import Wide.All
import OpenK.AllK
import Wide.FinOn
import PySem.Challenge.RW_bg0021_01
set_option Elab.async false
set_option rowWalk.seconds 0

-- part MHead
section
open PySem PySem.W PyProof.Rows
namespace Mine
set_option maxRecDepth 100000 in
set_option maxHeartbeats 8000000 in
open_top hd for PySem.Challenge.rw_bg0021_01
end Mine
end

-- part MLoops
section
open PySem PySem.W PySem.Spec PySem.Calls PyProof.Rows
namespace Mine

theorem drop_news {h₀ h : Heap} {L : Addr} {news news' : List (Addr × Obj)} (N : News h₀ L h news') (hs : ∀ p ∈ news, p ∈ news') : News h₀ L h news := fun p hp => N p (hs p hp)

theorem end_list {h₀ h : Heap} {L D : Addr} {ys : List Value} {n : Nat} {news more : List (Addr × Obj)} (N : News h₀ L h ((D, listOf ys.toArray n) :: more)) (hs : ∀ p ∈ news, p ∈ more) : News h₀ L h ((D, listOf ys.toArray n) :: news) :=
  fun p hp => (List.mem_cons.mp hp).elim (fun e => N p (e ▸ .head _)) fun hp => N p (.tail _ (hs p hp))
theorem allLt_mem {d : Addr} : ∀ {l : List (Addr × Obj)}, AllLt d l → ∀ p ∈ l, p.1 < d
  | [], _, _, h => nomatch h
  | _ :: _, x, p, h => by
    rcases List.mem_cons.mp h with rfl | h
    · exact x.1
    · exact allLt_mem x.2 p h

/-- the end of a loop's turn that turns one int `y` and forgets the names of `fg` -/
def TEnd (h₀ : Heap) (L : Addr) (m₀ : Str → Option Value) (news own : List (Addr × Obj)) (x y : Str) (fg : List Str) (v : Int) (s₁ s₂ : Shared) : Prop :=
  ∃ h' tk m' news' t, s₂ = { s₁ with heap := h', toks := tk } ∧ Fr h₀ L h' m' ∧ News h₀ L h' news' ∧ m' y = some (.int v t) ∧ (∀ z, z ≠ x → z ≠ y → fg.contains z = false → m' z = m₀ z) ∧ (∀ p ∈ news, p ∈ news') ∧ (∀ p ∈ own, p ∈ news')
def TPost (h₀ : Heap) (L : Addr) (m₀ : Str → Option Value) (news own : List (Addr × Obj)) (x y : Str) (fg : List Str) (v : Int) (s₁ : Shared) (Q : Flow → Shared → Prop) (f : Flow) (s₂ : Shared) : Prop :=
  match f with
  | .ret v => Q (.ret v) s₂
  | .brk => Q .next s₂
  | _ => TEnd h₀ L m₀ news own x y fg v s₁ s₂
theorem TEnd.intro {h₀ : Heap} {L : Addr} {m' m₀ : Str → Option Value} {own news news' : List (Addr × Obj)} {s₁ : Shared} {h' : Heap} {tk : Nat} {x y : Str} {fg : List Str} {v v' : Int} {t : Tok} (F : Fr h₀ L h' m') (N : News h₀ L h' news') (hc : m' y = some (.int v t)) (e : v = v')
    (hz : ∀ z, z ≠ x → z ≠ y → fg.contains z = false → m' z = m₀ z) (hm : ∀ p ∈ news, p ∈ news') (ho : ∀ p ∈ own, p ∈ news') :
    TEnd h₀ L m₀ news own x y fg v' s₁ { s₁ with heap := h', toks := tk } := ⟨h', tk, m', news', t, rfl, F, N, by rw [hc, e], hz, hm, ho⟩

section
variable {prog : Program} {w : World} {A : Around} {E : Value → Shared → Prop} {s : Shared} {env : Env} {h₀ : Heap} {x : Str} {body : List Stmt} {Q : Flow → Shared → Prop}

theorem TPost.toInv {h₀ : Heap} {L : Addr} {m₀ : Str → Option Value} {own news : List (Addr × Obj)} {x y : Str} {fg : List Str} {v : Int} {s₁ : Shared} {Q : Flow → Shared → Prop} {f : Flow} {s₂ : Shared} (J : (Str → Option Value) → List (Addr × Obj) → Prop)
    (hj : ∀ m' t, m' y = some (.int v t) → (∀ z, z ≠ x → z ≠ y → fg.contains z = false → m' z = m₀ z) → J m' news)
    (p : TPost h₀ L m₀ news own x y fg v s₁ Q f s₂) : InvPostN h₀ L J own (news.map (·.1)) s₁ Q f s₂ := by
  have up : TEnd h₀ L m₀ news own x y fg v s₁ s₂ → InvEndN h₀ L J own (news.map (·.1)) s₁ s₂ := by
    rintro ⟨h', tk, m', news', t, e, F', N', hc, hz, hm, ho⟩
    exact ⟨h', tk, m', news', news, e, F', N', hm, ho, rfl, hj m' t hc hz⟩
  cases f with
  | ret v => exact p
  | brk => exact p
  | next => exact up p
  | cont => exact up p

/-- a loop over a list of the ledger that turns one int; the names of `fg` are forgotten -/
theorem loopL {l : Addr} {vs : List Value} {ns : List Int} {nn : Nat} {m₀ : Str → Option Value} {news : List (Addr × Obj)} {y : Str} {a₀ : Int} (g : Int → Int → Int) (fg : List Str)
    (hh : A.handled = none) (hl : (l, listOf vs.toArray nn) ∈ news) (hi : IntsAre vs ns) (F : Fr h₀ env.locals s.heap m₀) (N : News h₀ env.locals s.heap news) (hy : ∃ t₀, m₀ y = some (.int a₀ t₀))
    (turn : ∀ n t a ta (u : Str → Option Value) h tk own, n ∈ ns → OwnOff own (news.map (·.1)) → Fr h₀ env.locals h (fun z => if z = x then some (.int n t) else if z = y then some (.int a ta) else if fg.contains z then u z else m₀ z) → News h₀ env.locals h (news ++ own) →
      wpAny (model prog w) A (execs body env) (TPost h₀ env.locals m₀ news own x y fg (g a n) { s with heap := h, toks := tk } Q) E { s with heap := h, toks := tk })
    (done : ∀ (u : Str → Option Value) t h tk, Fr h₀ env.locals h (fun z => if z = x then u z else if z = y then some (.int (ns.foldl g a₀) t) else if fg.contains z then u z else m₀ z) → News h₀ env.locals h news → Q .next { s with heap := h, toks := tk }) :
    wpAny (model prog w) A (pyIter (.ref l)) (fun it s₂ => LoopAtV prog w A h₀ env x body Q E it s₂) E s := by
  refine iter_invNL (fun i m nx => nx = news ∧ (∃ t', m y = some (.int ((ns.take i).foldl g a₀) t')) ∧ ∀ z, z ≠ x → z ≠ y → fg.contains z = false → m z = m₀ z) hh hl hi F N ⟨rfl, by simpa using hy, fun _ _ _ _ => rfl⟩ ?_ ?_
  · rintro i n t m₁ news₁ h tk own hn _ hoff _ ⟨rfl, ⟨ta, hm⟩, ho⟩ F₁ N₁
    have hmap : (fun z => if z = x then some (Value.int n t) else m₁ z) = fun z => if z = x then some (.int n t) else if z = y then some (.int ((ns.take i).foldl g a₀) ta) else if fg.contains z then m₁ z else m₀ z := by
      funext z; by_cases h1 : z = x <;> simp only [h1, if_true, if_false]
      by_cases h2 : z = y <;> simp only [h2, if_true, if_false]
      · exact hm
      · cases h3 : fg.contains z with
        | true => simp
        | false => simp only [Bool.false_eq_true, if_false]; exact ho z h1 h2 h3
    rw [hmap] at F₁
    have hs : (ns.take (i + 1)).foldl g a₀ = g ((ns.take i).foldl g a₀) n := by
      rw [List.take_add_one, hn]; simp
    exact wpAny_mono (turn n t _ ta m₁ h tk own (List.mem_of_getElem? hn) hoff F₁ N₁) (fun f s₂ p => p.toInv _ fun m' t hc hz => ⟨hl, rfl, ⟨t, by rw [hs]; exact hc⟩, hz⟩) fun _ _ e => e
  · rintro m₁ news₁ h tk _ ⟨rfl, ⟨t, hm⟩, ho⟩ F₁ N₁
    refine done m₁ t h tk ?_ N₁
    have hmap : (fun z => if z = x then m₁ z else if z = y then some (Value.int (ns.foldl g a₀) t) else if fg.contains z then m₁ z else m₀ z) = m₁ := by
      funext z; by_cases h1 : z = x <;> simp only [h1, if_true, if_false]
      by_cases h2 : z = y <;> simp only [h2, if_true, if_false]
      · rw [List.take_length] at hm; exact hm.symm
      · cases h3 : fg.contains z with
        | true => simp
        | false => simp only [Bool.false_eq_true, if_false]; exact (ho z h1 h2 h3).symm
    rw [hmap]; exact F₁

/-- the same over a range -/
theorem loopR {r : Addr} {a₀ b₀ : Int} {t₀ u₀ v₀ : Tok} {n : Nat} {m₀ : Str → Option Value} {news : List (Addr × Obj)} {y : Str} {c₀ : Int} (g : Int → Int → Int) (fg : List Str)
    (hh : A.handled = none) (hr : IsRange s.heap r a₀ b₀ 1 t₀ u₀ v₀) (hsmall : Builtin.Range.small a₀ b₀ 1 = true) (hn : Builtin.Range.rangeSize a₀ b₀ 1 = (n : Int)) (F : Fr h₀ env.locals s.heap m₀) (N : News h₀ env.locals s.heap news) (hy : ∃ tc, m₀ y = some (.int c₀ tc))
    (turn : ∀ k t a ta (u : Str → Option Value) h tk own, a₀ ≤ k → k < a₀ + (n : Int) → OwnOff own (news.map (·.1)) → Fr h₀ env.locals h (fun z => if z = x then some (.int k t) else if z = y then some (.int a ta) else if fg.contains z then u z else m₀ z) → News h₀ env.locals h (news ++ own) →
      wpAny (model prog w) A (execs body env) (TPost h₀ env.locals m₀ news own x y fg (g a k) { s with heap := h, toks := tk } Q) E { s with heap := h, toks := tk })
    (done : ∀ (u : Str → Option Value) t h tk, Fr h₀ env.locals h (fun z => if z = x then u z else if z = y then some (.int ((rangeKs a₀ n).foldl g c₀) t) else if fg.contains z then u z else m₀ z) → News h₀ env.locals h news → Q .next { s with heap := h, toks := tk }) :
    wpAny (model prog w) A (pyIter (.ref r)) (fun it s₂ => LoopAtV prog w A h₀ env x body Q E it s₂) E s := by
  obtain ⟨tc, hy⟩ := hy
  refine iter_rangeS (fun a m nx => nx = news ∧ (∃ t, m y = some (.int a t)) ∧ ∀ z, z ≠ x → z ≠ y → fg.contains z = false → m z = m₀ z) g c₀ hh hr hsmall hn F N ⟨rfl, ⟨tc, hy⟩, fun _ _ _ _ => rfl⟩ ?_ ?_
  · rintro k t a m₁ nx h tk own hk hoff ⟨rfl, ⟨ta, hm⟩, ho⟩ F₁ N₁
    have hmap : (fun z => if z = x then some (Value.int k t) else m₁ z) = fun z => if z = x then some (.int k t) else if z = y then some (.int a ta) else if fg.contains z then m₁ z else m₀ z := by
      funext z; by_cases h1 : z = x <;> simp only [h1, if_true, if_false]
      by_cases h2 : z = y <;> simp only [h2, if_true, if_false]
      · exact hm
      · cases h3 : fg.contains z with
        | true => simp
        | false => simp only [Bool.false_eq_true, if_false]; exact ho z h1 h2 h3
    rw [hmap] at F₁
    exact wpAny_mono (turn k t a ta m₁ h tk own (mem_rangeKs hk).1 (mem_rangeKs hk).2 hoff F₁ N₁) (fun f s₂ p => p.toInv _ fun m' t hc hz => ⟨rfl, ⟨t, hc⟩, hz⟩) fun _ _ e => e
  · rintro m₁ nx h tk ⟨rfl, ⟨t, hm⟩, ho⟩ F₁ N₁
    refine done m₁ t h tk ?_ N₁
    have hmap : (fun z => if z = x then m₁ z else if z = y then some (Value.int ((rangeKs a₀ n).foldl g c₀) t) else if fg.contains z then m₁ z else m₀ z) = m₁ := by
      funext z; by_cases h1 : z = x <;> simp only [h1, if_true, if_false]
      by_cases h2 : z = y <;> simp only [h2, if_true, if_false]
      · exact hm.symm
      · cases h3 : fg.contains z with
        | true => simp
        | false => simp only [Bool.false_eq_true, if_false]; exact (ho z h1 h2 h3).symm
    rw [hmap]; exact F₁
end
end Mine
end

-- part MLoop2
section
open PySem PySem.W PySem.Spec PySem.Calls PyProof.Rows
namespace Mine
/-- the end of a loop's turn that turns two ints `y`, `y'` -/
def TEnd2 (h₀ : Heap) (L : Addr) (m₀ : Str → Option Value) (news own : List (Addr × Obj)) (x y y' : Str) (v v' : Int) (s₁ s₂ : Shared) : Prop :=
  ∃ h' tk m' news' t t', s₂ = { s₁ with heap := h', toks := tk } ∧ Fr h₀ L h' m' ∧ News h₀ L h' news' ∧ m' y = some (.int v t) ∧ m' y' = some (.int v' t') ∧ (∀ z, z ≠ x → z ≠ y → z ≠ y' → m' z = m₀ z) ∧ (∀ p ∈ news, p ∈ news') ∧ (∀ p ∈ own, p ∈ news')
def TPost2 (h₀ : Heap) (L : Addr) (m₀ : Str → Option Value) (news own : List (Addr × Obj)) (x y y' : Str) (v v' : Int) (s₁ : Shared) (Q : Flow → Shared → Prop) (f : Flow) (s₂ : Shared) : Prop :=
  match f with
  | .ret v => Q (.ret v) s₂
  | .brk => Q .next s₂
  | _ => TEnd2 h₀ L m₀ news own x y y' v v' s₁ s₂
theorem TEnd2.intro {h₀ : Heap} {L : Addr} {m' m₀ : Str → Option Value} {own news news' : List (Addr × Obj)} {s₁ : Shared} {h' : Heap} {tk : Nat} {x y y' : Str} {v v' u u' : Int} {t t' : Tok} (F : Fr h₀ L h' m') (N : News h₀ L h' news') (hc : m' y = some (.int u t)) (hc' : m' y' = some (.int u' t')) (e : u = v) (e' : u' = v')
    (hz : ∀ z, z ≠ x → z ≠ y → z ≠ y' → m' z = m₀ z) (hm : ∀ p ∈ news, p ∈ news') (ho : ∀ p ∈ own, p ∈ news') :
    TEnd2 h₀ L m₀ news own x y y' v v' s₁ { s₁ with heap := h', toks := tk } := ⟨h', tk, m', news', t, t', rfl, F, N, by rw [hc, e], by rw [hc', e'], hz, hm, ho⟩
theorem TPost2.toInv {h₀ : Heap} {L : Addr} {m₀ : Str → Option Value} {own news : List (Addr × Obj)} {x y y' : Str} {v v' : Int} {s₁ : Shared} {Q : Flow → Shared → Prop} {f : Flow} {s₂ : Shared} (J : (Str → Option Value) → List (Addr × Obj) → Prop)
    (hj : ∀ m' t t', m' y = some (.int v t) → m' y' = some (.int v' t') → (∀ z, z ≠ x → z ≠ y → z ≠ y' → m' z = m₀ z) → J m' news)
    (p : TPost2 h₀ L m₀ news own x y y' v v' s₁ Q f s₂) : InvPostN h₀ L J own (news.map (·.1)) s₁ Q f s₂ := by
  have up : TEnd2 h₀ L m₀ news own x y y' v v' s₁ s₂ → InvEndN h₀ L J own (news.map (·.1)) s₁ s₂ := by
    rintro ⟨h', tk, m', news', t, t', e, F', N', hc, hc', hz, hm, ho⟩
    exact ⟨h', tk, m', news', news, e, F', N', hm, ho, rfl, hj m' t t' hc hc' hz⟩
  cases f with
  | ret v => exact p
  | brk => exact p
  | next => exact up p
  | cont => exact up p
section
variable {prog : Program} {w : World} {A : Around} {E : Value → Shared → Prop} {s : Shared} {env : Env} {h₀ : Heap} {x : Str} {body : List Stmt} {Q : Flow → Shared → Prop}
theorem foldl_inv {σ : Type} (P : σ → Prop) (g : σ → Int → σ) : ∀ (ks : List Int) (c : σ), P c → (∀ c k, k ∈ ks → P c → P (g c k)) → P (ks.foldl g c)
  | [], _, h, _ => h
  | k :: r, c, h, hs => foldl_inv P g r (g c k) (hs c k (.head _) h) fun c' k' hk => hs c' k' (.tail _ hk)
/-- a loop over a range that turns two ints, between the turns `Inv` -/
theorem loopR2 {r : Addr} {a₀ b₀ : Int} {t₀ u₀ v₀ : Tok} {n : Nat} {m₀ : Str → Option Value} {news : List (Addr × Obj)} {y y' : Str} {c₀ : Int × Int} (g : Int × Int → Int → Int × Int) (Inv : Int × Int → Prop)
    (hI0 : Inv c₀) (hIs : ∀ c k, a₀ ≤ k → k < a₀ + (n : Int) → Inv c → Inv (g c k))
    (hh : A.handled = none) (hr : IsRange s.heap r a₀ b₀ 1 t₀ u₀ v₀) (hsmall : Builtin.Range.small a₀ b₀ 1 = true) (hn : Builtin.Range.rangeSize a₀ b₀ 1 = (n : Int)) (F : Fr h₀ env.locals s.heap m₀) (N : News h₀ env.locals s.heap news) (hy : ∃ tc, m₀ y = some (.int c₀.1 tc)) (hy' : ∃ tc, m₀ y' = some (.int c₀.2 tc))
    (turn : ∀ k t a ta b tb h tk own, a₀ ≤ k → k < a₀ + (n : Int) → Inv (a, b) → OwnOff own (news.map (·.1)) → Fr h₀ env.locals h (fun z => if z = x then some (.int k t) else if z = y then some (.int a ta) else if z = y' then some (.int b tb) else m₀ z) → News h₀ env.locals h (news ++ own) →
      wpAny (model prog w) A (execs body env) (TPost2 h₀ env.locals m₀ news own x y y' (g (a, b) k).1 (g (a, b) k).2 { s with heap := h, toks := tk } Q) E { s with heap := h, toks := tk })
    (done : ∀ (u : Str → Option Value) t t' h tk, Fr h₀ env.locals h (fun z => if z = x then u z else if z = y then some (.int ((rangeKs a₀ n).foldl g c₀).1 t) else if z = y' then some (.int ((rangeKs a₀ n).foldl g c₀).2 t') else m₀ z) → News h₀ env.locals h news → Q .next { s with heap := h, toks := tk }) :
    wpAny (model prog w) A (pyIter (.ref r)) (fun it s₂ => LoopAtV prog w A h₀ env x body Q E it s₂) E s := by
  obtain ⟨tc, hy⟩ := hy
  obtain ⟨tc', hy'⟩ := hy'
  refine iter_rangeS (σ := Int × Int) (fun a m nx => Inv a ∧ nx = news ∧ (∃ t, m y = some (.int a.1 t)) ∧ (∃ t, m y' = some (.int a.2 t)) ∧ ∀ z, z ≠ x → z ≠ y → z ≠ y' → m z = m₀ z) g c₀ hh hr hsmall hn F N ⟨hI0, rfl, ⟨tc, hy⟩, ⟨tc', hy'⟩, fun _ _ _ _ => rfl⟩ ?_ ?_
  · rintro k t ⟨a, b⟩ m₁ nx h tk own hk hoff ⟨hI, rfl, ⟨ta, ha⟩, ⟨tb, hb⟩, ho⟩ F₁ N₁
    rw [map_two ha hb ho] at F₁
    exact wpAny_mono (turn k t a ta b tb h tk own (mem_rangeKs hk).1 (mem_rangeKs hk).2 hI hoff F₁ N₁) (fun f s₂ p => p.toInv _ fun m' t t' hc hc' hz => ⟨hIs _ _ (mem_rangeKs hk).1 (mem_rangeKs hk).2 hI, rfl, ⟨t, hc⟩, ⟨t', hc'⟩, hz⟩) fun _ _ e => e
  · rintro m₁ nx h tk ⟨_, rfl, ⟨t, ha⟩, ⟨t', hb⟩, ho⟩ F₁ N₁
    refine done m₁ t t' h tk ?_ N₁
    rw [done_two ha hb ho]; exact F₁
end
end Mine
end

-- part MComp
section
open PySem PySem.W PySem.Spec PySem.Calls PyProof.Rows
namespace Mine
open PyProof.Rows.LCg

inductive Each {α : Type} (W : α → Value → Prop) : List α → List Value → Prop
  | nil : Each W [] []
  | cons {a : α} {v : Value} {as : List α} {vs : List Value} : W a v → Each W as vs → Each W (a :: as) (v :: vs)
theorem Each.snoc {α : Type} {W : α → Value → Prop} {a : α} {v : Value} (h : W a v) : ∀ {as : List α} {vs : List Value}, Each W as vs → Each W (as ++ [a]) (vs ++ [v])
  | _, _, .nil => .cons h .nil
  | _, _, .cons h' r => .cons h' (r.snoc h)
theorem Each.length {α : Type} {W : α → Value → Prop} : ∀ {as : List α} {vs : List Value}, Each W as vs → vs.length = as.length
  | _, _, .nil => rfl
  | _, _, .cons _ r => by simp [r.length]
theorem Each.ints {α : Type} {g : α → Int} : ∀ {as : List α} {vs : List Value}, Each (fun a v => ∃ t, v = .int (g a) t) as vs → IntsAre vs (as.map g)
  | _, _, .nil => .nil
  | _, _, .cons ⟨t, e⟩ r => by subst e; exact .cons _ t r.ints
theorem Each.strs {α : Type} {g : α → Str} : ∀ {as : List α} {vs : List Value}, Each (fun a v => ∃ t, v = .str (g a) t) as vs → StrsAre vs (as.map g)
  | _, _, .nil => .nil
  | _, _, .cons ⟨t, e⟩ r => by subst e; exact .cons _ t r.strs

/-- what a turn of a comprehension hands back: the ledger as it was, a value by `W` -/
def EltIs (W : Value → Prop) (news : List (Addr × Obj)) (y : Value) (news' : List (Addr × Obj)) : Prop := news' = news ∧ W y
theorem EltIs.int {v g : Int} {t : Tok} {news : List (Addr × Obj)} (e : v = g) : EltIs (fun y => ∃ t, y = .int g t) news (.int v t) news := ⟨rfl, t, by rw [e]⟩
theorem EltIs.str {v g : Str} {t : Tok} {news : List (Addr × Obj)} (e : v = g) : EltIs (fun y => ∃ t, y = .str g t) news (.str v t) news := ⟨rfl, t, by rw [e]⟩
/-- a mark that holds back the walk -/
def Hold (P : Prop) : Prop := P

section
variable {prog : Program} {w : World} {A : Around} {E : Value → Shared → Prop} {h₀ : Heap} {L : Addr} {m : Str → Option Value} {env : Env} {elt iter : Expr} {x : Str} {px : Pos} {scope : Scope} {cl : List (Str × Addr)} {s : Shared} {S : List (Addr × Obj) → Prop} {P : Nat → Value → Prop} {Fin : List Value → List (Addr × Obj) → Prop} {news : List (Addr × Obj)}

theorem rest_each {α : Type} {n : Nat} (items : List α) (V W : α → Value → Prop) (hn : items.length = n) (hP : ∀ i v, i < n → P i v → ∃ a, items[i]? = some a ∧ V a v)
    (turn : ∀ a v I oI C oC D m₂ ys h tk (E' : Value → Shared → Prop), a ∈ items → V a v → NsObj oC m₂ → m₂ x = some v → Fr h₀ L h m → News h₀ L h ((I, oI) :: (C, oC) :: (D, lst ys) :: news) → Off3 I C D news → ((@Ne Nat I C) ∧ (@Ne Nat I D) ∧ (@Ne Nat C D)) →
      wpAny (model prog w) A (eval elt (compEnvC scope cl C env)) (CompEnd h₀ L m { s with heap := h, toks := tk } I oI C oC D (lst ys) S (EltIs (W a) news)) E' { s with heap := h, toks := tk })
    (fin : ∀ ys, Each W items ys → Fin ys news) : CompRest prog w A h₀ L m env elt x scope cl s S P Fin n 0 [] news := by
  have key : ∀ (j i : Nat) (ys : List Value), i + j = n → Each W (items.take i) ys → CompRest prog w A h₀ L m env elt x scope cl s S P Fin j i ys news := by
    intro j
    induction j with
    | zero =>
      intro i ys hi hy
      have e : i = items.length := by omega
      subst e
      rw [List.take_length] at hy
      exact CompRest.zero (fin ys hy)
    | succ j ih =>
      intro i ys hi hy
      refine CompRest.succ ?_
      intro v I oI C oC D m₂ h tk E' hv hC hx F N off ne
      obtain ⟨a, ha, hV⟩ := hP i v (by omega) hv
      refine wpAny_mono (turn a v I oI C oC D m₂ ys h tk E' (List.mem_of_getElem? ha) hV hC hx F N off ne) (fun y s₂ hq => ?_) fun _ _ e => e
      obtain ⟨h', tk', nw, e, F', N', off', hS, hn, hy'⟩ := hq
      rw [hn] at N' off' hS
      refine ⟨h', tk', news, e, F', N', off', hS, ih (i + 1) _ (by omega) ?_⟩
      rw [List.take_add_one, ha]
      simpa using hy.snoc hy'
  exact key n 0 [] (by omega) (by simp only [List.take_zero]; exact .nil)

def TextSrc (prog : Program) (w : World) (A : Around) (h₀ : Heap) (L : Addr) (m : Str → Option Value) (env : Env) (elt : Expr) (x : Str) (scope : Scope) (cl : List (Str × Addr)) (Fin : Shared → List Value → List (Addr × Obj) → Prop) (xv : Value) (s₁ : Shared) : Prop :=
  ∃ xs t news, xv = .str xs t ∧ A.handled = none ∧ Fr h₀ L s₁.heap m ∧ News h₀ L s₁.heap news ∧ xs.cps.size ≤ sizeLine ∧
    ∀ s₂ : Shared, (∃ h, s₂ = { s₁ with heap := h }) → CompRest prog w A h₀ L m env elt x scope cl s₂ (fun _ => True) (SignAt xs) (Fin s₂) xs.cps.size 0 [] news

theorem TextSrc.intro {Fin : Shared → List Value → List (Addr × Obj) → Prop} {xs : Str} {t : Tok} {s₁ : Shared} (W : Nat → Value → Prop) (hh : A.handled = none) (F : Fr h₀ L s₁.heap m) (N : News h₀ L s₁.heap news) (hsz : xs.cps.size ≤ sizeLine)
    (turn : ∀ c u I oI C oC D m₂ ys h tk (E' : Value → Shared → Prop), c ∈ xs.cps.toList → NsObj oC m₂ → m₂ x = some (.str ⟨#[c]⟩ u) → Fr h₀ L h m → News h₀ L h ((I, oI) :: (C, oC) :: (D, lst ys) :: news) → Off3 I C D news → ((@Ne Nat I C) ∧ (@Ne Nat I D) ∧ (@Ne Nat C D)) →
      wpAny (model prog w) A (eval elt (compEnvC scope cl C env)) (CompEnd h₀ L m { s₁ with heap := h, toks := tk } I oI C oC D (lst ys) (fun _ => True) (EltIs (W c) news)) E' { s₁ with heap := h, toks := tk })
    (fin : Hold (∀ (g : Heap) ys, Each W xs.cps.toList ys → Fin { s₁ with heap := g } ys news)) : TextSrc prog w A h₀ L m env elt x scope cl Fin (.str xs t) s₁ :=
  ⟨xs, t, news, rfl, hh, F, N, hsz, fun _ ⟨g, e⟩ => e ▸ rest_each xs.cps.toList (fun c v => ∃ u, v = .str ⟨#[c]⟩ u) W (by simp) (fun i v _ ⟨c, u, hc, hv⟩ => ⟨c, by simpa using hc, u, hv⟩)
    (fun c v I oI C oC D m₂ ys h tk E' hc ⟨u, hv⟩ hC hx F N off ne => turn c u I oI C oC D m₂ ys h tk E' hc hC (hv ▸ hx) F N off ne) (fin g)⟩

theorem TextSrc.ints {Fin : Shared → List Value → List (Addr × Obj) → Prop} {xs : Str} {t : Tok} {s₁ : Shared} (g : Nat → Int) (hh : A.handled = none) (F : Fr h₀ L s₁.heap m) (N : News h₀ L s₁.heap news) (hsz : xs.cps.size ≤ sizeLine)
    (turn : ∀ c u I oI C oC D m₂ ys h tk (E' : Value → Shared → Prop), c ∈ xs.cps.toList → NsObj oC m₂ → m₂ x = some (.str ⟨#[c]⟩ u) → Fr h₀ L h m → News h₀ L h ((I, oI) :: (C, oC) :: (D, lst ys) :: news) → Off3 I C D news → ((@Ne Nat I C) ∧ (@Ne Nat I D) ∧ (@Ne Nat C D)) →
      wpAny (model prog w) A (eval elt (compEnvC scope cl C env)) (CompEnd h₀ L m { s₁ with heap := h, toks := tk } I oI C oC D (lst ys) (fun _ => True) (EltIs (fun v => ∃ t, v = .int (g c) t) news)) E' { s₁ with heap := h, toks := tk })
    (fin : Hold (∀ (gh : Heap) ys, IntsAre ys (xs.cps.toList.map g) → Fin { s₁ with heap := gh } ys news)) : TextSrc prog w A h₀ L m env elt x scope cl Fin (.str xs t) s₁ :=
  TextSrc.intro (fun c v => ∃ t, v = .int (g c) t) hh F N hsz turn fun gh ys hy => fin gh ys hy.ints

/-- a comprehension over a list of ints of the ledger, by its elements -/
theorem ledgerSrc {Fin : Shared → List Value → List (Addr × Obj) → Prop} {ax : Addr} {vs : List Value} {ns : List Int} {k : Nat} {s₁ : Shared} (W : Int → Value → Prop) (hh : A.handled = none) (F : Fr h₀ L s₁.heap m) (N : News h₀ L s₁.heap news) (hm : (ax, listOf vs.toArray k) ∈ news) (hi : IntsAre vs ns) (hsz : ns.length ≤ sizeLine)
    (turn : ∀ c u I oI C oC D m₂ ys h tk (E' : Value → Shared → Prop), c ∈ ns → NsObj oC m₂ → m₂ x = some (.int c u) → Fr h₀ L h m → News h₀ L h ((I, oI) :: (C, oC) :: (D, lst ys) :: news) → Off3 I C D news → ((@Ne Nat I C) ∧ (@Ne Nat I D) ∧ (@Ne Nat C D)) → SrcAt h₀ ax vs.toArray news →
      wpAny (model prog w) A (eval elt (compEnvC scope cl C env)) (CompEnd h₀ L m { s₁ with heap := h, toks := tk } I oI C oC D (lst ys) (SrcAt h₀ ax vs.toArray) (EltIs (W c) news)) E' { s₁ with heap := h, toks := tk })
    (fin : Hold (∀ (gh : Heap) ys, Each W ns ys → Fin { s₁ with heap := gh } ys news)) : CompSrc prog w A h₀ L m env elt x scope cl Fin (.ref ax) s₁ := by
  have hsz' : vs.toArray.size = ns.length := by simp [hi.length]
  refine CompSrc.ledger hh F N hm (by rw [hsz']; exact hsz) fun g => ?_
  have hS : SrcAt h₀ ax vs.toArray news := .inr ⟨_, hm, rfl, _, rfl⟩
  refine rest_each ns (fun c v => ∃ u, v = .int c u) W hsz'.symm (fun i v _ hv => ?_) (fun c v I oI C oC D m₂ ys h tk E' hc ⟨u, hv⟩ hC hx F N off ne => turn c u I oI C oC D m₂ ys h tk E' hc hC (hv ▸ hx) F N off ne hS) (fin g)
  obtain ⟨k, t, e, hk⟩ := IntsAre.at hi i v (by simpa using hv)
  exact ⟨k, hk, t, e⟩
theorem ledgerSrc.strs {Fin : Shared → List Value → List (Addr × Obj) → Prop} {ax : Addr} {vs : List Value} {ns : List Int} {k : Nat} {s₁ : Shared} (g : Int → Str) (hh : A.handled = none) (F : Fr h₀ L s₁.heap m) (N : News h₀ L s₁.heap news) (hm : (ax, listOf vs.toArray k) ∈ news) (hi : IntsAre vs ns) (hsz : ns.length ≤ sizeLine)
    (turn : ∀ c u I oI C oC D m₂ ys h tk (E' : Value → Shared → Prop), c ∈ ns → NsObj oC m₂ → m₂ x = some (.int c u) → Fr h₀ L h m → News h₀ L h ((I, oI) :: (C, oC) :: (D, lst ys) :: news) → Off3 I C D news → ((@Ne Nat I C) ∧ (@Ne Nat I D) ∧ (@Ne Nat C D)) → SrcAt h₀ ax vs.toArray news →
      wpAny (model prog w) A (eval elt (compEnvC scope cl C env)) (CompEnd h₀ L m { s₁ with heap := h, toks := tk } I oI C oC D (lst ys) (SrcAt h₀ ax vs.toArray) (EltIs (fun v => ∃ t, v = .str (g c) t) news)) E' { s₁ with heap := h, toks := tk })
    (fin : Hold (∀ (gh : Heap) ys, StrsAre ys (ns.map g) → Fin { s₁ with heap := gh } ys news)) : CompSrc prog w A h₀ L m env elt x scope cl Fin (.ref ax) s₁ :=
  ledgerSrc (fun c v => ∃ t, v = .str (g c) t) hh F N hm hi hsz turn fun gh ys hy => fin gh ys hy.strs

theorem text_st {ty : String} {xs : Str} {t : Tok} {I : Addr} : ∀ i (h h' : Heap) (o : Obj) (nw : List (Addr × Obj)), h.IsStrIter I ty xs t i → h.get? I = some o → h'.get? I = some o → (∀ b o, h₀.get? b = some o → h'.get? b = some o) → News h₀ L h' nw → True → h'.IsStrIter I ty xs t i :=
  fun i h h' o nw st e e' _ _ _ => by obtain ⟨o', q, r⟩ := st; rw [e] at q; cases q; exact ⟨o, e', r⟩

/-- a text's signs walked to the end of the comprehension, whichever of the two iterators the text has -/
theorem text_iter {pos : Pos} {Fin : Shared → List Value → List (Addr × Obj) → Prop} {xv : Value} {s₁ : Shared} {RR : Value → Addr → Result → Shared → Prop}
    (src : TextSrc prog w A h₀ L m env elt x scope cl Fin xv s₁) (hcell : ∀ y ∈ scope.names, y.2 ≠ .cell) (hkind : scope.kind = .function) (hx : scope.names.lookup x = some .local)
    (hRR : ∀ g D C h tk m' ys news', Fr h₀ L h m → News h₀ L h ((D, lst ys) :: news') → Off1 D news' → h.Ns C m' → h₀.get? C = none → C ≠ L → (∀ p ∈ (D, lst ys) :: news', p.1 ≠ C) → Fin { s₁ with heap := g } ys news' → RR (.ref D) C (.ok .next) { s₁ with heap := h, toks := tk }) :
    wpAny (model prog w) A (pyIter xv) (fun it s₂ => wpAny (model prog w) A (newList []) (fun acc s₃ => wpAny (model prog w) A (newFunctionEnv scope env.globals cl [] env.qual none .none (some env)) (fun cenv s₄ =>
      codeAny (model prog w) A (.compStart (.ListComp elt [⟨.Name x px, iter, [], 0⟩] scope pos) 0 it acc { cenv with scope := relabel scope env }) (RR acc cenv.locals) s₄) E s₃) E s₂) E s₁ := by
  obtain ⟨xs, t, news, rfl, hh, F, N, hsz, R⟩ := src
  have grow : ∀ o b o', s₁.heap.get? b = some o' → (s₁.heap.push o).get? b = some o' := fun o b o' e => Heap.get?_push_of_some _ e
  have room : ∀ o, ∀ b ∈ [s₁.heap.objs.size], b < (s₁.heap.push o).objs.size := fun o b hb => by
    rw [List.mem_singleton.mp hb, Heap.size_push]; exact Nat.lt_succ_self _
  have go : ∀ (ty : String) (_ : Walks prog w A s₁.heap.objs.size [s₁.heap.objs.size] [s₁.heap.objs.size] xs.cps.size (SignAt xs) (fun i h => h.IsStrIter s₁.heap.objs.size ty xs t i)) (o : Obj) (_ : (s₁.heap.push o).IsStrIter s₁.heap.objs.size ty xs t 0), _ :=
    fun ty W o st => block_U (pos := pos) (px := px) (iter := iter) (E := E) (RR := RR) (s₂ := { s₁ with heap := s₁.heap.push o }) W hsz (fun i h st => let ⟨o, e, _⟩ := st; ⟨o, e⟩) text_st hcell hkind hx st (room o) (F.keeps (grow o)) (N.grown (grow o)) (Nat.ne_of_lt F.ns.lt) (next_is_new F)
      (fun p hp => Nat.ne_of_lt (Heap.lt_size (N p hp).1)) trivial (R _ ⟨_, rfl⟩)
      fun D C h tk m' ys news' F' N' o1 hn hC₀ _ hCL _ hCD offC fin => hRR _ D C h tk m' ys news' F' N' o1 hn hC₀ hCL (fun p hp => (List.mem_cons.mp hp).elim (fun e => e ▸ Ne.symm hCD) (offC p)) fin
  cases ha : xs.cps.all (· < 128) with
  | false => exact wpAny_pyIter_wide ha (go _ (Walks.strWide hh _ xs t) _ ⟨_, Heap.get?_push_size _ rfl, rfl, rfl⟩)
  | true => exact wpAny_pyIter_ascii ha (go _ (Walks.strAscii hh _ xs t) _ ⟨_, Heap.get?_push_size _ rfl, rfl, rfl⟩)

theorem ListComp_T {pos : Pos} {Q : Value → Shared → Prop} (_F₀ : Fr h₀ L s.heap m)
    (hclos : closureFor scope env = pure cl) (hcell : ∀ y ∈ scope.names, y.2 ≠ .cell) (hkind : scope.kind = .function)
    (hnames : ∀ y ∈ scope.names, y.2 = .local → scope.names.lookup y.1 = some .local) (hx : scope.names.lookup x = some .local)
    (h : wpAny (model prog w) A (eval iter env) (TextSrc prog w A h₀ L m env elt x scope cl (fun s₂ => FinE h₀ L m s₂ Q)) E s)
    (hs : ∀ x, foldedSetIterable iter env x = pure x := by intro _; rfl) :
    wpAny (model prog w) A (eval (.ListComp elt [⟨.Name x px, iter, [], 0⟩] scope pos) env) Q E s := by
  rw [eval_ListComp]
  refine wpAny_comprehension_free (use := none) rfl hs hclos hkind hnames (wpAny_mono h (fun xv s₁ src => text_iter src hcell hkind hx ?_) fun _ _ e => e)
  intro g D C h tk m' ys news' F' N' o1 hn hC₀ hCL off fin
  exact ⟨m', hn, fun h'' same => fin D h'' tk (F'.change same hCL hC₀) (fun p hp => ⟨same.extBut _ _ (off p hp) (N' p hp).1, (N' p hp).2⟩) o1⟩

theorem Assign_ListComp_T {y : Str} {py : Pos} {pos spos : Pos} {Q : Flow → Shared → Prop} (_F₀ : Fr h₀ L s.heap m) (hLe : env.locals = L)
    (hsw : swapsWith (.ListComp elt [⟨.Name x px, iter, [], 0⟩] scope pos) (some (.Name y py)) spos.line env = pure true)
    (hclos : closureFor scope env = pure cl) (hcell : ∀ z ∈ scope.names, z.2 ≠ .cell) (hkind : scope.kind = .function)
    (hnames : ∀ z ∈ scope.names, z.2 = .local → scope.names.lookup z.1 = some .local) (hx : scope.names.lookup x = some .local)
    (hy : env.kindOf y = some .local) (hp : (env.scope.kind == .class || (env.scope.kind == .module && env.locals != env.globals)) = false)
    (h : wpAny (model prog w) A (eval iter env) (TextSrc prog w A h₀ L m env elt x scope cl (fun s₂ => FinA h₀ L m s₂ y Q)) E s)
    (hs : ∀ x, foldedSetIterable iter env x = pure x := by intro _; rfl) :
    wpAny (model prog w) A (exec (.Assign [.Name y py] (.ListComp elt [⟨.Name x px, iter, [], 0⟩] scope pos) spos) env) Q E s := by
  rw [exec_Assign_Name_used _ _ _ _ hsw]
  refine wpAny_bind (wpAny_standAt (wpAny_bind (wpAny_bind (wpAny_mono (wpAny_comprehension_free (use := some (assign (.Name y py) env)) (Q := fun _ s' => Q .next s') rfl hs hclos hkind hnames
    (wpAny_mono h (fun xv s₁ src => text_iter src hcell hkind hx ?_) fun _ _ e => e)) (fun _ s' hq => wpAny_pure (wpAny_pure hq)) fun _ _ e => e))))
  intro g D C h' tk m' ys news' F' N' o1 hn hC₀ hCL off fin
  subst hLe
  have new : h₀.get? env.locals = none := Heap.get?_none_of_le F'.above
  refine wpAny_assign_Name (wpAny_storeName_local hy F'.ns (fun h₂ hn₂ same₂ => ?_) hp)
  have F₂ : Fr h₀ env.locals h₂ (fun z => if z = y then some (.ref D) else m z) :=
    { ns := hn₂, keep := fun b o e => same₂.extBut b o (fun q => absurd (q ▸ e) (by rw [new]; exact nofun)) (F'.keep b o e), above := F'.above }
  exact ⟨m', hn.sameBut same₂ hCL, fun h'' same => fin D h'' _ (F₂.change same hCL hC₀)
    (fun p hp => ⟨same.extBut _ _ (off p hp) (same₂.extBut _ _ (N' p hp).2.1 (N' p hp).1), (N' p hp).2⟩) o1⟩
end
end Mine
end

-- part MText
section
open PySem PySem.W PySem.Spec PySem.Calls PyProof.Rows
namespace Mine
theorem cps_empty : (Str.ofString "").cps = #[] := by decide
theorem cps_one : (Str.ofString "1").cps = #[49] := by decide
theorem foldl_signs {α : Type} (f : α → Nat) : ∀ (l : List α) (a : Array Nat), (l.map fun d => (⟨#[f d]⟩ : Str)).foldl (fun acc p => acc ++ (Str.ofString "").cps ++ p.cps) a = a ++ (l.map f).toArray
  | [], a => by simp
  | d :: r, a => by
    rw [List.map_cons, List.foldl_cons, foldl_signs f r, cps_empty]
    simp
theorem join_signs {α : Type} (f : α → Nat) (l : List α) : Txt.join (Str.ofString "") (l.map fun d => (⟨#[f d]⟩ : Str)) = ⟨(l.map f).toArray⟩ := by
  show Builtin.Str.glued (Str.ofString "") _ = _
  unfold Builtin.Str.glued
  cases l with
  | nil => rfl
  | cons d r =>
    simp only [List.map_cons, List.drop_succ_cons, List.drop_zero, List.headD_cons]
    rw [foldl_signs]
    simp
section
variable {prog : Program} {w : World} {A : Around} {E : Value → Shared → Prop} {s : Shared} {t : Tok} {Q : Value → Shared → Prop} {α : Type} {D : Addr} {ys : List Value} {l : List α}
theorem join_text (f : α → Nat) (hl : s.heap.IsList D ys.toArray) (hc : StrsAre ys (l.map fun a => (⟨#[f a]⟩ : Str))) (hn : l.length ≤ 1048576)
    (h : ∀ t' k, Q (.str ⟨(l.map f).toArray⟩ t') { s with toks := k }) :
    wpAny (model prog w) A (call (.builtin "str.join") [.str (Str.ofString "") t, .ref D]) Q E s := by
  have hc' := hc.carried
  rw [List.map_map] at hc'
  refine KT.join_1 (l := l) (g := fun a => (⟨#[f a]⟩ : Str)) hl hc' (fun _ _ => rfl) hn fun t' k _ => ?_
  rw [join_signs f l]
  exact h t' k
end
end Mine
end

-- part MAt
section
open PySem PySem.W PySem.Spec PySem.Calls PyProof.Rows
namespace Mine
theorem getD_in {ns : List Int} {i d : Int} (h0 : 0 ≤ i) (h1 : i < ns.length) : ns.getD i.toNat 0 = ns.getD i.toNat d := by
  have h : i.toNat < ns.length := by omega
  rw [List.getD_eq_getElem?_getD, List.getD_eq_getElem?_getD, List.getElem?_eq_getElem h]
  rfl
theorem getD_out {ns : List Int} {i d : Int} (h0 : 0 ≤ i) (h1 : ¬ i < ns.length) : d = ns.getD i.toNat d := by
  have h : ns.length ≤ i.toNat := by omega
  rw [List.getD_eq_getElem?_getD, List.getElem?_eq_none h]
  rfl
set_option maxRecDepth 100000 in
set_option maxHeartbeats 8000000 in
theorem at_call : ∀ {w : World} {p : Program} {loose : List Str} {mean : ExcName → Option Value} {mg mb : Str → Option Value} {dp un : Nat} {gd : Option (List Code)} {cn : Str} {cs : Scope} {a : Addr} {ccd : Value} {cl : List (Str × Addr)} {outer : List Env} {A₀ : Around} {base h₀ : Heap} {L : Addr} {m : Str → Option Value} {news : List (Addr × Obj)} {s : Shared} {l : Addr} {vs : List Value} {ns : List Int} {i : Int} {ti : Tok} {d : Int} {td : Tok} {Q E : Value → Shared → Prop},
  Below A₀ base outer h₀ → Fr h₀ L s.heap m → (hd.heap_39 w.params).In h₀ → News h₀ L s.heap news → Top p loose mean mg mb h₀ → cs.kind = .function → base.IsList l vs.toArray → IntsAre vs ns → ns.length < 2 ^ 62 → 0 ≤ i → i < 2 ^ 62 → dp + 1 < recursionLimit → un + 8 < cLine →
  (∀ t h' tk', Fr h₀ L h' m → News h₀ L h' news → Q (.int (ns.getD i.toNat d) t) { s with heap := h', toks := tk' }) →
  wpAny (model PySem.Challenge.rw_bg0021_01.row.prog w) (ktrTop dp un gd cn cs L a ccd cl outer) (call (.ref 55) [.ref l, .int i ti, .int d td]) Q E s := by
  w_top off
  k_fill
  intro w p loose mean mg mb dp un gd cn cs a ccd cl outer A₀ base h₀ L m news s l vs ns i ti d td Q E B F X N T hk hl hi hfit h0 h1 hd' hu hret
  refine wpAny_call ?_
  k_dflt cell_enter
  k_steps
  · rw [getD_in (d := d) h0 (by assumption)]; exact hret _ _ _ (by assumption) (by assumption)
  · rw [getD_out (ns := ns) (d := d) h0 (by omega)]; exact hret _ _ _ (by assumption) (by assumption)
end Mine
end

-- part MTimes
section
open PySem PySem.W PySem.Spec PySem.Calls PyProof.Rows
namespace Mine
def timesG (b : Int) (p : Int × Int) (k : Int) : Int × Int := (if (b.fdiv (2 ^ k.toNat)).fmod 2 = 1 then Builtin.bitXor p.1 p.2 else p.1, if p.2 < 16 then 2 * p.2 else Builtin.bitXor (2 * p.2) 41)
def timesI (a b : Int) : Int := ((rangeKs 0 5).foldl (timesG b) (0, a)).1
theorem times_inv (b : Int) (c : Int × Int) (k : Int) (h : 0 ≤ c.2 ∧ c.2 < 32) : 0 ≤ (timesG b c k).2 ∧ (timesG b c k).2 < 32 := by
  obtain ⟨x, y⟩ := c
  dsimp only [timesG] at h ⊢
  split
  · omega
  · have : y = 16 ∨ y = 17 ∨ y = 18 ∨ y = 19 ∨ y = 20 ∨ y = 21 ∨ y = 22 ∨ y = 23 ∨ y = 24 ∨ y = 25 ∨ y = 26 ∨ y = 27 ∨ y = 28 ∨ y = 29 ∨ y = 30 ∨ y = 31 := by omega
    rcases this with rfl | rfl | rfl | rfl | rfl | rfl | rfl | rfl | rfl | rfl | rfl | rfl | rfl | rfl | rfl | rfl <;> decide
theorem times_1t {y a b k : Int} (h : (y.fdiv (2 ^ k.toNat)).fmod 2 = 1) : Builtin.bitXor a b = (timesG y (a, b) k).1 := by dsimp only [timesG]; rw [if_pos h]
theorem times_1f {y a b k : Int} (h : (y.fdiv (2 ^ k.toNat)).fmod 2 ≠ 1) : a = (timesG y (a, b) k).1 := by dsimp only [timesG]; rw [if_neg h]
theorem times_2t {y a b k : Int} (h : b < 16) : 2 * b = (timesG y (a, b) k).2 := by dsimp only [timesG]; rw [if_pos h]
theorem times_2f {y a b k : Int} (h : ¬ b < 16) : Builtin.bitXor (2 * b) 41 = (timesG y (a, b) k).2 := by dsimp only [timesG]; rw [if_neg h]
section
theorem loopT {prog : Program} {w : World} {A : Around} {E : Value → Shared → Prop} {s : Shared} {env : Env} {h₀ : Heap} {body : List Stmt} {Q : Flow → Shared → Prop} {r : Addr} {t₀ u₀ v₀ : Tok} {m₀ : Str → Option Value} {news : List (Addr × Obj)} {a b : Int} {ta tt : Tok}
    (_hb : m₀ (Str.ofString "b") = some (.int b tt)) (hy' : m₀ (Str.ofString "a") = some (.int a ta)) (hI : 0 ≤ a ∧ a < 32)
    (hh : A.handled = none) (hr : IsRange s.heap r 0 5 1 t₀ u₀ v₀) (F : Fr h₀ env.locals s.heap m₀) (N : News h₀ env.locals s.heap news) (hy : ∃ tc, m₀ (Str.ofString "told") = some (.int 0 tc))
    (turn : ∀ k t u tu a ta h tk own, 0 ≤ k → k < 5 → 0 ≤ a → a < 32 → OwnOff own (news.map (·.1)) → Fr h₀ env.locals h (fun z => if z = Str.ofString "k" then some (.int k t) else if z = Str.ofString "told" then some (.int u tu) else if z = Str.ofString "a" then some (.int a ta) else m₀ z) → News h₀ env.locals h (news ++ own) →
      wpAny (model prog w) A (execs body env) (TPost2 h₀ env.locals m₀ news own (Str.ofString "k") (Str.ofString "told") (Str.ofString "a") (timesG b (u, a) k).1 (timesG b (u, a) k).2 { s with heap := h, toks := tk } Q) E { s with heap := h, toks := tk })
    (done : ∀ (u : Str → Option Value) t t' h tk, Fr h₀ env.locals h (fun z => if z = Str.ofString "k" then u z else if z = Str.ofString "told" then some (.int (timesI a b) t) else if z = Str.ofString "a" then some (.int ((rangeKs 0 5).foldl (timesG b) (0, a)).2 t') else m₀ z) → News h₀ env.locals h news → Q .next { s with heap := h, toks := tk }) :
    wpAny (model prog w) A (pyIter (.ref r)) (fun it s₂ => LoopAtV prog w A h₀ env (Str.ofString "k") body Q E it s₂) E s :=
  loopR2 (n := 5) (c₀ := (0, a)) (timesG b) (fun c => 0 ≤ c.2 ∧ c.2 < 32) hI (fun c k _ _ h => times_inv b c k h) hh hr (by decide) (by decide) F N hy ⟨_, hy'⟩ (fun k t u tu a ta h tk own h1 h2 h3 => turn k t u tu a ta h tk own h1 (by omega) h3.1 h3.2) done
local macro_rules | `(tactic| walk_at "pyIter ref") => `(tactic| ((with_reducible show wpAny _ _ (pyIter (Value.ref _)) (fun it s₂ => LoopAtV _ _ _ _ _ _ _ _ _ it s₂) _ _); (rename Fr _ _ _ _ => lF'); (rename News _ _ _ _ => lN'); (with_unfolding_all refine' loopT (by rfl) (by rfl) (by assumption) (by rfl) (by assumption) lF' lN' ⟨_, by rfl⟩ (fun k' t' a' ta' b' tb' h' tk' own' hlo' hhi' hla' hha' hoff' F' N' => ?_) (fun u' t' t'' h' tk' F' N' => ?_)); (all_goals (try clear lF' lN')); (all_goals (try simp only [List.nil_append, List.cons_append, List.append_nil] at N')); (all_goals (try k_fold))))
local macro_rules | `(tactic| walk_at "exec For Name Call cons nil") => `(tactic| (k_here; (rename Fr _ _ _ _ => lF'); (with_unfolding_all refine' For_invVF lF' ?k1 ?k2 ?_; (case k1 => exact rfl); (case k2 => exact rfl); k_whole)))
local macro_rules | `(tactic| walk_at "TPost2") => `(tactic| dsimp only [TPost2])
local macro_rules | `(tactic| walk_at "mem_sub") => `(tactic| (intro p hp; simp only [List.mem_cons, List.mem_append] at hp ⊢; grind))

set_option maxRecDepth 100000 in
set_option maxHeartbeats 800000 in
theorem times_call : ∀ {w : World} {p : Program} {loose : List Str} {mean : ExcName → Option Value} {mg mb : Str → Option Value} {dp un : Nat} {gd : Option (List Code)} {cn : Str} {cs : Scope} {a : Addr} {ccd : Value} {cl : List (Str × Addr)} {outer : List Env} {A₀ : Around} {base h₀ : Heap} {L : Addr} {m : Str → Option Value} {news : List (Addr × Obj)} {s : Shared} {x y : Int} {tx ty : Tok} {Q E : Value → Shared → Prop},
  Below A₀ base outer h₀ → Fr h₀ L s.heap m → (hd.heap_39 w.params).In h₀ → News h₀ L s.heap news → Top p loose mean mg mb h₀ → cs.kind = .function → 0 ≤ x ∧ x < 32 → dp + 1 < recursionLimit → un + 8 < cLine →
  (∀ t h' tk', Fr h₀ L h' m → News h₀ L h' news → Q (.int (timesI x y) t) { s with heap := h', toks := tk' }) →
  wpAny (model PySem.Challenge.rw_bg0021_01.row.prog w) (ktrTop dp un gd cn cs L a ccd cl outer) (call (.ref 62) [.int x tx, .int y ty]) Q E s := by
  w_top off
  k_fill
  intro w p loose mean mg mb dp un gd cn cs a ccd cl outer A₀ base h₀ L m news s x y tx ty Q E B F X N T hk hx hd' hu hret
  refine wpAny_call ?_
  k_dflt cell_enter
  k_steps
  · refine TEnd2.intro (by assumption) (by assumption) (by with_unfolding_all rfl) (by with_unfolding_all rfl) (times_1t (by assumption)) (times_2t (by assumption)) ?_ (by walk_at "mem_sub") (by walk_at "mem_sub")
    intro z h1 h2 h3
    simp only [h1, h2, h3, if_false]
  · refine TEnd2.intro (by assumption) (by assumption) (by with_unfolding_all rfl) (by with_unfolding_all rfl) (times_1t (by assumption)) (times_2f (by assumption)) ?_ (by walk_at "mem_sub") (by walk_at "mem_sub")
    intro z h1 h2 h3
    simp only [h1, h2, h3, if_false]
  · refine TEnd2.intro (by assumption) (by assumption) (by with_unfolding_all rfl) (by with_unfolding_all rfl) (times_1f (by assumption)) (times_2t (by assumption)) ?_ (by walk_at "mem_sub") (by walk_at "mem_sub")
    intro z h1 h2 h3
    simp only [h1, h2, h3, if_false]
  · refine TEnd2.intro (by assumption) (by assumption) (by with_unfolding_all rfl) (by with_unfolding_all rfl) (times_1f (by assumption)) (times_2f (by assumption)) ?_ (by walk_at "mem_sub") (by walk_at "mem_sub")
    intro z h1 h2 h3
    simp only [h1, h2, h3, if_false]
  · exact hret _ _ _ (by assumption) (by assumption)
end
end Mine
end

-- part MExp
section
open PySem PySem.W PySem.Spec PySem.Calls PyProof.Rows
namespace Mine
def expandI (x : Str) : List Int := x.cps.toList.map (fun (c : Nat) => (c : Int).fdiv (2 ^ 5)) ++ [0] ++ x.cps.toList.map fun (c : Nat) => Builtin.bitAnd (c : Int) 31
section
local macro_rules | `(tactic| walk_at "last_lt") => `(tactic| ((rename (@LT.lt Nat _ _ _ ∧ _) => lq); (repeat (replace lq := lq.2)); exact allLt_mem lq))
local macro_rules | `(tactic| walk_at "mem_sub") => `(tactic| (intro p hp; simp only [List.mem_cons, List.mem_append] at hp ⊢; grind))
local macro_rules | `(tactic| walk_at "eval ListComp") => `(tactic| (k_here; k_dflt (refine ListComp_T (by k_asm) (by with_unfolding_all rfl) (by decide) (by rfl) (by decide) (by rfl) ?_)))
local macro_rules | `(tactic| walk_at "TextSrc") => `(tactic| (k_here; k_dflt (refine' TextSrc.ints _ (by rfl) (by k_asm) (by k_asm) (by rw [PySem.sizeLine_eq]; omega) (fun c' u' I' oI' C' oC' D' m' ys' h' tk' E' hc' hC' hx' F' N' off' ne' => ?_) ?_); kcf_last))
local macro_rules | `(tactic| kmk_sum) => `(tactic| ((simp only [PySem.sizeLine_eq, List.length_cons, List.length_nil, List.length_append, List.length_map, Array.length_toList]); omega))
local macro_rules | `(tactic| walk_at "CompEnd") => `(tactic| ((refine LCg.CompEnd.intro (by assumption) (by assumption) _ ?sub (by assumption) trivial (EltIs.int (by rfl))); (case sub => walk_at "mem_sub")))
local macro_rules | `(tactic| walk_at "Hold") => `(tactic| ((refine id (α := ∀ (_ : Heap), _) ?_); intro gh ys' hys' D' h' tk' F' N' o1'))
set_option maxRecDepth 100000 in
set_option maxHeartbeats 800000 in
theorem expand_call : ∀ {w : World} {p : Program} {loose : List Str} {mean : ExcName → Option Value} {mg mb : Str → Option Value} {dp un : Nat} {gd : Option (List Code)} {cn : Str} {cs : Scope} {a : Addr} {ccd : Value} {cl : List (Str × Addr)} {outer : List Env} {A₀ : Around} {base h₀ : Heap} {L : Addr} {m : Str → Option Value} {news : List (Addr × Obj)} {s : Shared} {x : Str} {tx : Tok} {Q E : Value → Shared → Prop},
  Below A₀ base outer h₀ → Fr h₀ L s.heap m → (hd.heap_39 w.params).In h₀ → News h₀ L s.heap news → Top p loose mean mg mb h₀ → cs.kind = .function → x.cps.size < 1000 → dp + 1 < recursionLimit → un + 8 < cLine →
  (∀ d ys h' tk' n, IntsAre ys (expandI x) → (∀ p ∈ news, p.1 < d) → Fr h₀ L h' m → News h₀ L h' ((d, listOf ys.toArray n) :: news) → Q (.ref d) { s with heap := h', toks := tk' }) →
  wpAny (model PySem.Challenge.rw_bg0021_01.row.prog w) (ktrTop dp un gd cn cs L a ccd cl outer) (call (.ref 26) [.str x tx]) Q E s := by
  w_top off
  k_fill
  intro w p loose mean mg mb dp un gd cn cs a ccd cl outer A₀ base h₀ L m news s x tx Q E B F X N T hk hx hd' hu hret
  refine wpAny_call ?_
  k_dflt cell_enter
  k_steps
  refine hret _ _ _ _ 0 (by assumption) (by walk_at "last_lt") (by assumption) (drop_news (by assumption) ?_)
  walk_at "mem_sub"
end
end Mine
end

-- part MPoly
section
open PySem PySem.W PySem.Spec PySem.Calls PyProof.Rows
namespace Mine
def gensI : List Int := [996825010, 642813549, 513874426, 1027748829, 705979059]
def turnI (top c i : Int) : Int := Builtin.bitXor c (if Builtin.bitAnd (top.fdiv (2 ^ i.toNat)) 1 = 0 then 0 else gensI.getD i.toNat 0)
def stepI (c v : Int) : Int := (rangeKs 0 5).foldl (turnI (c.fdiv (2 ^ 25))) (Builtin.bitXor (Builtin.bitAnd c 33554431 * 2 ^ 5) v)
theorem mask_bound (a : Int) : (Builtin.bitAnd a 33554431).natAbs < 2 ^ 64 := by
  have h : Builtin.bitAnd a 33554431 = a % 2 ^ 25 := kbt_mask a 25
  rw [h]
  omega
theorem turn_on {top a k : Int} (h : Builtin.bitAnd (top.fdiv (2 ^ k.toNat)) 1 ≠ 0) : Builtin.bitXor a (gensI.getD k.toNat 0) = turnI top a k := by
  unfold turnI; rw [if_neg h]
theorem turn_off {top a k : Int} (h : Builtin.bitAnd (top.fdiv (2 ^ k.toNat)) 1 = 0) : Builtin.bitXor a 0 = turnI top a k := by
  unfold turnI; rw [if_pos h]
theorem step_eq {a n : Int} : (rangeKs 0 5).foldl (turnI (a.fdiv (2 ^ Int.toNat 25))) (Builtin.bitXor (Builtin.bitAnd a 33554431 * 2 ^ Int.toNat 5) n) = stepI a n := rfl

section
theorem inner {prog : Program} {w : World} {A : Around} {E : Value → Shared → Prop} {s : Shared} {env : Env} {h₀ : Heap} {body : List Stmt} {Q : Flow → Shared → Prop} {r : Addr} {t₀ u₀ v₀ : Tok} {m₀ : Str → Option Value} {news : List (Addr × Obj)} {c₀ : Int} {top : Int} {tt : Tok}
    (_htop : m₀ (Str.ofString "top") = some (.int top tt))
    (hh : A.handled = none) (hr : IsRange s.heap r 0 5 1 t₀ u₀ v₀) (F : Fr h₀ env.locals s.heap m₀) (N : News h₀ env.locals s.heap news) (hy : ∃ tc, m₀ (Str.ofString "chk") = some (.int c₀ tc))
    (turn : ∀ k t a ta (u : Str → Option Value) h tk own, 0 ≤ k → k < 5 → OwnOff own (news.map (·.1)) → Fr h₀ env.locals h (fun z => if z = Str.ofString "i" then some (.int k t) else if z = Str.ofString "chk" then some (.int a ta) else if ([] : List Str).contains z then u z else m₀ z) → News h₀ env.locals h (news ++ own) →
      wpAny (model prog w) A (execs body env) (TPost h₀ env.locals m₀ news own (Str.ofString "i") (Str.ofString "chk") [] (turnI top a k) { s with heap := h, toks := tk } Q) E { s with heap := h, toks := tk })
    (done : ∀ (u : Str → Option Value) t h tk, Fr h₀ env.locals h (fun z => if z = Str.ofString "i" then u z else if z = Str.ofString "chk" then some (.int ((rangeKs 0 5).foldl (turnI top) c₀) t) else if ([] : List Str).contains z then u z else m₀ z) → News h₀ env.locals h news → Q .next { s with heap := h, toks := tk }) :
    wpAny (model prog w) A (pyIter (.ref r)) (fun it s₂ => LoopAtV prog w A h₀ env (Str.ofString "i") body Q E it s₂) E s :=
  loopR (n := 5) (turnI top) [] hh hr (by decide) (by decide) F N hy (fun k t a ta u h tk own h1 h2 => turn k t a ta u h tk own h1 (by omega)) done

local macro_rules | `(tactic| walk_at "pyIter ref") => `(tactic| ((with_reducible show wpAny _ _ (pyIter (Value.ref _)) (fun it s₂ => LoopAtV _ _ _ _ _ _ _ _ _ it s₂) _ _); (rename Fr _ _ _ _ => lF'); (rename News _ _ _ _ => lN'); (with_unfolding_all refine' loopL (y := Str.ofString "chk") stepI [Str.ofString "top", Str.ofString "i"] (by rfl) (by k_mem) (by assumption) lF' lN' ⟨_, by rfl⟩ (fun n' t' a' ta' u' h' tk' own' hmem' hoff' F' N' => ?_) (fun u' t' h' tk' F' N' => ?_)); (all_goals (try clear lF' lN')); (all_goals (try simp only [List.nil_append, List.cons_append, List.append_nil] at N')); (all_goals (try k_fold))))
local macro_rules | `(tactic| walk_at "pyIter ref") => `(tactic| ((with_reducible show wpAny _ _ (pyIter (Value.ref _)) (fun it s₂ => LoopAtV _ _ _ _ _ _ _ _ _ it s₂) _ _); (rename Fr _ _ _ _ => lF'); (rename News _ _ _ _ => lN'); (with_unfolding_all refine' inner (by rfl) (by rfl) (by assumption) lF' lN' ⟨_, by rfl⟩ (fun k' t' a' ta' u' h' tk' own' hlo' hhi' hoff' F' N' => ?_) (fun u' t' h' tk' F' N' => ?_)); (all_goals (try clear lF' lN')); (all_goals (try simp only [List.nil_append, List.cons_append, List.append_nil] at N')); (all_goals (try k_fold))))
local macro_rules | `(tactic| walk_at "binaryOp LShift int int") => `(tactic| (with_unfolding_all refine lshift_int_small (by decide) (by decide) (mask_bound _) ?_))
local macro_rules | `(tactic| walk_at "exec For Name Name cons nil") => `(tactic| (k_here; (rename Fr _ _ _ _ => lF'); (with_unfolding_all refine' For_invVF lF' ?k1 ?k2 ?_; (case k1 => exact rfl); (case k2 => exact rfl); k_whole)))
local macro_rules | `(tactic| walk_at "exec For Name Call cons nil") => `(tactic| (k_here; (rename Fr _ _ _ _ => lF'); (with_unfolding_all refine' For_invVF lF' ?k1 ?k2 ?_; (case k1 => exact rfl); (case k2 => exact rfl); k_whole)))
local macro_rules | `(tactic| walk_at "TPost") => `(tactic| dsimp only [TPost])
local macro_rules | `(tactic| walk_at "mem_sub") => `(tactic| (intro p hp; simp only [List.mem_cons, List.mem_append] at hp ⊢; grind))

set_option maxRecDepth 100000 in
set_option maxHeartbeats 800000 in
theorem polymod_call : ∀ {w : World} {p : Program} {loose : List Str} {mean : ExcName → Option Value} {mg mb : Str → Option Value} {dp un : Nat} {gd : Option (List Code)} {cn : Str} {cs : Scope} {a : Addr} {ccd : Value} {cl : List (Str × Addr)} {outer : List Env} {A₀ : Around} {base h₀ : Heap} {L : Addr} {m : Str → Option Value} {news : List (Addr × Obj)} {s : Shared} {l : Addr} {vs : List Value} {nn : Nat} {ns : List Int} {Q E : Value → Shared → Prop},
  Below A₀ base outer h₀ → Fr h₀ L s.heap m → (hd.heap_39 w.params).In h₀ → News h₀ L s.heap news → Top p loose mean mg mb h₀ → cs.kind = .function → (l, listOf vs.toArray nn) ∈ news → IntsAre vs ns → dp + 1 < recursionLimit → un + 8 < cLine →
  (∀ t h' tk', Fr h₀ L h' m → News h₀ L h' news → Q (.int (ns.foldl stepI 1) t) { s with heap := h', toks := tk' }) →
  wpAny (model PySem.Challenge.rw_bg0021_01.row.prog w) (ktrTop dp un gd cn cs L a ccd cl outer) (call (.ref 21) [.ref l]) Q E s := by
  w_top off
  k_fill
  intro w p loose mean mg mb dp un gd cn cs a ccd cl outer A₀ base h₀ L m news s l vs nn ns Q E B F X N₀ T hk hl hi hd' hu hret
  have N : News h₀ L s.heap ((l, listOf vs.toArray nn) :: news) := fun p hp => (List.mem_cons.mp hp).elim (fun e => e ▸ N₀ _ hl) (N₀ p)
  clear N₀
  refine wpAny_call ?_
  k_dflt cell_enter
  k_steps
  · refine TEnd.intro (by assumption) (by assumption) (by with_unfolding_all rfl) (turn_on (by assumption)) ?_ (by walk_at "mem_sub") (by walk_at "mem_sub")
    intro z h1 h2 h3
    simp only [h1, h2, h3, if_false, Bool.false_eq_true]
  · refine TEnd.intro (by assumption) (by assumption) (by with_unfolding_all rfl) (turn_off (by assumption)) ?_ (by walk_at "mem_sub") (by walk_at "mem_sub")
    intro z h1 h2 h3
    simp only [h1, h2, h3, if_false, Bool.false_eq_true]
  · refine TEnd.intro (by assumption) (by assumption) (by with_unfolding_all rfl) step_eq ?_ (by walk_at "mem_sub") (by walk_at "mem_sub")
    intro z h1 h2 h3
    have h4 : z ≠ Str.ofString "top" := fun e => by subst e; revert h3; decide
    have h5 : z ≠ Str.ofString "i" := fun e => by subst e; revert h3; decide
    simp only [h1, h2, h3, h4, h5, if_false, Bool.false_eq_true, List.contains_nil]
  · exact hret _ _ _ (by assumption) (drop_news (by assumption) (by walk_at "mem_sub"))
end
end Mine
end

-- part MVer
section
open PySem PySem.W PySem.Spec PySem.Calls PyProof.Rows
namespace Mine
section
local macro_rules | `(tactic| walk_at "mem_sub") => `(tactic| (intro p hp; simp only [List.mem_cons, List.mem_append] at hp ⊢; grind))
local macro_rules | `(tactic| kmk_sum) => `(tactic| ((simp only [PySem.sizeLine_eq, List.length_cons, List.length_nil, List.length_append, List.length_map, Array.length_toList, expandI]); omega))
local macro_rules | `(tactic| walk_at "call ref") => `(tactic| (k_here; (with_reducible show wpAny _ _ (call (Value.ref 26) _) _ _ _); k_dflt (refine' expand_call ?k1 ?k2 ?k3 ?k4 ?k5 ?kK ?kx ?kd ?ku ?_; (case k1 => k_asm); (case k2 => k_asm); (case k3 => k_asm); (case k4 => k_asm); (case k5 => k_asm); (case kK => first | exact rfl | assumption); (case kx => omega); (case kd => ktr_room); (case ku => ktr_units)); intro d9 y9 h9 tk9 n9 i9 l9 F9 N9; (try k_lt l9); (try dsimp only); (try k_fold)))
local macro_rules | `(tactic| walk_at "call ref") => `(tactic| (k_here; (with_reducible show wpAny _ _ (call (Value.ref 21) _) _ _ _); k_dflt (refine' polymod_call ?k1 ?k2 ?k3 ?k4 ?k5 ?kK ?kl ?ki ?kd ?ku ?_; (case k1 => k_asm); (case k2 => k_asm); (case k3 => k_asm); (case k4 => k_asm); (case k5 => k_asm); (case kK => first | exact rfl | assumption); (case kl => k_mem); (case ki => first | assumption | l_ints); (case kd => ktr_room); (case ku => ktr_units)); intro t9 h9 tk9 F9 N9; (try dsimp only); (try k_fold)))
set_option maxRecDepth 100000 in
set_option maxHeartbeats 800000 in
theorem verify_call : ∀ {w : World} {p : Program} {loose : List Str} {mean : ExcName → Option Value} {mg mb : Str → Option Value} {dp un : Nat} {gd : Option (List Code)} {cn : Str} {cs : Scope} {a : Addr} {ccd : Value} {cl : List (Str × Addr)} {outer : List Env} {A₀ : Around} {base h₀ : Heap} {L : Addr} {m : Str → Option Value} {news : List (Addr × Obj)} {s : Shared} {x : Str} {tx : Tok} {l : Addr} {vs : List Value} {nn : Nat} {ns : List Int} {Q E : Value → Shared → Prop},
  Below A₀ base outer h₀ → Fr h₀ L s.heap m → (hd.heap_39 w.params).In h₀ → News h₀ L s.heap news → Top p loose mean mg mb h₀ → cs.kind = .function → x.cps.size < 1000 → (l, listOf vs.toArray nn) ∈ news → IntsAre vs ns → ns.length < 1000 → dp + 3 < recursionLimit → un + 20 < cLine →
  (∀ h' tk', Fr h₀ L h' m → News h₀ L h' news → Q (.bool ((expandI x ++ ns).foldl stepI 1 == 1)) { s with heap := h', toks := tk' }) →
  wpAny (model PySem.Challenge.rw_bg0021_01.row.prog w) (ktrTop dp un gd cn cs L a ccd cl outer) (call (.ref 33) [.str x tx, .ref l]) Q E s := by
  w_top off
  k_fill
  intro w p loose mean mg mb dp un gd cn cs a ccd cl outer A₀ base h₀ L m news s x tx l vs nn ns Q E B F X N₀ T hk hx hl hi hn hd' hu hret
  have N : News h₀ L s.heap ((l, listOf vs.toArray nn) :: news) := fun p hp => (List.mem_cons.mp hp).elim (fun e => e ▸ N₀ _ hl) (N₀ p)
  clear N₀
  refine wpAny_call ?_
  k_dflt cell_enter
  k_steps
  exact hret _ _ (by assumption) (drop_news (by assumption) (by walk_at "mem_sub"))
end
end Mine
end

-- part MCre
section
open PySem PySem.W PySem.Spec PySem.Calls PyProof.Rows
namespace Mine
def createI (x : Str) (ns : List Int) : List Int := (rangeKs 0 6).map fun i => Builtin.bitAnd ((Builtin.bitXor ((expandI x ++ ns ++ [0, 0, 0, 0, 0, 0]).foldl stepI 1) 1).fdiv (2 ^ (5 * (5 - i)).toNat)) 31
section
local macro_rules | `(tactic| walk_at "tails") => `(tactic| repeat (first | assumption | refine List.Mem.tail _ ?_))
local macro_rules | `(tactic| walk_at "mem_sub") => `(tactic| (intro p hp; simp only [List.mem_cons, List.mem_append] at hp ⊢; grind))
local macro_rules | `(tactic| kmk_sum) => `(tactic| ((simp only [PySem.sizeLine_eq, List.length_cons, List.length_nil, List.length_append, List.length_map, Array.length_toList, expandI]); omega))
local macro_rules | `(tactic| walk_at "call ref") => `(tactic| (k_here; (with_reducible show wpAny _ _ (call (Value.ref 26) _) _ _ _); k_dflt (refine' expand_call ?k1 ?k2 ?k3 ?k4 ?k5 ?kK ?kx ?kd ?ku ?_; (case k1 => k_asm); (case k2 => k_asm); (case k3 => k_asm); (case k4 => k_asm); (case k5 => k_asm); (case kK => first | exact rfl | assumption); (case kx => omega); (case kd => ktr_room); (case ku => ktr_units)); intro d9 y9 h9 tk9 n9 i9 l9 F9 N9; (try k_lt l9); (try dsimp only); (try k_fold)))
local macro_rules | `(tactic| walk_at "call ref") => `(tactic| (k_here; (with_reducible show wpAny _ _ (call (Value.ref 21) _) _ _ _); k_dflt (refine' polymod_call ?k1 ?k2 ?k3 ?k4 ?k5 ?kK ?kl ?ki ?kd ?ku ?_; (case k1 => k_asm); (case k2 => k_asm); (case k3 => k_asm); (case k4 => k_asm); (case k5 => k_asm); (case kK => first | exact rfl | assumption); (case kl => k_mem); (case ki => first | assumption | l_ints); (case kd => ktr_room); (case ku => ktr_units)); intro t9 h9 tk9 F9 N9; (try dsimp only); (try k_fold)))
local macro_rules | `(tactic| walk_at "enterC") => `(tactic| (refine' code_defC ?k1 ?k2 ?k3 ?k4 ?k5 ?kA ?kF ?kK ?k6 ?k7 ?k8 ?k9 ?kB ?kD ?_ ?c2 ?c3 ?c4; (case kA => exact rfl); (case kF => exact rfl); (case kK => assumption); (case k1 => k_asm); (case k2 => k_asm); (case k3 => k_asm); (case k4 => k_asm); (case k5 => k_asm); (case k6 => k_is); (case k7 => k_is); (case k8 => ktr_room); (case k9 => first | exact BindsTo.of_eq rfl | exact binds_K (by k_in) rfl (by k_is) rfl rfl rfl); (case kB => exact rfl); (case kD => decide +kernel); (case c2 => exact rfl); (case c3 => exact rfl); (case c4 => exact rfl); k_whole; intro g' L' h' tk' cells' FG' F' N' Y' B' X' T' l1; (try k_lt l1); k_cells Y'; (try simp only [List.cons_append, List.nil_append] at N'); (try dsimp only); (try k_lift B'); (try k_fold)))
local macro_rules | `(tactic| k_all) => `(tactic| exact fun p hp => Nat.ne_of_lt (Nat.lt_of_lt_of_le (allLt_mem (by assumption) p hp) (by omega)))
set_option maxRecDepth 100000 in
set_option maxHeartbeats 800000 in
theorem create_call : ∀ {w : World} {p : Program} {loose : List Str} {mean : ExcName → Option Value} {mg mb : Str → Option Value} {dp un : Nat} {gd : Option (List Code)} {cn : Str} {cs : Scope} {a : Addr} {ccd : Value} {cl : List (Str × Addr)} {outer : List Env} {A₀ : Around} {base h₀ : Heap} {L : Addr} {m : Str → Option Value} {news : List (Addr × Obj)} {s : Shared} {x : Str} {tx : Tok} {l : Addr} {vs : List Value} {nn : Nat} {ns : List Int} {Q E : Value → Shared → Prop},
  Below A₀ base outer h₀ → Fr h₀ L s.heap m → (hd.heap_39 w.params).In h₀ → News h₀ L s.heap news → Top p loose mean mg mb h₀ → cs.kind = .function → x.cps.size < 1000 → (l, listOf vs.toArray nn) ∈ news → IntsAre vs ns → ns.length < 1000 → dp + 3 < recursionLimit → un + 20 < cLine →
  (∀ d ys h' tk' n, IntsAre ys (createI x ns) → Fr h₀ L h' m → News h₀ L h' ((d, listOf ys.toArray n) :: news) → Q (.ref d) { s with heap := h', toks := tk' }) →
  wpAny (model PySem.Challenge.rw_bg0021_01.row.prog w) (ktrTop dp un gd cn cs L a ccd cl outer) (call (.ref 38) [.str x tx, .ref l]) Q E s := by
  w_top off
  k_fill
  intro w p loose mean mg mb dp un gd cn cs a ccd cl outer A₀ base h₀ L m news s x tx l vs nn ns Q E B F X N₀ T hk hx hl hi hn hd' hu hret
  have N : News h₀ L s.heap ((l, listOf vs.toArray nn) :: news) := fun p hp => (List.mem_cons.mp hp).elim (fun e => e ▸ N₀ _ hl) (N₀ p)
  clear N₀
  refine wpAny_call ?_
  k_dflt walk_at "enterC"
  rename (_ ∧ AllLt _ news) => l1
  have l2 := l1.2
  k_steps
  exact hret _ _ _ _ _ (by assumption) (by assumption) (end_list (by assumption) (fun p hp => by walk_at "tails"))
end
end Mine
end

-- part MBit
section
open PySem PySem.W PySem.Spec PySem.Calls PyProof.Rows
namespace Mine
theorem xor_and_nat : ∀ (n a b : Nat), a ≤ n → (a ^^^ b) + 2 * (a &&& b) = a + b
  | 0, a, b, h => by
    have : a = 0 := by omega
    subst this
    simp
  | n + 1, a, b, h => by
    by_cases h0 : a = 0
    · subst h0; simp
    · have ih := xor_and_nat n (a / 2) (b / 2) (by omega)
      have e1 : (a ^^^ b) / 2 = a / 2 ^^^ b / 2 := Nat.xor_div_two
      have e2 : (a &&& b) / 2 = a / 2 &&& b / 2 := Nat.and_div_two
      have e3 : (a ^^^ b) % 2 = (a % 2) ^^^ (b % 2) := Nat.xor_mod_two_pow (n := 1)
      have e4 : (a &&& b) % 2 = (a % 2) &&& (b % 2) := Nat.and_mod_two_pow (n := 1)
      have ha : a % 2 = 0 ∨ a % 2 = 1 := by omega
      have hb : b % 2 = 0 ∨ b % 2 = 1 := by omega
      have k1 := Nat.div_add_mod (a ^^^ b) 2
      have k2 := Nat.div_add_mod (a &&& b) 2
      have k3 := Nat.div_add_mod a 2
      have k4 := Nat.div_add_mod b 2
      rw [e1, e3] at k1
      rw [e2, e4] at k2
      rcases ha with ha | ha <;> rcases hb with hb | hb <;> rw [ha, hb] at k1 k2 <;> rw [ha] at k3 <;> rw [hb] at k4 <;> simp at k1 k2 <;> omega
theorem xor_nn (a b : Nat) : Builtin.bitXor (a : Int) (b : Int) = ((a ^^^ b : Nat) : Int) := by
  rw [bitXor_and, bitAnd_pp (by omega) (by omega)]
  have := xor_and_nat a a b (Nat.le_refl _)
  simp only [Int.toNat_natCast]
  omega
theorem xor_low {a b k : Nat} (h : b < 2 ^ k) : (a * 2 ^ k) ^^^ b = a * 2 ^ k + b := by
  rw [Nat.mul_comm, Nat.two_pow_add_eq_or_of_lt h]
  refine Nat.eq_of_testBit_eq fun i => ?_
  rw [Nat.testBit_xor, Nat.testBit_or]
  by_cases hi : i < k
  · rw [Nat.testBit_two_pow_mul, decide_eq_false (by omega)]
    simp
  · rw [Nat.testBit_lt_two_pow (x := b) (Nat.lt_of_lt_of_le h (Nat.pow_le_pow_right (by decide) (by omega)))]
    simp
theorem xor_four (a b c d : Nat) : (a ^^^ b) ^^^ (c ^^^ d) = (a ^^^ c) ^^^ (b ^^^ d) := by
  rw [Nat.xor_assoc, Nat.xor_assoc, ← Nat.xor_assoc b, Nat.xor_comm b c, Nat.xor_assoc c]
theorem xor_cancel (a b : Nat) : a ^^^ (a ^^^ b) = b := by rw [← Nat.xor_assoc, Nat.xor_self, Nat.zero_xor]
def onN (b : Bool) (g : Nat) : Nat := if b then g else 0
theorem onN_xor (a b : Bool) (g : Nat) : onN (a ^^ b) g = onN a g ^^^ onN b g := by
  cases a <;> cases b <;> simp [onN]
def gN (t : Nat) : Nat := onN (t.testBit 0) 996825010 ^^^ (onN (t.testBit 1) 642813549 ^^^ (onN (t.testBit 2) 513874426 ^^^ (onN (t.testBit 3) 1027748829 ^^^ onN (t.testBit 4) 705979059)))
theorem gN_xor (a b : Nat) : gN (a ^^^ b) = gN a ^^^ gN b := by
  unfold gN
  simp only [Nat.testBit_xor, onN_xor]
  simp only [xor_four]
def stepN (c v : Nat) : Nat := ((c % 2 ^ 25 * 2 ^ 5) ^^^ v) ^^^ gN (c / 2 ^ 25)
theorem mul_xor (a b k : Nat) : (a ^^^ b) * 2 ^ k = (a * 2 ^ k) ^^^ (b * 2 ^ k) := by
  simp only [← Nat.shiftLeft_eq, Nat.shiftLeft_xor_distrib]
theorem stepN_xor (c d v e : Nat) : stepN (c ^^^ d) (v ^^^ e) = stepN c v ^^^ stepN d e := by
  unfold stepN
  rw [Nat.xor_mod_two_pow, Nat.xor_div_two_pow, gN_xor, mul_xor, xor_four _ _ v e, xor_four _ _ (gN (c / 2 ^ 25))]
theorem onN_lt (b : Bool) {g : Nat} (h : g < 2 ^ 30) : onN b g < 2 ^ 30 := by
  unfold onN; split
  · exact h
  · decide
theorem gN_lt (t : Nat) : gN t < 2 ^ 30 := by
  unfold gN
  exact Nat.xor_lt_two_pow (onN_lt _ (by decide)) (Nat.xor_lt_two_pow (onN_lt _ (by decide)) (Nat.xor_lt_two_pow (onN_lt _ (by decide)) (Nat.xor_lt_two_pow (onN_lt _ (by decide)) (onN_lt _ (by decide)))))
theorem stepN_lt {c v : Nat} (h : v < 32) : stepN c v < 2 ^ 30 := by
  unfold stepN
  refine Nat.xor_lt_two_pow (Nat.xor_lt_two_pow ?_ ?_) (gN_lt _)
  · have : c % 2 ^ 25 < 2 ^ 25 := Nat.mod_lt _ (by decide)
    omega
  · exact Nat.lt_trans h (by decide)
theorem stepN_low {c v : Nat} (h : c < 2 ^ 25) (hv : v < 32) : stepN c v = c * 32 + v := by
  unfold stepN
  rw [Nat.mod_eq_of_lt h, Nat.div_eq_of_lt h, show gN 0 = 0 by decide, Nat.xor_zero, xor_low (k := 5) hv]
theorem gN_low : ∀ t : Fin 32, gN t.val % 32 = 0 → t.val = 0 := by decide +kernel
theorem xor_eq_zero {a b : Nat} (h : a ^^^ b = 0) : a = b := by
  have := xor_cancel a b
  rw [h, Nat.xor_zero] at this
  exact this
theorem stepN_zero {c : Nat} (h : c < 2 ^ 30) (e : stepN c 0 = 0) : c = 0 := by
  unfold stepN at e
  rw [Nat.xor_zero] at e
  have e := xor_eq_zero e
  have ht : c / 2 ^ 25 < 32 := by omega
  have h1 := gN_low ⟨c / 2 ^ 25, ht⟩ (by show gN (c / 2 ^ 25) % 32 = 0; rw [← e]; omega)
  have h1 : c / 2 ^ 25 = 0 := h1
  rw [h1, show gN 0 = 0 by decide] at e
  omega
theorem fold_lin : ∀ {vs es : List Nat} (c d : Nat), vs.length = es.length → (List.zipWith (fun a b => a ^^^ b) vs es).foldl stepN (c ^^^ d) = vs.foldl stepN c ^^^ es.foldl stepN d
  | [], [], _, _, _ => rfl
  | v :: vs, e :: es, c, d, h => by
    rw [List.zipWith_cons_cons, List.foldl_cons, List.foldl_cons, List.foldl_cons, stepN_xor]
    exact fold_lin _ _ (by simpa using h)
theorem zip_zero : ∀ (vs : List Nat), List.zipWith (fun a b => a ^^^ b) vs (List.replicate vs.length 0) = vs
  | [] => rfl
  | v :: vs => by
    rw [List.length_cons, List.replicate_succ, List.zipWith_cons_cons, zip_zero vs, Nat.xor_zero]
theorem fold_err (vs : List Nat) (c d : Nat) : vs.foldl stepN (c ^^^ d) = vs.foldl stepN c ^^^ (List.replicate vs.length 0).foldl stepN d := by
  have := fold_lin (vs := vs) (es := List.replicate vs.length 0) c d (by simp)
  rw [zip_zero] at this
  exact this
theorem zeros_fold : ∀ (n d : Nat), d < 2 ^ 30 → d ≠ 0 → (List.replicate n 0).foldl stepN d ≠ 0
  | 0, _, _, h => h
  | n + 1, d, hd, h => by
    rw [List.replicate_succ, List.foldl_cons]
    exact zeros_fold n _ (stepN_lt (by decide)) fun e => h (stepN_zero hd e)
theorem zeros_fold0 : ∀ (n : Nat), (List.replicate n 0).foldl stepN 0 = 0
  | 0 => rfl
  | n + 1 => by
    rw [List.replicate_succ, List.foldl_cons, show stepN 0 0 = 0 by decide]
    exact zeros_fold0 n
def chgN (co : List Nat) (p : Nat) (ts : List Nat) : List Nat := co.take p ++ List.zipWith (fun a b => a ^^^ b) (co.drop p) ts ++ co.drop (p + ts.length)
theorem zip_take : ∀ (vs ts : List Nat), List.zipWith (fun a b => a ^^^ b) vs ts = List.zipWith (fun a b => a ^^^ b) (vs.take ts.length) ts
  | _, [] => by simp
  | [], _ :: _ => rfl
  | v :: vs, t :: ts => by
    rw [List.length_cons, List.take_succ_cons, List.zipWith_cons_cons, List.zipWith_cons_cons, ← zip_take vs ts]
theorem chg_fold (co ts : List Nat) (p s : Nat) (h : p + ts.length ≤ co.length) :
    (chgN co p ts).foldl stepN s = co.foldl stepN s ^^^ (List.replicate (co.length - (p + ts.length)) 0).foldl stepN (ts.foldl stepN 0) := by
  have e : co = co.take p ++ (co.drop p).take ts.length ++ co.drop (p + ts.length) := by
    rw [← List.drop_drop, List.append_assoc, List.take_append_drop, List.take_append_drop]
  unfold chgN
  rw [List.foldl_append, List.foldl_append, zip_take]
  have h1 := fold_lin (vs := (co.drop p).take ts.length) (es := ts) ((co.take p).foldl stepN s) 0 (by rw [List.length_take, List.length_drop]; omega)
  rw [Nat.xor_zero] at h1
  rw [h1, fold_err, List.length_drop]
  congr 1
  conv => rhs; rw [e]
  rw [List.foldl_append, List.foldl_append]
/-- the value of up to six digits -/
theorem fold_digits : ∀ (ts : List Nat) (c k : Nat), (∀ t ∈ ts, t < 32) → ts.length ≤ k → k ≤ 6 → c < 2 ^ (30 - 5 * k) → ts.foldl stepN c < 2 ^ 30 ∧ (ts.foldl stepN c = 0 → c = 0 ∧ ∀ t ∈ ts, t = 0)
  | [], c, k, _, _, hk, hc => ⟨Nat.lt_of_lt_of_le hc (Nat.pow_le_pow_right (by decide) (by omega)), fun e => ⟨e, fun _ h => nomatch h⟩⟩
  | t :: ts, c, k, ht, hl, hk, hc => by
    obtain ⟨k, rfl⟩ : ∃ j, k = j + 1 := ⟨k - 1, by rw [List.length_cons] at hl; omega⟩
    have h0 : t < 32 := ht t (.head _)
    have hc' : c < 2 ^ 25 := Nat.lt_of_lt_of_le hc (Nat.pow_le_pow_right (by decide) (by omega))
    have hp : 2 ^ (30 - 5 * k) = 2 ^ (30 - 5 * (k + 1)) * 32 := by
      rw [show 30 - 5 * k = 30 - 5 * (k + 1) + 5 by omega, Nat.pow_add]
    rw [List.foldl_cons, stepN_low hc' h0]
    have ih := fold_digits ts (c * 32 + t) k (fun x hx => ht x (.tail _ hx)) (by simpa using hl) (by omega) (by omega)
    refine ⟨ih.1, fun e => ?_⟩
    have ih2 := ih.2 e
    refine ⟨by omega, fun x hx => ?_⟩
    rcases List.mem_cons.mp hx with rfl | hx
    · omega
    · exact ih2.2 x hx
end Mine
end

-- part MEnc
section
open PySem PySem.W PySem.Spec PySem.Calls PyProof.Rows
namespace Mine
def charset : Str := Str.ofString "qpzry9x8gf2tvdw0s3jn54khce6mua7l"
def signOf (d : Int) : Nat := charset.cps.getD d.toNat 0
def signsS (ns : List Int) : Str := ⟨(ns.map signOf).toArray⟩
theorem createI_bound {x : Str} {ns : List Int} : ∀ d ∈ createI x ns, 0 ≤ d ∧ d < 32 := by
  intro d hd
  obtain ⟨i, _, rfl⟩ := List.mem_map.mp hd
  have h : ∀ y : Int, Builtin.bitAnd y 31 = y % 2 ^ 5 := fun y => kbt_mask y 5
  rw [h]
  omega
theorem item_sign_nat : ∀ n : Fin 32, Txt.item charset ((n.val : Nat) : Int) = ⟨#[signOf ((n.val : Nat) : Int)]⟩ := by decide +kernel
theorem item_sign {c : Int} (h : 0 ≤ c ∧ c < 32) : Txt.item (Str.ofString "qpzry9x8gf2tvdw0s3jn54khce6mua7l") c = ⟨#[signOf c]⟩ := by
  have e : c = ((c.toNat : Nat) : Int) := by omega
  have := item_sign_nat ⟨c.toNat, by omega⟩
  rw [e]; exact this
theorem charset_length : (Str.ofString "qpzry9x8gf2tvdw0s3jn54khce6mua7l").length = 32 := by decide
theorem createI_length {x : Str} {ns : List Int} : (createI x ns).length = 6 := by simp [createI, rangeKs_length]
section
local macro_rules | `(tactic| walk_at "tails") => `(tactic| repeat (first | assumption | refine List.Mem.tail _ ?_))
local macro_rules | `(tactic| walk_at "mem_sub") => `(tactic| (intro p hp; simp only [List.mem_cons, List.mem_append] at hp ⊢; grind))
local macro_rules | `(tactic| kmk_sum) => `(tactic| ((simp only [PySem.sizeLine_eq, List.length_cons, List.length_nil, List.length_append, List.length_map, Array.length_toList, createI_length]); omega))
local macro_rules | `(tactic| walk_at "call ref") => `(tactic| (k_here; (with_reducible show wpAny _ _ (call (Value.ref 38) _) _ _ _); k_dflt (refine' create_call ?k1 ?k2 ?k3 ?k4 ?k5 ?kK ?kx ?kl ?ki ?kn ?kd ?ku ?_; (case k1 => k_asm); (case k2 => k_asm); (case k3 => k_asm); (case k4 => k_asm); (case k5 => k_asm); (case kK => first | exact rfl | assumption); (case kx => omega); (case kl => k_mem); (case ki => first | assumption | l_ints); (case kn => omega); (case kd => ktr_room); (case ku => ktr_units)); intro d9 y9 h9 tk9 n9 i9 F9 N9; (try dsimp only); (try k_fold)))
local macro_rules | `(tactic| walk_at "eval ListComp") => `(tactic| (k_here; k_dflt (refine LCg.ListComp_U (by k_asm) (by with_unfolding_all rfl) (by decide) (by rfl) (by decide) (by rfl) ?_)))
local macro_rules | `(tactic| walk_at "CompSrc") => `(tactic| (k_here; k_dflt (refine' ledgerSrc.strs (fun d => ⟨#[signOf d]⟩) (by rfl) (by k_asm) (by k_asm) (by k_mem) (by assumption) (by kmk_sum) (fun c' u' I' oI' C' oC' D' m' ys' h' tk' E' hc' hC' hx' F' N' off' ne' hS' => ?_) ?_); kcf_last))
local macro_rules | `(tactic| walk_at "subscriptTail Name Name str int") => `(tactic| ((rename (_ ∈ (_ ++ createI _ _)) => hc''); (rename (∀ d ∈ (_ ++ createI _ _), _) => hbd'); (have hb'' := hbd' _ hc''); (refine item_str (fitsSsize_of (N := 9223372036854775808) (by omega) (by omega) (Int.le_refl _)) (by rw [charset_length]; omega) (by rw [charset_length]; omega) ?_); intro _))
local macro_rules | `(tactic| walk_at "CompEnd") => `(tactic| ((refine LCg.CompEnd.intro (by assumption) (by assumption) _ ?sub (by assumption) (by assumption) (EltIs.str ?val)); (case sub => walk_at "mem_sub"); (case val => exact item_sign (by assumption))))
local macro_rules | `(tactic| walk_at "call builtin:str.join") => `(tactic| (k_here; (rename StrsAre _ (List.map _ _) => sA'); (refine join_text signOf (News.isList (by k_asm) (by k_mem)) sA' ?len ?_); (case len => (simp only [List.length_append, createI_length]; omega)); intro _ _))
local macro_rules | `(tactic| walk_at "binaryOp Add str str") => `(tactic| (k_here; (try dsimp only); (refine add_str ?_ ?sz); (case sz => (rw [PySem.sizeLine_eq]; simp only [Str.length, Str.cps_append, Array.size_append, cps_one, List.size_toArray, List.length_map, List.length_append, createI_length, List.length_cons, List.length_nil]; omega)); intro _ _))
local macro_rules | `(tactic| walk_at "Hold") => `(tactic| ((refine id (α := ∀ (_ : Heap), _) ?_); intro gh ys' hys' D' h' tk' F' N' o1'))
set_option maxRecDepth 100000 in
set_option maxHeartbeats 800000 in
theorem encode_call : ∀ {w : World} {p : Program} {loose : List Str} {mean : ExcName → Option Value} {mg mb : Str → Option Value} {dp un : Nat} {gd : Option (List Code)} {cn : Str} {cs : Scope} {a : Addr} {ccd : Value} {cl : List (Str × Addr)} {outer : List Env} {A₀ : Around} {base h₀ : Heap} {L : Addr} {m : Str → Option Value} {news : List (Addr × Obj)} {s : Shared} {x : Str} {tx : Tok} {l : Addr} {vs : List Value} {nn : Nat} {ns : List Int} {Q E : Value → Shared → Prop},
  Below A₀ base outer h₀ → Fr h₀ L s.heap m → (hd.heap_39 w.params).In h₀ → News h₀ L s.heap news → Top p loose mean mg mb h₀ → cs.kind = .function → x.cps.size < 500 → (l, listOf vs.toArray nn) ∈ news → IntsAre vs ns → ns.length < 500 → (∀ d ∈ ns, 0 ≤ d ∧ d < 32) → dp + 4 < recursionLimit → un + 30 < cLine →
  (∀ t h' tk', Fr h₀ L h' m → News h₀ L h' news → Q (.str ⟨x.cps ++ #[49] ++ (signsS (ns ++ createI x ns)).cps⟩ t) { s with heap := h', toks := tk' }) →
  wpAny (model PySem.Challenge.rw_bg0021_01.row.prog w) (ktrTop dp un gd cn cs L a ccd cl outer) (call (.ref 43) [.str x tx, .ref l]) Q E s := by
  w_top off
  k_fill
  intro w p loose mean mg mb dp un gd cn cs a ccd cl outer A₀ base h₀ L m news s x tx l vs nn ns Q E B F X N₀ T hk hx hl hi hn hb hd' hu hret
  have N : News h₀ L s.heap ((l, listOf vs.toArray nn) :: news) := fun p hp => (List.mem_cons.mp hp).elim (fun e => e ▸ N₀ _ hl) (N₀ p)
  clear N₀
  have hbd : ∀ d ∈ ns ++ createI x ns, 0 ≤ d ∧ d < 32 := fun d hd => (List.mem_append.mp hd).elim (hb d) (createI_bound d)
  refine wpAny_call ?_
  k_dflt cell_enter
  k_steps
  have e : x ++ Str.ofString "1" ++ Str.mk (List.map signOf (ns ++ createI x ns)).toArray = ⟨x.cps ++ #[49] ++ (signsS (ns ++ createI x ns)).cps⟩ := Str.ext' (by rw [Str.cps_append, Str.cps_append, cps_one]; rfl)
  rw [e]
  exact hret _ _ _ (by assumption) (drop_news (by assumption) (fun p hp => by walk_at "tails"))
end
end Mine
end

-- part MName
section
open PySem PySem.W PySem.Spec PySem.Calls PyProof.Rows
namespace Mine
def abc : Str := Str.ofString "abcdefghijklmnopqrstuvwxyz0123456789"
def abcOf (d : Int) : Nat := abc.cps.getD (d.fmod 36).toNat 0
def nameS (ns : List Int) : Str := ⟨((ns.take 3).map abcOf).toArray ++ #[98]⟩
theorem item_abc_nat : ∀ n : Fin 36, Txt.item abc ((n.val : Nat) : Int) = ⟨#[abc.cps.getD n.val 0]⟩ := by decide +kernel
theorem item_abc (c : Int) : Txt.item (Str.ofString "abcdefghijklmnopqrstuvwxyz0123456789") (c.fmod 36) = ⟨#[abcOf c]⟩ := by
  have h0 : 0 ≤ c.fmod 36 := Int.fmod_nonneg_of_pos c (by decide)
  have h1 : c.fmod 36 < 36 := Int.fmod_lt_of_pos c (by decide)
  have e : c.fmod 36 = (((c.fmod 36).toNat : Nat) : Int) := by omega
  have := item_abc_nat ⟨(c.fmod 36).toNat, by omega⟩
  rw [e]; exact this
theorem cps_b : (Str.ofString "b").cps = #[98] := by decide
theorem abc_length : (Str.ofString "abcdefghijklmnopqrstuvwxyz0123456789").length = 36 := by decide
section
local macro_rules | `(tactic| walk_at "tails") => `(tactic| repeat (first | assumption | refine List.Mem.tail _ ?_))
local macro_rules | `(tactic| walk_at "mem_sub") => `(tactic| (intro p hp; simp only [List.mem_cons, List.mem_append] at hp ⊢; grind))
local macro_rules | `(tactic| walk_at "eval ListComp") => `(tactic| (k_here; k_dflt (refine LCg.ListComp_U (by k_asm) (by with_unfolding_all rfl) (by decide) (by rfl) (by decide) (by rfl) ?_)))
local macro_rules | `(tactic| walk_at "CompSrc") => `(tactic| (k_here; k_dflt (refine' ledgerSrc.strs (fun d => ⟨#[abcOf d]⟩) (by rfl) (by k_asm) (by k_asm) (by k_mem) (by assumption) (by rw [PySem.sizeLine_eq]; omega) (fun c' u' I' oI' C' oC' D' m' ys' h' tk' E' hc' hC' hx' F' N' off' ne' hS' => ?_) ?_); kcf_last))
local macro_rules | `(tactic| walk_at "subscriptTail Constant BinOp str int") => `(tactic| ((refine item_str (fitsSsize_of (N := 9223372036854775808) (by rename_i hlo hhi; omega) (by rename_i hlo hhi; omega) (Int.le_refl _)) (by rw [abc_length]; omega) (by rw [abc_length]; omega) ?_); intro _))
local macro_rules | `(tactic| walk_at "CompEnd") => `(tactic| ((refine LCg.CompEnd.intro (by assumption) (by assumption) _ ?sub (by assumption) (by assumption) (EltIs.str ?val)); (case sub => walk_at "mem_sub"); (case val => exact item_abc _)))
local macro_rules | `(tactic| walk_at "call builtin:str.join") => `(tactic| (k_here; (rename StrsAre _ (List.map _ _) => sA'); (refine join_text abcOf (News.isList (by k_asm) (by k_mem)) sA' ?len ?_); (case len => omega); intro _ _))
local macro_rules | `(tactic| walk_at "binaryOp Add str str") => `(tactic| (k_here; (try dsimp only); (refine add_str ?_ ?sz); (case sz => (rw [PySem.sizeLine_eq]; simp only [Str.length, Str.cps_append, Array.size_append, cps_b, List.size_toArray, List.length_map, List.length_append, List.length_cons, List.length_nil]; omega)); intro _ _))
local macro_rules | `(tactic| walk_at "Hold") => `(tactic| ((refine id (α := ∀ (_ : Heap), _) ?_); intro gh ys' hys' D' h' tk' F' N' o1'))
set_option maxRecDepth 100000 in
set_option maxHeartbeats 800000 in
theorem name_call : ∀ {w : World} {p : Program} {loose : List Str} {mean : ExcName → Option Value} {mg mb : Str → Option Value} {dp un : Nat} {gd : Option (List Code)} {cn : Str} {cs : Scope} {a : Addr} {ccd : Value} {cl : List (Str × Addr)} {outer : List Env} {A₀ : Around} {base h₀ : Heap} {L : Addr} {m : Str → Option Value} {news : List (Addr × Obj)} {s : Shared} {l : Addr} {vs : List Value} {ns : List Int} {Q E : Value → Shared → Prop},
  Below A₀ base outer h₀ → Fr h₀ L s.heap m → (hd.heap_39 w.params).In h₀ → News h₀ L s.heap news → Top p loose mean mg mb h₀ → cs.kind = .function → base.IsList l vs.toArray → IntsAre vs ns → ns.length < 2 ^ 20 → dp + 4 < recursionLimit → un + 30 < cLine →
  (∀ t h' tk', Fr h₀ L h' m → News h₀ L h' news → Q (.str (nameS ns) t) { s with heap := h', toks := tk' }) →
  wpAny (model PySem.Challenge.rw_bg0021_01.row.prog w) (ktrTop dp un gd cn cs L a ccd cl outer) (call (.ref 67) [.ref l]) Q E s := by
  w_top off
  k_fill
  intro w p loose mean mg mb dp un gd cn cs a ccd cl outer A₀ base h₀ L m news s l vs ns Q E B F X N T hk hl hi hn hd' hu hret
  refine wpAny_call ?_
  k_dflt cell_enter
  k_steps
  have e : Str.mk (List.map abcOf (List.take 3 ns)).toArray ++ Str.ofString "b" = nameS ns := Str.ext' (by rw [Str.cps_append, cps_b]; rfl)
  rw [e]
  exact hret _ _ _ (by assumption) (drop_news (by assumption) (fun p hp => by walk_at "tails"))
end
end Mine
end

-- part MGen
section
open PySem PySem.W PySem.Spec PySem.Calls PyProof.Rows
namespace Mine
/-- a code's table of places -/
def Places (o : Obj) : Prop := ∃ ps : Array Value, o = { cls := .none, data := .fields ps } ∧ TriplesOk ps.toList
/-- a code object's own facts, but its table's items -/
def CodeFix (h : Heap) (c P : Addr) : Prop :=
  ∃ o vs file tf flags tg inF text tt, h.get? c = some o ∧ o.cls = .type "code" ∧ o.data = .fields vs ∧ vs[11]? = some (.ref P) ∧ vs.getD 18 .none = .str file tf ∧
    vs.getD 7 .none = .int flags tg ∧ vs.getD 9 .none = .bool inF ∧ vs.getD 10 .none = .int text tt ∧ c ≠ P
theorem CodeFix.code {h₀ h : Heap} {c P : Addr} {oP : Obj} {ps : Array Value} (x : CodeFix h₀ c P) (k : ∀ b o, h₀.get? b = some o → h.get? b = some o) (e : h.get? P = some oP) (hd : oP = { cls := .none, data := .fields ps }) (ht : TriplesOk ps.toList) : h.IsCode c P ps ∧ h.TableAt c P ps :=
  let ⟨o, vs, file, tf, flags, tg, inF, text, tt, a, a1, b, r1, r2, r3, r4, r5, r6⟩ := x
  ⟨⟨o, vs, file, tf, flags, tg, inF, text, tt, oP, k _ _ a, b, by rw [Array.getD_eq_getD_getElem?, r1]; rfl, r2, r3, r4, r5, e, hd ▸ rfl, ht, r6⟩, ⟨o, vs, k _ _ a, a1, b, r1⟩, hd ▸ e⟩
theorem isCode_places {h : Heap} {c P : Addr} {ps : Array Value} (x : h.IsCode c P ps) (y : h.TableAt c P ps) : ∃ oP, h.get? P = some oP ∧ Places oP :=
  let ⟨_, _, _, _, _, _, _, _, _, oP, _, _, _, _, _, _, _, e, hd, ht, _⟩ := x
  ⟨_, y.2, ps, rfl, ht⟩

section
variable {prog : Program} {w : World} {A : Around} {E : Value → Shared → Prop} {s : Shared} {h₀ : Heap} {c P L : Addr} {m mg : Str → Option Value} {bm : Addr} {ob oP : Obj} {news : List (Addr × Obj)}

theorem genexprT {env : Env} {ps : Array Value} {pos : Pos} {qualname : Str} {scope : Scope} {Q : Value → Shared → Prop} (hc : env.code = .ref c) (hok : s.heap.IsCode c P ps) (htab : s.heap.TableAt c P ps)
    (hQ : ∀ code h' tk ps', Heap.ExtBut P s.heap h' → h'.IsCode c P ps' → h'.TableAt c P ps' → Q code { s with heap := h', toks := tk }) :
    wpAny (model prog w) A (genexprCode env pos qualname scope) Q E s := by
  cases hnf : codeAmong pos ps.toList with
  | none => exact wpAny_genexprCodeX hc hok htab hnf fun c' h' tk hx _ _ h1 _ h2 _ => hQ _ _ _ _ hx h1 h2
  | some cv => exact wpAny_genexprCode_hit hc hok hnf (hQ cv s.heap s.toks ps (Heap.ExtBut.refl _ _) hok htab)
theorem pyIter_text {xs : Str} {t : Tok} {Q : Value → Shared → Prop}
    (hQ : ∀ ty o, (∀ A' : Around, A'.handled = none → Walks prog w A' s.heap.objs.size [s.heap.objs.size] [s.heap.objs.size] xs.cps.size (SignAt xs) (fun i h => h.IsStrIter s.heap.objs.size ty xs t i)) → (s.heap.push o).IsStrIter s.heap.objs.size ty xs t 0 →
      Q (.ref s.heap.objs.size) { s with heap := s.heap.push o }) : wpAny (model prog w) A (pyIter (.str xs t)) Q E s := by
  cases ha : xs.cps.all (· < 128)
  · exact wpAny_pyIter_wide ha (hQ _ _ (fun A' hA => Walks.strWide hA _ xs t) ⟨_, Heap.get?_push_size _ rfl, rfl, rfl⟩)
  · exact wpAny_pyIter_ascii ha (hQ _ _ (fun A' hA => Walks.strAscii hA _ xs t) ⟨_, Heap.get?_push_size _ rfl, rfl, rfl⟩)

/-- a generator over a text, laid, ready to be consumed -/
structure GenHere (prog : Program) (w : World) (A : Around) (h₀ : Heap) (L : Addr) (m : Str → Option Value) (P : Addr) (oP : Obj) (news : List (Addr × Obj)) (xs : Str) (q : Nat → Bool) (a : Addr) (s : Shared) : Prop where
  places : Places oP
  fr : Fr h₀ L s.heap m
  led : News h₀ L s.heap ((P, oP) :: news)
  bare : AllBare s.gens
  gen : ∃ K, (∀ p ∈ (P, oP) :: news, p.1 ≤ K) ∧ L ≤ K ∧ Gen prog w A K a xs.cps.size (fun j y => ∃ k, xs.cps[j]? = some k ∧ y = .bool (q k)) s

def GenSrcT (prog : Program) (w : World) (A : Around) (h₀ : Heap) (L : Addr) (m : Str → Option Value) (P : Addr) (oP : Obj) (news : List (Addr × Obj)) (env : Env) (elt : Expr) (x : Str) (scope : Scope) (cl : List (Str × Addr)) (Q : Value → Shared → Prop) (xv : Value) (s₁ : Shared) : Prop :=
  ∃ xs t q, xv = .str xs t ∧ Fr h₀ L s₁.heap m ∧ News h₀ L s₁.heap ((P, oP) :: news) ∧ AllBare s₁.gens ∧
    (∀ (A' : Around) (C : Addr) (code : Value) (k : Nat) (u : Tok) (s₂ : Shared) m₂ (E' : Value → Shared → Prop), A'.handled = none → k ∈ xs.cps.toList → Fr h₀ C s₂.heap m₂ → m₂ x = some (.str ⟨#[k]⟩ u) →
      wpAny (model prog w) A' (eval elt (genEnv scope cl C code builtinsNs env)) (fun y s₃ => y = .bool (q k) ∧ Keeps s₂ s₃) E' s₂) ∧
    (∀ a oP' h tk g, GenHere prog w A h₀ L m P oP' news xs q a { s₁ with heap := h, toks := tk, gens := g } → Q (.ref a) { s₁ with heap := h, toks := tk, gens := g })

theorem GeneratorExp_T {env : Env} {elt iter : Expr} {x : Str} {px : Pos} {scope : Scope} {cl : List (Str × Addr)} {pos : Pos} {Q : Value → Shared → Prop}
    (_F : Fr h₀ L s.heap m) (_N : News h₀ L s.heap ((P, oP) :: news)) (hP : Places oP) (hC : CodeFix h₀ c P) (hcode : env.code = .ref c) (M : BMod h₀ env.globals mg bm ob) (hlim : h₀.NoLimit) (hnP : ∀ p ∈ news, p.1 ≠ P)
    (hh : A.handled = none) (hco : scope.isCoroutine = false) (hclos : closureFor scope env = pure cl) (hcell : ∀ y ∈ scope.names, y.2 ≠ .cell) (h0 : scope.names.lookup (".0" : Str) = some NameKind.local)
    (hx : scope.names.lookup x = some .local) (hkind : scope.kind = .function) (hroom : A.depth < recursionLimit)
    (h : wpAny (model prog w) A (eval iter env) (GenSrcT prog w A h₀ L m P oP news env elt x scope cl Q) E s)
    (hs : ∀ x, genFold iter env x = pure x) :
    wpAny (model prog w) A (eval (.GeneratorExp elt [⟨.Name x px, iter, [], 0⟩] scope pos) env) Q E s := by
  refine wpAny_GeneratorExp_walksQ hh hco hclos hcell h0 hx hkind hroom (wpAny_mono h (fun xv s₁ h₁ => ?_) fun _ _ e => e) hs
  obtain ⟨xs, t, q, rfl, F₁, N₁, G₁, helt, hQ⟩ := h₁
  refine pyIter_text fun ty o W hst => ?_
  have up : ∀ b o', s₁.heap.get? b = some o' → (s₁.heap.push o).get? b = some o' := fun b o' e => Heap.get?_push_of_some _ e
  have zP := N₁ (P, oP) (.head _)
  obtain ⟨ps, hd, ht⟩ := hP
  have keep₂ : ∀ b o', h₀.get? b = some o' → (s₁.heap.push o).get? b = some o' := fun b o' e => up b o' (F₁.keep b o' e)
  obtain ⟨hok, hokT⟩ := hC.code keep₂ (up _ _ zP.1) hd ht
  refine ⟨hlim.keeps keep₂, genexprT hcode hok hokT fun code h₃ tk₃ ps' hx₃ hok₃ hT₃ => ?_⟩
  have keep₃ : ∀ b o', h₀.get? b = some o' → h₃.get? b = some o' := fun b o' e => hx₃ b o' (fun q => by rw [q, zP.2.2] at e; cases e) (keep₂ b o' e)
  have M₃ := M.keeps keep₃
  refine wpAny_builtinsFor M₃.ns M₃.name M₃.ne M₃.obj M₃.cls M₃.dict M₃.data ?_
  have hIP : s₁.heap.objs.size ≠ P := Ne.symm (Nat.ne_of_lt (Heap.lt_size zP.1))
  obtain ⟨oI, hoI, _⟩ := id hst
  have hIlt : s₁.heap.objs.size < h₃.objs.size := Heap.lt_size (hx₃ _ _ hIP hoI)
  have hst₃ : h₃.IsStrIter s₁.heap.objs.size ty xs t 0 := (W A hh).frame _ _ _ hst fun b hb o' e => hx₃ b o' (by rw [List.mem_singleton.mp hb]; exact hIP) e
  have hl₃ : h₃.NoLimit := hlim.keeps keep₃
  have hcs : cStatics < s₁.heap.objs.size := by
    obtain ⟨_, hn, _⟩ := hlim.keeps F₁.keep
    exact hn.lt
  have fresh₀ : ∀ a, s₁.heap.objs.size ≤ a → h₀.get? a = none := fun a ha => by
    cases e : h₀.get? a with
    | none => rfl
    | some o' => exact absurd (Heap.lt_size (F₁.keep a o' e)) (Nat.not_lt.mpr ha)
  refine ⟨s₁.heap.objs.size, [s₁.heap.objs.size], [s₁.heap.objs.size], xs.cps.size, SignAt xs, fun i h => h.IsStrIter s₁.heap.objs.size ty xs t i, fun _ => true, fun i y => ∃ k, xs.cps[i]? = some k ∧ y = .bool (q k), rfl, W, hst₃, ?_, hl₃, ?_, ?_, ?_⟩
  · intro b hb
    rw [List.mem_singleton.mp hb]; exact hIlt
  · intro hb
    exact absurd (List.mem_singleton.mp hb ▸ hcs) (Nat.lt_irrefl _)
  · intro href hhref
    refine ⟨fun A' E' i v s₂ m₂ hA hP hn hm hk => wpAny_tests_nil ⟨rfl, _, _, rfl, fun _ _ e => e⟩, fun A' E' i v s₂ m₂ hA hP _ hn hm hk => ?_⟩
    obtain ⟨k, u, hk1, rfl⟩ := hP
    have hLC : h₀.objs.size ≤ h₃.objs.size := Nat.le_trans F₁.above (Nat.le_of_lt (Nat.lt_trans F₁.ns.lt hIlt))
    refine wpAny_mono (helt A' h₃.objs.size code k u s₂ m₂ E' hA (by have := List.mem_of_getElem? (l := xs.cps.toList) (i := i) (a := k) (by simpa using hk1); exact this) ⟨hn, fun b o' e => ?_, hLC⟩ hm) (fun y s₃ hy => ⟨⟨k, hk1, hy.1⟩, hy.2⟩) fun _ _ e => e
    have e3 := keep₃ b o' e
    refine hk b (List.mem_range.mpr (Heap.lt_size e3)) (fun hb => ?_) o' (hhref b o' e3)
    rw [List.mem_singleton.mp hb, fresh₀ _ (Nat.le_refl _)] at e
    cases e
  · intro a h₅ tk gs hbare hCa hsz hk₅ WS hat
    obtain ⟨oP', hoP', hP'⟩ := isCode_places hok₃ hT₃
    have hL₃ : ∀ b o', b ≠ P → s₁.heap.get? b = some o' → h₅.get? b = some o' := fun b o' hb e => hk₅ b o' (hx₃ b o' hb (up b o' e))
    refine hQ a oP' h₅ tk (s₁.gens.push gs) ⟨hP', ⟨F₁.ns.at' fun o' e => hL₃ _ o' (Ne.symm zP.2.1) e, fun b o' e => hk₅ b o' (keep₃ b o' e), F₁.above⟩, ?_, G₁.push hbare, ⟨s₁.heap.objs.size - 1, ?_, ?_, ?_⟩⟩
    · intro p hp
      rcases List.mem_cons.mp hp with rfl | hp
      · exact ⟨hk₅ _ _ hoP', zP.2⟩
      · have z := N₁ p (.tail _ hp)
        exact ⟨hL₃ _ _ (hnP p hp) z.1, z.2⟩
    · intro p hp
      have : p.1 < s₁.heap.objs.size := by
        rcases List.mem_cons.mp hp with rfl | hp
        · exact Heap.lt_size zP.1
        · exact Heap.lt_size (N₁ p (.tail _ hp)).1
      exact Nat.le_sub_one_of_lt this
    · exact Nat.le_sub_one_of_lt F₁.ns.lt
    · have hpass : passing (fun _ => true) xs.cps.size 0 = List.range xs.cps.size := by simp [passing]
      rw [hpass, List.length_range] at WS
      have WS' := WS.imp (P' := fun j y => ∃ k, xs.cps[j]? = some k ∧ y = .bool (q k)) fun j y ⟨i, hi, hF⟩ => by
        have : i = j := by
          by_cases hj : j < xs.cps.size
          · rw [List.getElem?_range hj] at hi; exact (Option.some.inj hi).symm
          · rw [List.getElem?_eq_none (by simpa using Nat.le_of_not_lt hj)] at hi; cases hi
        rw [← this]; exact hF
      refine ⟨_, _, _, _, WS', hat, fun i s' st => st.1.typeIs, List.mem_cons_self, ?_, ?_⟩
      · intro b hb
        show b < h₅.objs.size
        rw [hsz]
        have hCa' : h₃.objs.size < a := hCa
        rcases List.mem_cons.mp hb with rfl | hb
        · exact Nat.lt_succ_self _
        · rcases List.mem_cons.mp hb with rfl | hb
          · exact Nat.lt_succ_of_lt hCa
          · exact Nat.lt_succ_of_lt (Nat.lt_trans (List.mem_range.mp hb) hCa)
      · intro b hb
        have h0' : 0 < s₁.heap.objs.size := Nat.lt_of_le_of_lt (Nat.zero_le _) hcs
        have hI : s₁.heap.objs.size - 1 < s₁.heap.objs.size := Nat.sub_lt h0' Nat.one_pos
        rcases List.mem_cons.mp hb with rfl | hb
        · exact Nat.lt_trans hI hIlt
        · rw [List.mem_singleton.mp hb]
          exact hI

theorem GenHere.any {xs : Str} {q : Nat → Bool} {a : Addr} {Q : Value → Shared → Prop} (X : GenHere prog w A h₀ L m P oP news xs q a s)
    (hQ : ∀ h tk g, Fr h₀ L h m → News h₀ L h ((P, oP) :: news) → AllBare g → Q (.bool (xs.cps.toList.any q)) { s with heap := h, toks := tk, gens := g }) :
    wpAny (model prog w) A (call (.builtin "any") [.ref a]) Q E s := by
  obtain ⟨_, F, N, G, K, hK, hLK, fp, wr, g, St, W, hst, _, _, hfp, hwr⟩ := X
  have W := W.in4_1
  refine call_any_walkS (W.self 0 _ _ _ hst ⟨a, _, _, _, _, _, _, (fun j => match xs.cps[j]? with | some k => q k | none => false), rfl, W, hst, fun i v s Q E hv hQ => ?_, fun s' hm => ?_⟩)
  · obtain ⟨k, hk, rfl⟩ := hv
    simp only [hk] at hQ
    exact wpAny_truthy_bool hQ
  · have e : (List.range xs.cps.size).any (fun j => match xs.cps[j]? with | some k => q k | none => false) = xs.cps.toList.any q := by
      have := any_rangeD xs.cps.toList q
      rw [Array.length_toList] at this
      refine Eq.trans ?_ this
      congr 1
      funext j
      rw [Array.getElem?_toList]
      cases xs.cps[j]? <;> rfl
    rw [e]
    have hF : Fr h₀ L s'.heap m := F.moved hm fun b hb => Nat.lt_of_le_of_lt hLK (hwr b hb)
    have hN : News h₀ L s'.heap ((P, oP) :: news) := fun p hp => ⟨hm.heap _ _ (fun hmem => Nat.lt_irrefl _ (Nat.lt_of_lt_of_le (hwr _ hmem) (hK p hp))) (N p hp).1, (N p hp).2⟩
    have hG := G.movedS hm
    have hd := hm.drawn
    have ho := hm.os
    obtain ⟨sh, sg, sd, st, so⟩ := s'
    dsimp only at hd ho hF hN hG
    subst hd ho
    exact hQ sh st sg hF hN hG
theorem GenHere.all {xs : Str} {q : Nat → Bool} {a : Addr} {Q : Value → Shared → Prop} (X : GenHere prog w A h₀ L m P oP news xs q a s)
    (hQ : ∀ h tk g, Fr h₀ L h m → News h₀ L h ((P, oP) :: news) → AllBare g → Q (.bool (xs.cps.toList.all q)) { s with heap := h, toks := tk, gens := g }) :
    wpAny (model prog w) A (call (.builtin "all") [.ref a]) Q E s := by
  obtain ⟨_, F, N, G, K, hK, hLK, fp, wr, g, St, W, hst, _, _, hfp, hwr⟩ := X
  have W := W.in4_1
  refine call_all_walkS (W.self 0 _ _ _ hst ⟨a, _, _, _, _, _, _, (fun j => match xs.cps[j]? with | some k => q k | none => true), rfl, W, hst, fun i v s Q E hv hQ => ?_, fun s' hm => ?_⟩)
  · obtain ⟨k, hk, rfl⟩ := hv
    simp only [hk] at hQ
    exact wpAny_truthy_bool hQ
  · have e : (List.range xs.cps.size).all (fun j => match xs.cps[j]? with | some k => q k | none => true) = xs.cps.toList.all q := by
      have := all_rangeD xs.cps.toList q
      rw [Array.length_toList] at this
      refine Eq.trans ?_ this
      congr 1
      funext j
      rw [Array.getElem?_toList]
      cases xs.cps[j]? <;> rfl
    rw [e]
    have hF : Fr h₀ L s'.heap m := F.moved hm fun b hb => Nat.lt_of_le_of_lt hLK (hwr b hb)
    have hN : News h₀ L s'.heap ((P, oP) :: news) := fun p hp => ⟨hm.heap _ _ (fun hmem => Nat.lt_irrefl _ (Nat.lt_of_lt_of_le (hwr _ hmem) (hK p hp))) (N p hp).1, (N p hp).2⟩
    have hG := G.movedS hm
    have hd := hm.drawn
    have ho := hm.os
    obtain ⟨sh, sg, sd, st, so⟩ := s'
    dsimp only at hd ho hF hN hG
    subst hd ho
    exact hQ sh st sg hF hN hG
end
end Mine
end

-- part MDec
section
open PySem PySem.W PySem.Spec PySem.Calls PyProof.Rows
namespace Mine
def Hold2 (P : Prop) : Prop := P
theorem hold2 {P : Prop} (h : Hold2 P) : P := h
abbrev tupO (vs : Array Value) : Obj := { cls := .type "tuple", data := .seq vs }
def q1 (k : Nat) : Bool := decide ((k : Int) < 33) || decide ((k : Int) > 126)
theorem q1_t {k : Nat} (h : (k : Int) < 33) : Value.bool (decide ((k : Int) < 33)) = Value.bool (q1 k) := by
  unfold q1; rw [decide_eq_true h]; rfl
theorem q1_f {k : Nat} (h : ¬ (k : Int) < 33) : Value.bool (decide (126 < (k : Int))) = Value.bool (q1 k) := by
  unfold q1; rw [decide_eq_false h]; rfl
theorem case_no {x y : Str} (h1 : (y != x) = true) (h2 : (Txt.upper x != x) = true) : ¬ (Txt.lower x = x ∨ Txt.upper x = x) ∨ y ≠ Txt.lower x := by
  simp at h1 h2
  by_cases h : y = Txt.lower x
  · left; subst h; simp [h1, h2]
  · exact .inr h
theorem ret_news {h₀ h : Heap} {L : Addr} {a b c : Addr × Obj} {news : List (Addr × Obj)} (N : News h₀ L h (a :: b :: c :: news)) : News h₀ L h (a :: b :: news) := drop_news N fun p hp => by
  simp only [List.mem_cons] at hp ⊢
  rcases hp with h | h | h
  · exact .inl h
  · exact .inr (.inl h)
  · exact .inr (.inr (.inr h))
theorem ret_news2 {h₀ h : Heap} {L : Addr} {a c : Addr × Obj} {news : List (Addr × Obj)} (N : News h₀ L h (a :: c :: news)) : News h₀ L h (a :: news) := drop_news N fun p hp => by
  simp only [List.mem_cons] at hp ⊢
  rcases hp with h | h
  · exact .inl h
  · exact .inr (.inr h)
def q2 (k : Nat) : Bool := Txt.contains (Str.ofString "qpzry9x8gf2tvdw0s3jn54khce6mua7l") ⟨#[k]⟩
theorem codeFix {w : World} {h : Heap} (X : (hd.heap_39 w.params).In h) : CodeFix h 47 45 :=
  ⟨_, _, _, _, _, _, _, _, _, X 47 _ rfl, rfl, rfl, rfl, rfl, rfl, rfl, rfl, by decide⟩
section
variable {prog : Program} {w : World} {A : Around} {E : Value → Shared → Prop} {s : Shared} {h₀ : Heap} {c P L : Addr} {m mg : Str → Option Value} {bm : Addr} {ob oP : Obj} {news : List (Addr × Obj)}
theorem GenSrcT.intro {env : Env} {elt : Expr} {x : Str} {scope : Scope} {cl : List (Str × Addr)} {Q : Value → Shared → Prop} {xs : Str} {t : Tok} {s₁ : Shared} (q : Nat → Bool) (F : Fr h₀ L s₁.heap m) (N : News h₀ L s₁.heap ((P, oP) :: news)) (G : AllBare s₁.gens)
    (helt : ∀ (A' : Around) (C : Addr) (code : Value) (k : Nat) (u : Tok) (s₂ : Shared) m₂ (E' : Value → Shared → Prop), A'.handled = none → k ∈ xs.cps.toList → Fr h₀ C s₂.heap m₂ → m₂ x = some (.str ⟨#[k]⟩ u) →
      wpAny (model prog w) A' (eval elt (genEnv scope cl C code builtinsNs env)) (fun y s₃ => y = .bool (q k) ∧ Keeps s₂ s₃) E' s₂)
    (fin : ∀ a oP' h tk g, GenHere prog w A h₀ L m P oP' news xs q a { s₁ with heap := h, toks := tk, gens := g } → Q (.ref a) { s₁ with heap := h, toks := tk, gens := g }) :
    GenSrcT prog w A h₀ L m P oP news env elt x scope cl Q (.str xs t) s₁ := ⟨xs, t, q, rfl, F, N, G, helt, fin⟩

theorem gen_global {M : Model} {K : Frag} {p : Program} {loose : List Str} {mean : ExcName → Option Value} {mb : Str → Option Value} {scope : Scope} {cl : List (Str × Addr)} {C : Addr} {code : Value} {env : Env} {x : Str} {pos : Pos} {v : Value} {Q : Value → Shared → Prop} (F : Fr h₀ C s.heap m) (X : K.In h₀) (T : Top p loose mean mg mb h₀) (e : nsIn K mainGlobals x = some (some v)) (h : Q v s) (hg : env.globals = mainGlobals := by rfl)
    (hk : (genEnv scope cl C code builtinsNs env).scope.kind = .function := by rfl) (hx : (genEnv scope cl C code builtinsNs env).kindOf x = some .globalImplicit := by rfl) (hd : (x == ("__debug__" : Str)) = false := by decide) :
    wpAny M A (eval (.Name x pos) (genEnv scope cl C code builtinsNs env)) Q E s :=
  Name_function_global hk hx (loadGlobal_global (env := genEnv scope cl C code builtinsNs env) (show s.heap.Ns env.globals mg from hg ▸ (T.keeps F.keep).g) (mg_of X T.g e) h) hd
theorem gen_built {M : Model} {K : Frag} {p : Program} {loose : List Str} {mean : ExcName → Option Value} {mb : Str → Option Value} {scope : Scope} {cl : List (Str × Addr)} {C : Addr} {code : Value} {env : Env} {x : Str} {pos : Pos} {v : Value} {Q : Value → Shared → Prop} (F : Fr h₀ C s.heap m) (X : K.In h₀) (T : Top p loose mean mg mb h₀) (e : nsIn K mainGlobals x = some none) (hv : bootBuiltins x = some v) (hn : x ≠ "__name__") (h : Q v s) (hg : env.globals = mainGlobals := by rfl)
    (hk : (genEnv scope cl C code builtinsNs env).scope.kind = .function := by rfl) (hx : (genEnv scope cl C code builtinsNs env).kindOf x = some .globalImplicit := by rfl) (hd : (x == ("__debug__" : Str)) = false := by decide) :
    wpAny M A (eval (.Name x pos) (genEnv scope cl C code builtinsNs env)) Q E s :=
  Name_function_global hk hx (loadGlobal_builtin (env := genEnv scope cl C code builtinsNs env) (show s.heap.Ns env.globals mg from hg ▸ (T.keeps F.keep).g) (mg_none_of X T.g e) (T.keeps F.keep).b ((T.builtins x hn).trans hv) h) hd

local macro_rules | `(tactic| walk_at "eval Name") => `(tactic| (k_here; (with_reducible show wpAny _ _ (eval (Expr.Name _ _) (genEnv _ _ _ _ _ _)) _ _ _); k_dflt (first
  | (refine' ldVarG (by assumption) ?v ?_ ?a ?b; (case a => rfl); (case b => rfl); (case v => assumption))
  | (refine' gen_global (by assumption) (by assumption) (by assumption) ?e ?_; (case e => k_is))
  | (refine' gen_built (by assumption) (by assumption) (by assumption) ?e ?v ?n ?_; (case e => k_is); (case v => boot_fast); (case n => decide)))))
local macro_rules | `(tactic| walk_at "call ref") => `(tactic| (k_here; (with_reducible show wpAny _ _ (call (Value.ref 33) _) _ _ _); k_dflt (refine' verify_call ?k1 ?k2 ?k3 ?k4 ?k5 ?kK ?kx ?kl ?ki ?kn ?kd ?ku ?_; (case k1 => k_asm); (case k2 => k_asm); (case k3 => k_asm); (case k4 => k_asm); (case k5 => k_asm); (case kK => first | exact rfl | assumption); (case kx => omega); (case kl => k_mem); (case ki => first | assumption | l_ints); (case kn => (simp only [List.length_map, Array.length_toList]; omega)); (case kd => ktr_room); (case ku => ktr_units)); intro h9 tk9 F9 N9; (try dsimp only); (try k_fold)))
local macro_rules | `(tactic| walk_at "eval GeneratorExp") => `(tactic| (k_here; k_dflt (refine' GeneratorExp_T (by assumption) (by assumption) (by assumption) (by assumption) (by rfl) (by assumption) (by assumption) (by assumption) (by rfl) (by rfl) (by with_unfolding_all rfl) (by decide) (by rfl) (by rfl) (by rfl) ?room ?_ (by intro _; rfl); (case room => ktr_room))))
local macro_rules | `(tactic| walk_at "GenSrcT") => `(tactic| (k_here; k_dflt (refine' GenSrcT.intro q2 (by assumption) (by assumption) (by assumption) (fun A' C' code' k' u' s' m' E' hA' hk' F' hx' => ?_) (fun a' oP' h' tk' g' X' => ?_)); kcf_last))
local macro_rules | `(tactic| walk_at "GenSrcT") => `(tactic| (k_here; (with_reducible show GenSrcT _ _ _ _ _ _ _ _ _ _ (Expr.BoolOp _ _ _) _ _ _ _ _ _); k_dflt (refine' GenSrcT.intro q1 (by assumption) (by assumption) (by assumption) (fun A' C' code' k' u' s' m' E' hA' hk' F' hx' => ?_) (fun a' oP' h' tk' g' X' => ?_)); kcf_last))
local macro_rules | `(tactic| walk_at "call builtin:any") => `(tactic| (k_here; (rename GenHere _ _ _ _ _ _ _ _ _ _ _ _ _ => gX'); (have hP' := gX'.places); refine GenHere.any gX' ?_; intro h' tk' g' F' N' G'; (try dsimp only); clear gX'))
local macro_rules | `(tactic| walk_at "call builtin:all") => `(tactic| (k_here; (rename GenHere _ _ _ _ _ _ _ _ _ _ _ _ _ => gX'); (have hP' := gX'.places); refine GenHere.all gX' ?_; intro h' tk' g' F' N' G'; (try dsimp only); clear gX'))
local macro_rules | `(tactic| walk_at "call builtin:str.lower") => `(tactic| (k_here; (try dsimp only); (refine SC.lower (fit_lower (by simp only [Str.length]; omega)) ?_); (rename Txt.lower _ = _ => hlow'); (rw [hlow']); (try dsimp only)))
local macro_rules | `(tactic| walk_at "call builtin:str.upper") => `(tactic| (k_here; (try dsimp only); (refine SC.upper (fit_upper (by simp only [Str.length]; omega)) ?_); (try dsimp only)))
local macro_rules | `(tactic| walk_at "call builtin:str.rfind") => `(tactic| (k_here; (try dsimp only); (refine SC.rfind ?_); (rename Txt.rfind _ _ = _ => hrf'); (rw [hrf']); (try dsimp only)))
local macro_rules | `(tactic| walk_at "exec Assign cons ListComp") => `(tactic| (k_here; k_dflt (refine Assign_ListComp_T (by k_asm) (by rfl) (by with_unfolding_all rfl) (by with_unfolding_all rfl) (by decide) (by rfl) (by decide) (by rfl) (by rfl) (by rfl) ?_)))
local macro_rules | `(tactic| walk_at "TextSrc") => `(tactic| (k_here; (rename (∀ c ∈ _, Txt.find _ _ = _) => hfind'); k_dflt (refine' TextSrc.ints _ (by rfl) (by k_asm) (by k_asm) (by rw [PySem.sizeLine_eq]; omega) (fun c' u' I' oI' C' oC' D' m' ys' h' tk' E' hc' hC' hx' F' N' off' ne' => ?_) ?_); kcf_last))
local macro_rules | `(tactic| walk_at "CompEnd") => `(tactic| ((refine LCg.CompEnd.intro (by assumption) (by assumption) _ ?sub (by assumption) trivial (EltIs.int ?val)); (case sub => walk_at "mem_sub"); (case val => (rename (∀ c ∈ _, Txt.find _ _ = _) => hfind'); exact hfind' _ (by assumption))))
local macro_rules | `(tactic| walk_at "subscriptTail Name Slice ref ref") => `(tactic| (k_here; (rename IntsAre _ (List.map _ _) => iX'); k_dflt (refine' kmk_slice_ints ?zF ?zN ?zl ?zp ?zq ?zi ?zm ?zc ?_ ?zs ?zt ?zz; (case zF => k_asm); (case zN => k_asm); (case zl => kmk_list); (case zp => exact IsPart.none); (case zq => exact IsPart.int _ _); (case zi => exact iX'); (case zm => exact kmk_upto_neg iX' (by decide)); (case zc => exact rfl); (case zs => with_unfolding_all rfl); (case zt => kmk_pure); (case zz => (refine kmk_sz iX' ?_; (simp only [PySem.sizeLine_eq, List.length_map, Array.length_toList]); omega))); intro D' ws' h' F' N' l1 hI' hC' hL'; (try simp only [Int.reduceNeg, Int.neg_neg, Int.reduceToNat] at hI'); (try k_lt l1); clear hC' hL'))
local macro_rules | `(tactic| walk_at "Hold") => `(tactic| ((refine id (α := ∀ (_ : Heap), _) ?_); intro gh ys' hys' D' h' tk' F' N' o1'))
local macro_rules | `(tactic| walk_at "mem_sub") => `(tactic| (intro p hp; simp only [List.mem_cons, List.mem_append] at hp ⊢; grind))
set_option maxRecDepth 100000 in
set_option maxHeartbeats 800000 in
theorem decode_call : ∀ {w : World} {p : Program} {loose : List Str} {mean : ExcName → Option Value} {mg mb : Str → Option Value} {dp un : Nat} {gd : Option (List Code)} {cn : Str} {cs : Scope} {a : Addr} {ccd : Value} {cl : List (Str × Addr)} {outer : List Env} {A₀ : Around} {base h₀ : Heap} {L : Addr} {m : Str → Option Value} {news : List (Addr × Obj)} {s : Shared} {oP : Obj} {x y hr dt : Str} {pos : Int} {tx : Tok} {g : Nat → Int} {Q E : Value → Shared → Prop},
  Below A₀ base outer h₀ → Fr h₀ L s.heap m → (hd.heap_39 w.params).In h₀ → News h₀ L s.heap ((45, oP) :: news) → Top p loose mean mg mb h₀ → cs.kind = .function → Places oP → (∀ p ∈ news, p.1 ≠ 45) → AllBare s.gens →
  x.cps.size < 500 → x.cps.toList.any q1 = false → (Txt.lower x = x ∨ Txt.upper x = x) → Txt.lower x = y → Txt.rfind y (Str.ofString "1") = pos → 1 ≤ pos → pos ≤ 83 → pos + 7 ≤ y.length → y.length < 500 → Txt.slice y (some (pos + 1)) none = dt → dt.cps.toList.all q2 = true → Txt.slice y none (some pos) = hr → dt.cps.size < 500 → hr.cps.size < 500 → (∀ c ∈ dt.cps.toList, Txt.find (Str.ofString "qpzry9x8gf2tvdw0s3jn54khce6mua7l") ⟨#[c]⟩ = g c) →
  dp + 6 < recursionLimit → un + 40 < cLine →
  ((expandI hr ++ dt.cps.toList.map g).foldl stepI 1 = 1 → ∀ T D ws t n h' tk' g' oP', IntsAre ws ((dt.cps.toList.map g).take ((dt.cps.toList.map g).length - 6)) → Places oP' → AllBare g' → Fr h₀ L h' m → News h₀ L h' ((T, tupO #[.str hr t, .ref D]) :: (D, listOf ws.toArray n) :: (45, oP') :: news) → Q (.ref T) { s with heap := h', toks := tk', gens := g' }) →
  ((expandI hr ++ dt.cps.toList.map g).foldl stepI 1 ≠ 1 → ∀ T h' tk' g' oP', Places oP' → AllBare g' → Fr h₀ L h' m → News h₀ L h' ((T, tupO #[.none, .none]) :: (45, oP') :: news) → Q (.ref T) { s with heap := h', toks := tk', gens := g' }) →
  wpAny (model PySem.Challenge.rw_bg0021_01.row.prog w) (ktrTop dp un gd cn cs L a ccd cl outer) (call (.ref 48) [.str x tx]) Q E s := by
  w_top off
  k_fill
  intro w p loose mean mg mb dp un gd cn cs a ccd cl outer A₀ base h₀ L m news s oP x y hr dt pos tx g Q E B F X N T hk hP hnP hG hsz ha hc hlow hrf hp1 hp2 hp3 hys hdt hal hhr hdz hhz hfind hd' hu hret1 hret2
  subst hdt hhr
  have hlow2 := hlow
  refine wpAny_call ?_
  k_dflt cell_enter
  have hC := codeFix (by assumption : (hd.heap_39 w.params).In _)
  obtain ⟨_, _, M⟩ := bmod_of_top (by assumption : Top p loose mean mg mb _)
  have hlim := Top.nolimit (by assumption : Top p loose mean mg mb _)
  k_steps
  · exact q1_t (by assumption)
  · exact ⟨_, _, rfl, fun _ _ e => e⟩
  · exact q1_f (by assumption)
  · exact ⟨_, _, rfl, fun _ _ e => e⟩
  · rcases case_no (y := y) (x := x) (by assumption) (by assumption) with q | q
    · exact absurd hc q
    · exact absurd hlow.symm q
  · exact ⟨_, _, rfl, fun _ _ e => e⟩
  · exact hret1 (by assumption) _ _ _ _ _ _ _ _ _ (by assumption) (by assumption) (by assumption) (by assumption) (ret_news (by assumption))
  · exact hret2 (by assumption) _ _ _ _ _ (by assumption) (by assumption) (by assumption) (ret_news2 (by assumption))
  · exact ⟨_, _, rfl, fun _ _ e => e⟩
  · exact hret1 (by assumption) _ _ _ _ _ _ _ _ _ (by assumption) (by assumption) (by assumption) (by assumption) (ret_news (by assumption))
  · exact hret2 (by assumption) _ _ _ _ _ (by assumption) (by assumption) (by assumption) (ret_news2 (by assumption))
end
end Mine
end

-- part MTxt2
section
open PySem PySem.W PySem.Spec PySem.Calls PyProof.Rows
namespace Mine
def madeX (name : Str) (cs : List Int) : Str := ⟨name.cps ++ #[49] ++ (signsS cs).cps⟩
def unsign (c : Nat) : Int := Txt.find (Str.ofString "qpzry9x8gf2tvdw0s3jn54khce6mua7l") ⟨#[c]⟩
structure NameOk (name : Str) : Prop where
  pos : 1 ≤ name.cps.size
  max : name.cps.size ≤ 4
  all : ∀ c ∈ name.cps.toList, (97 ≤ c ∧ c ≤ 122) ∨ (48 ≤ c ∧ c ≤ 57)
structure TextFacts (x name : Str) (cs : List Int) : Prop where
  size : x.cps.size < 500
  none : x.cps.toList.any q1 = false
  case : Txt.lower x = x ∨ Txt.upper x = x
  low : Txt.lower x = madeX name cs
  rfind : Txt.rfind (madeX name cs) (Str.ofString "1") = (name.cps.size : Int)
  long : (name.cps.size : Int) + 7 ≤ (madeX name cs).length
  short : (madeX name cs).length < 500
  right : Txt.slice (madeX name cs) (some ((name.cps.size : Int) + 1)) .none = signsS cs
  all : (signsS cs).cps.toList.all q2 = true
  left : Txt.slice (madeX name cs) .none (some (name.cps.size : Int)) = name
  back : (signsS cs).cps.toList.map unsign = cs
/-- what the table says of each of its signs -/
theorem sign_facts : ∀ n : Fin 32, (((97 ≤ signOf (n.val : Int) ∧ signOf (n.val : Int) ≤ 122) ∨ (48 ≤ signOf (n.val : Int) ∧ signOf (n.val : Int) ≤ 57)) ∧ signOf (n.val : Int) ≠ 49) ∧ q2 (signOf (n.val : Int)) = true ∧ unsign (signOf (n.val : Int)) = (n.val : Int) := by decide +kernel
theorem sign_of {d : Int} (h : 0 ≤ d ∧ d < 32) : (((97 ≤ signOf d ∧ signOf d ≤ 122) ∨ (48 ≤ signOf d ∧ signOf d ≤ 57)) ∧ signOf d ≠ 49) ∧ q2 (signOf d) = true ∧ unsign (signOf d) = d := by
  have e : d = ((d.toNat : Nat) : Int) := by omega
  have := sign_facts ⟨d.toNat, by omega⟩
  rw [e]; exact this
/-- a small letter or a figure -/
def Low (c : Nat) : Prop := (97 ≤ c ∧ c ≤ 122) ∨ (48 ≤ c ∧ c ≤ 57)
theorem low_lo {c : Nat} (h : Low c) : lo1 c = c := by
  unfold Low at h; unfold lo1; rw [if_neg (by omega)]
theorem low_up_lo {c : Nat} (h : Low c) : lo1 (up1 c) = c := by
  unfold Low at h; unfold lo1 up1
  repeat' split
  all_goals omega
theorem low_up_up {c : Nat} (h : Low c) : up1 (up1 c) = up1 c := by
  unfold Low at h; unfold up1
  repeat' split
  all_goals omega
theorem low_up_bound {c : Nat} (h : Low c) : 48 ≤ up1 c ∧ up1 c < 123 := by
  unfold Low at h; unfold up1
  split <;> omega
theorem map_id {f : Nat → Nat} {a : Array Nat} (h : ∀ c ∈ a.toList, f c = c) : a.map f = a := by
  apply Array.toList_inj.mp
  rw [Array.toList_map]
  conv => rhs; rw [← List.map_id a.toList]
  exact List.map_congr_left h
theorem q1_no {l : List Nat} (h : ∀ c ∈ l, 48 ≤ c ∧ c < 123) : l.any q1 = false := by
  rw [List.any_eq_false]
  intro c hc
  have := h c hc
  unfold q1
  rw [decide_eq_false (by omega), decide_eq_false (by omega)]
  simp
section
variable {name : Str} {cs : List Int}
theorem made_list : (madeX name cs).cps.toList = name.cps.toList ++ (49 :: cs.map signOf) := by
  unfold madeX signsS
  simp
theorem made_low (hn : NameOk name) (hb : ∀ d ∈ cs, 0 ≤ d ∧ d < 32) : ∀ c ∈ (madeX name cs).cps.toList, Low c := by
  intro c hc
  rw [made_list] at hc
  rcases List.mem_append.mp hc with hc | hc
  · exact hn.all c hc
  · rcases List.mem_cons.mp hc with rfl | hc
    · exact .inr (by omega)
    · obtain ⟨d, hd, rfl⟩ := List.mem_map.mp hc
      exact (sign_of (hb d hd)).1.1
theorem made_len : (madeX name cs).length = name.cps.size + 1 + cs.length := by
  unfold madeX signsS Str.length
  simp; omega
theorem at_one {x : Str} {i : Nat} : StrLaws.At x (Str.ofString "1") x.length i ↔ x.cps.toList[i]? = some 49 := by
  have e1 : (Str.ofString "1").cps = #[49] := cps_one
  have e2 : (Str.ofString "1").length = 1 := by decide
  unfold StrLaws.At Builtin.Str.subAt
  rw [e1, e2]
  constructor
  · intro ⟨h, q⟩
    have q := beq_iff_eq.mp q
    have h : i + 1 ≤ x.cps.size := h
    have : (x.cps.extract i (i + 1))[0]? = some 49 := by rw [q]; rfl
    rw [Array.getElem?_extract] at this
    simp at this
    simpa using this.2
  · intro h
    have hi : i < x.cps.size := by
      have := (List.getElem?_eq_some_iff.mp h).1
      simpa using this
    refine ⟨hi, beq_iff_eq.mpr ?_⟩
    have hv : x.cps[i] = 49 := by
      have := (List.getElem?_eq_some_iff.mp h).2
      simpa using this
    apply Array.ext
    · simp; omega
    · intro j h1 h2
      have hj : j = 0 := by simp at h2; omega
      subst hj
      simp [hv]
theorem made_rfind (hb : ∀ d ∈ cs, 0 ≤ d ∧ d < 32) : Txt.rfind (madeX name cs) (Str.ofString "1") = (name.cps.size : Int) := by
  have h1 : StrLaws.At (madeX name cs) (Str.ofString "1") (madeX name cs).length name.cps.size := by
    rw [at_one, made_list, List.getElem?_append_right (by simp)]
    simp
  have h2 : ∀ k, name.cps.size < k → ¬ StrLaws.At (madeX name cs) (Str.ofString "1") (madeX name cs).length k := by
    intro k hk
    rw [at_one, made_list, List.getElem?_append_right (by simp; omega)]
    intro e
    have e' : (49 :: cs.map signOf)[k - name.cps.size]? = some 49 := by simpa using e
    obtain ⟨j, hj⟩ : ∃ j, k - name.cps.size = j + 1 := ⟨k - name.cps.size - 1, by omega⟩
    rw [hj, List.getElem?_cons_succ] at e'
    obtain ⟨d, hd, e3⟩ := List.mem_map.mp (List.mem_of_getElem? e')
    exact (sign_of (hb d hd)).1.2 e3
  unfold Txt.rfind
  rcases StrLaws.last_spec (madeX name cs) (Str.ofString "1") with ⟨_, q⟩ | ⟨i, e, q, r⟩
  · exact absurd h1 (q _)
  · rw [e]
    have : i = name.cps.size := by
      rcases Nat.lt_trichotomy i name.cps.size with h | h | h
      · exact absurd h1 (r _ h)
      · exact h
      · exact absurd q (h2 _ h)
    rw [this]
end
theorem textFacts {x name : Str} {cs : List Int} (hn : NameOk name) (hb : ∀ d ∈ cs, 0 ≤ d ∧ d < 32) (h6 : 6 ≤ cs.length) (hm : cs.length < 100) (hx : x = madeX name cs ∨ x = Txt.upper (madeX name cs)) : TextFacts x name cs := by
  have hl := made_low hn hb
  have hA : ∀ c ∈ (madeX name cs).cps.toList, c < 128 := fun c hc => by have := hl c hc; unfold Low at this; omega
  have hU := upper_ascii hA
  have hUA : ∀ c ∈ (Str.mk ((madeX name cs).cps.map up1)).cps.toList, 48 ≤ c ∧ c < 123 := by
    intro c hc
    have hc' : c ∈ (madeX name cs).cps.toList.map up1 := by simpa using hc
    obtain ⟨d, hd, rfl⟩ := List.mem_map.mp hc'
    exact low_up_bound (hl d hd)
  have hlen := made_len (name := name) (cs := cs)
  have hmax := hn.max
  have hsz : (madeX name cs).cps.size = name.cps.size + 1 + cs.length := hlen
  have hlow : Txt.lower (madeX name cs) = madeX name cs := by
    rw [lower_ascii hA]
    exact Str.ext' (map_id fun c hc => low_lo (hl c hc))
  have hupl : Txt.lower (Txt.upper (madeX name cs)) = madeX name cs := by
    rw [hU, lower_ascii (fun c hc => by have := hUA c hc; omega)]
    refine Str.ext' ?_
    show ((madeX name cs).cps.map up1).map lo1 = (madeX name cs).cps
    rw [Array.map_map]
    exact map_id fun c hc => low_up_lo (hl c hc)
  have hupu : Txt.upper (Txt.upper (madeX name cs)) = Txt.upper (madeX name cs) := by
    rw [hU, upper_ascii (fun c hc => by have := hUA c hc; omega)]
    refine Str.ext' ?_
    show ((madeX name cs).cps.map up1).map up1 = (madeX name cs).cps.map up1
    rw [Array.map_map]
    apply Array.toList_inj.mp
    rw [Array.toList_map, Array.toList_map]
    exact List.map_congr_left fun c hc => low_up_up (hl c hc)
  refine { size := ?_, none := ?_, case := ?_, low := ?_, rfind := made_rfind hb, long := ?_, short := ?_, right := ?_, all := ?_, left := ?_, back := ?_ }
  · rcases hx with rfl | rfl
    · omega
    · rw [hU]; simp; omega
  · rcases hx with rfl | rfl
    · exact q1_no fun c hc => by have := hl c hc; unfold Low at this; omega
    · rw [hU]; exact q1_no hUA
  · rcases hx with rfl | rfl
    · exact .inl hlow
    · exact .inr hupu
  · rcases hx with rfl | rfl
    · exact hlow
    · exact hupl
  · rw [hlen]; omega
  · rw [hlen]; omega
  · rw [slice_from_eq (b := ((madeX name cs).length : Int)) (by omega) (by rw [hlen]; omega) rfl, hlen, made_list]
    have e1 : ((name.cps.size : Int) + 1).toNat = name.cps.size + 1 := by omega
    have e2 : (((name.cps.size + 1 + cs.length : Nat) : Int) - ((name.cps.size : Int) + 1)).toNat = cs.length := by omega
    rw [e1, e2]
    unfold signsS
    refine Str.ext' ?_
    show (List.take cs.length (List.drop (name.cps.size + 1) (name.cps.toList ++ 49 :: cs.map signOf))).toArray = (cs.map signOf).toArray
    have e3 : List.drop (name.cps.size + 1) (name.cps.toList ++ 49 :: cs.map signOf) = cs.map signOf := by
      rw [List.drop_append]
      simp
    rw [e3, List.take_of_length_le (by simp)]
  · rw [List.all_eq_true]
    intro c hc
    have hc' : c ∈ cs.map signOf := by simpa [signsS] using hc
    obtain ⟨d, hd, rfl⟩ := List.mem_map.mp hc'
    exact (sign_of (hb d hd)).2.1
  · have h := beq_iff_eq.mp (slice_closes_to (x := madeX name cs) (j := (name.cps.size : Int)) ⟨by omega, by
      have : (madeX name cs).cps.toList.length = name.cps.size + 1 + cs.length := by simpa using hsz
      rw [this]; omega⟩)
    rw [h, made_list]
    refine Str.ext' ?_
    simp
  · have : (signsS cs).cps.toList = cs.map signOf := by simp [signsS]
    rw [this, List.map_map]
    conv => rhs; rw [← List.map_id cs]
    exact List.map_congr_left fun d hd => (sign_of (hb d hd)).2.2
end Mine
end

-- part MOk
section
open PySem PySem.W PySem.Spec PySem.Calls PyProof.Rows
namespace Mine
inductive Pick (k : Addr) : List (Addr × Obj) → Obj → List (Addr × Obj) → Prop
  | here {o : Obj} {r : List (Addr × Obj)} : Pick k ((k, o) :: r) o r
  | there {p : Addr × Obj} {o : Obj} {r r' : List (Addr × Obj)} : Pick k r o r' → Pick k (p :: r) o (p :: r')
theorem Pick.sub {k : Addr} : ∀ {r : List (Addr × Obj)} {o : Obj} {r' : List (Addr × Obj)}, Pick k r o r' → ∀ p ∈ (k, o) :: r', p ∈ r
  | _, _, _, .here => fun _ h => h
  | _, _, _, .there h => fun p hp => by
    rcases List.mem_cons.mp hp with e | hp
    · exact .tail _ (h.sub p (e ▸ .head _))
    · rcases List.mem_cons.mp hp with e | hp
      · exact e ▸ .head _
      · exact .tail _ (h.sub p (.tail _ hp))
def NoF (o : Obj) : Prop := ∀ ps, o.data ≠ .fields ps
inductive NoFs : List (Addr × Obj) → Prop
  | nil : NoFs []
  | cons {a : Addr} {o : Obj} {r : List (Addr × Obj)} : NoF o → NoFs r → NoFs ((a, o) :: r)
theorem NoFs.at {r : List (Addr × Obj)} (x : NoFs r) : ∀ p ∈ r, NoF p.2 := by
  induction x with
  | nil => intro p hp; cases hp
  | cons h _ ih =>
    intro p hp
    rcases List.mem_cons.mp hp with e | hp
    · exact e ▸ h
    · exact ih p hp
theorem NoF.list {vs : Array Value} {n : Nat} : NoF (listOf vs n) := fun _ h => by cases h
theorem NoF.tuple {vs : Array Value} : NoF (tupO vs) := fun _ h => by cases h
theorem NoF.cell {o : Obj} {v : Option Value} (h : o.data = .cell v) : NoF o := by
  intro ps e; rw [h] at e; cases e
theorem NoFs.off {h₀ h : Heap} {L : Addr} {k : Addr} {o : Obj} {r : List (Addr × Obj)} (N : News h₀ L h ((k, o) :: r)) (hP : Places o) (x : NoFs r) : ∀ p ∈ r, p.1 ≠ k := by
  intro p hp e
  have h1 := (N _ (.head _)).1
  have h2 := (N _ (.tail _ hp)).1
  rw [e] at h2
  dsimp only at h1
  have h3 := Option.some.inj (h1.symm.trans h2)
  obtain ⟨ps, rfl, _⟩ := hP
  exact x.at p hp ps (by rw [← h3])
section
variable {w : World} {p : Program} {loose : List Str} {mean : ExcName → Option Value} {mg mb : Str → Option Value} {dp un : Nat} {gd : Option (List Code)} {cn : Str} {cs : Scope} {a : Addr} {ccd : Value} {cl : List (Str × Addr)} {outer : List Env} {A₀ : Around} {base h₀ : Heap} {L : Addr} {m : Str → Option Value} {news rest : List (Addr × Obj)} {s : Shared} {oP : Obj} {x name : Str} {ns : List Int} {tx : Tok} {Q E : Value → Shared → Prop}
theorem decode_ok (B : Below A₀ base outer h₀) (F : Fr h₀ L s.heap m) (X : (hd.heap_39 w.params).In h₀) (N : News h₀ L s.heap news) (T : Top p loose mean mg mb h₀) (hk : cs.kind = .function) (hpick : Pick 45 news oP rest) (hno : NoFs rest) (hP : Places oP) (hG : AllBare s.gens)
    (hn : NameOk name) (hb : ∀ d ∈ ns, 0 ≤ d ∧ d < 32) (h6 : 6 ≤ ns.length) (hm : ns.length < 100) (hx : x = madeX name ns ∨ x = Txt.upper (madeX name ns)) (hv : (expandI name ++ ns).foldl stepI 1 = 1) (hd' : dp + 6 < recursionLimit) (hu : un + 40 < cLine)
    (hret : ∀ T D ws t n h' tk' g' oP', IntsAre ws (ns.take (ns.length - 6)) → Places oP' → AllBare g' → Fr h₀ L h' m → News h₀ L h' ((T, tupO #[.str name t, .ref D]) :: (D, listOf ws.toArray n) :: (45, oP') :: rest) → Q (.ref T) { s with heap := h', toks := tk', gens := g' }) :
    wpAny (model PySem.Challenge.rw_bg0021_01.row.prog w) (ktrTop dp un gd cn cs L a ccd cl outer) (call (.ref 48) [.str x tx]) Q E s := by
  have t := textFacts hn hb h6 hm hx
  have N' := drop_news N hpick.sub
  have hs : (signsS ns).cps.size < 500 := by unfold signsS; simp only [List.size_toArray, List.length_map]; omega
  refine decode_call (g := unsign) B F X N' T hk hP (hno.off N' hP) hG t.size t.none t.case t.low t.rfind (by have := hn.pos; omega) (by have := hn.max; omega) t.long t.short t.right t.all t.left hs (by have := hn.max; omega) (fun _ _ => rfl) hd' hu ?_ ?_
  · rw [t.back]; exact fun _ => hret
  · rw [t.back]; exact fun h => absurd hv h
theorem decode_bad (B : Below A₀ base outer h₀) (F : Fr h₀ L s.heap m) (X : (hd.heap_39 w.params).In h₀) (N : News h₀ L s.heap news) (T : Top p loose mean mg mb h₀) (hk : cs.kind = .function) (hpick : Pick 45 news oP rest) (hno : NoFs rest) (hP : Places oP) (hG : AllBare s.gens)
    (hn : NameOk name) (hb : ∀ d ∈ ns, 0 ≤ d ∧ d < 32) (h6 : 6 ≤ ns.length) (hm : ns.length < 100) (hx : x = madeX name ns ∨ x = Txt.upper (madeX name ns)) (hv : (expandI name ++ ns).foldl stepI 1 ≠ 1) (hd' : dp + 6 < recursionLimit) (hu : un + 40 < cLine)
    (hret : ∀ T h' tk' g' oP', Places oP' → AllBare g' → Fr h₀ L h' m → News h₀ L h' ((T, tupO #[.none, .none]) :: (45, oP') :: rest) → Q (.ref T) { s with heap := h', toks := tk', gens := g' }) :
    wpAny (model PySem.Challenge.rw_bg0021_01.row.prog w) (ktrTop dp un gd cn cs L a ccd cl outer) (call (.ref 48) [.str x tx]) Q E s := by
  have t := textFacts hn hb h6 hm hx
  have N' := drop_news N hpick.sub
  have hs : (signsS ns).cps.size < 500 := by unfold signsS; simp only [List.size_toArray, List.length_map]; omega
  refine decode_call (g := unsign) B F X N' T hk hP (hno.off N' hP) hG t.size t.none t.case t.low t.rfind (by have := hn.pos; omega) (by have := hn.max; omega) t.long t.short t.right t.all t.left hs (by have := hn.max; omega) (fun _ _ => rfl) hd' hu ?_ ?_
  · rw [t.back]; exact fun h => absurd h hv
  · rw [t.back]; exact fun _ => hret
end
end Mine
end

-- part MBase
section
open PySem PySem.W PySem.Spec PySem.Calls PyProof.Rows
namespace Mine
section
variable {h h₁ : Heap} {L k : Addr} {m : Str → Option Value} {news : List (Addr × Obj)} {o : Obj}
theorem base_fr (F : Fr h L h₁ m) : Fr (h.hide k) L h₁ m := ⟨F.ns, fun b o e => F.keep b o (Heap.of_hide e), Nat.le_trans (Nat.le_of_eq (Heap.hide_size _ _)) F.above⟩
theorem base_none {b : Addr} (e : h.get? b = none) : (h.hide k).get? b = none := by
  cases q : (h.hide k).get? b with
  | none => rfl
  | some o => rw [Heap.of_hide q] at e; cases e
theorem base_news (F : Fr h L h₁ m) (N : News h L h₁ news) (e : h.get? k = some o) : News (h.hide k) L h₁ ((k, o) :: news) := by
  intro p hp
  rcases List.mem_cons.mp hp with rfl | hp
  · exact ⟨F.keep _ _ e, Nat.ne_of_lt (Nat.lt_of_lt_of_le (Heap.lt_size e) F.above), Heap.hide_self _ _⟩
  · have x := N p hp
    exact ⟨x.1, x.2.1, base_none x.2.2⟩
theorem base_in {K : Frag} (X : K.In h) (hk : K.lookup k = none) : K.In (h.hide k) := by
  intro a o e
  have : a ≠ k := fun q => by rw [q, hk] at e; cases e
  rw [Heap.hide_ne _ this]; exact X a o e
theorem base_ns {a : Addr} {m : Str → Option Value} (N : h.Ns a m) (hk : a ≠ k) : (h.hide k).Ns a m :=
  let ⟨o, es, ep, e, r⟩ := N; ⟨o, es, ep, by rw [Heap.hide_ne _ hk]; exact e, r⟩
theorem base_list {a : Addr} {vs : Array Value} (N : h.IsList a vs) (hk : a ≠ k) : (h.hide k).IsList a vs :=
  let ⟨o, e, r⟩ := N; ⟨o, by rw [Heap.hide_ne _ hk]; exact e, r⟩
def lawP : Program := { (default : Program) with main := { (default : Module) with body := [.ImportFrom (some "sys") [] none default] } }
theorem lawP_no : importsNone lawP = false := by decide
theorem base_top {p : Program} {loose : List Str} {mean : ExcName → Option Value} {mg mb : Str → Option Value} (T : Top p loose mean mg mb h) (e : h.get? k = some o) (hc : o.cls = .none) (h0 : k ≠ 0) (h2 : k ≠ 2) (h3 : k ≠ 3) :
    Top lawP (loose ++ (recsOf p).map (·.name) ++ (litsOf p).map (·.1) ++ (clssOf p loose).map (·.name)) mean mg mb (h.hide k) where
  g := base_ns T.g (Ne.symm h3)
  b := base_ns T.b (Ne.symm h0)
  nolimit := let ⟨mc, x, y⟩ := T.nolimit; ⟨mc, base_ns x (Ne.symm h2), y⟩
  nodigits := let ⟨mc, x, y⟩ := T.nodigits; ⟨mc, base_ns x (Ne.symm h2), y⟩
  fn := fun d hd => nomatch hd
  own := fun d hd => nomatch hd
  const := fun x d hd => nomatch hd
  free := fun x a b c d f => by
    simp only [List.mem_append, not_or] at b
    exact T.free x a b.1.1.1 b.1.1.2 b.1.2 b.2
  builtins := T.builtins
  tab := fun d hd => nomatch hd
  bmain := let ⟨bm, ob, a, b, c, d, f, g⟩ := T.bmain; ⟨bm, ob, a, b, by
    have : bm ≠ k := fun q => by
      rw [q, e] at c
      rw [← Option.some.inj c, hc] at d; cases d
    rw [Heap.hide_ne _ this]; exact c, d, f, g⟩
  seer := fun x => by rw [lawP_no] at x; cases x
theorem places_at {p : Program} {loose : List Str} {mean : ExcName → Option Value} {mg mb : Str → Option Value} (T : Top p loose mean mg mb h) {x : Str} {f c P : Addr} {of oc : Obj} {fd : FuncData} {vs : Array Value} (hx : (recsOf p).any (·.name == x) = true)
    (hm : mg x = some (.ref f)) (hf : h.get? f = some of) (hfd : of.data = .func fd) (hc : fd.code = .ref c) (ho : h.get? c = some oc) (hcd : oc.data = .fields vs) (h11 : vs[11]? = some (.ref P)) : h.TableAt c P #[] := by
  obtain ⟨d, hd, hn⟩ := List.any_eq_true.mp hx
  obtain ⟨a, o, fd', c', P', e1, e2, e3, e4, _, e6⟩ := T.tab d hd
  rw [beq_iff_eq.mp hn, hm] at e1
  cases e1
  cases hf.symm.trans e2
  rw [hfd] at e3
  cases e3
  rw [hc] at e4
  cases e4
  have e7 := e6
  obtain ⟨⟨o2, v2, g1, g2, g3, g4⟩, g5⟩ := e6
  cases ho.symm.trans g1
  rw [hcd] at g3
  cases g3
  rw [h11] at g4
  cases g4
  exact e7
theorem oldK_of {c : Addr} (ht : h.TableAt c k #[]) (F : Fr (h.hide k) L h₁ m) (e : h₁.get? k = some o) (hP : Places o) : OldK h h₁ := by
  have keep : ∀ b o', b ≠ k → h.get? b = some o' → h₁.get? b = some o' := fun b o' hb q => F.keep b o' (by rw [Heap.hide_ne _ hb]; exact q)
  refine ⟨fun b o' q => ?_, fun b o' q => ?_⟩
  · by_cases hb : b = k
    · subst hb
      cases q.symm.trans ht.2
      obtain ⟨ps, rfl, _⟩ := hP
      exact .inr (.inl ⟨ht.isCodeTable, rfl, #[], ps, rfl, by rw [e]; simp⟩)
    · exact .inl (keep b o' hb q)
  · by_cases hb : b = k
    · exact ⟨o, hb ▸ e⟩
    · exact ⟨o', keep b o' hb q⟩
end
end Mine
end

-- part MPlain
section
open PySem PySem.W PySem.Spec PySem.Calls PyProof.Rows
namespace Mine
theorem abc_facts : ∀ n : Fin 36, (97 ≤ abc.cps.getD n.val 0 ∧ abc.cps.getD n.val 0 ≤ 122) ∨ (48 ≤ abc.cps.getD n.val 0 ∧ abc.cps.getD n.val 0 ≤ 57) := by decide +kernel
theorem nameOk (ns : List Int) : NameOk (nameS ns) where
  pos := by unfold nameS; simp
  max := by unfold nameS; simp; omega
  all := by
    intro c hc
    have hc' : c ∈ (ns.take 3).map abcOf ++ [98] := by simpa [nameS] using hc
    rcases List.mem_append.mp hc' with hc' | hc'
    · obtain ⟨d, _, rfl⟩ := List.mem_map.mp hc'
      have h0 : 0 ≤ d.fmod 36 := Int.fmod_nonneg_of_pos d (by decide)
      have h1 : d.fmod 36 < 36 := Int.fmod_lt_of_pos d (by decide)
      exact abc_facts ⟨(d.fmod 36).toNat, by omega⟩
    · rw [List.mem_singleton.mp hc']; exact .inl (by decide)
/-- a list of naturals as ints -/
def up (l : List Nat) : List Int := l.map fun (n : Nat) => (n : Int)
theorem up_app (a b : List Nat) : up (a ++ b) = up a ++ up b := List.map_append ..
theorem up_of {ns : List Int} (h : ∀ d ∈ ns, 0 ≤ d ∧ d < 32) : ∃ l, ns = up l ∧ ∀ d ∈ l, d < 32 := by
  refine ⟨ns.map Int.toNat, ?_, ?_⟩
  · unfold up
    rw [List.map_map]
    conv => lhs; rw [← List.map_id ns]
    exact List.map_congr_left fun d hd => by
      have := (h d hd).1
      show d = ((d.toNat : Nat) : Int)
      omega
  · intro d hd
    obtain ⟨e, he, rfl⟩ := List.mem_map.mp hd
    have := h e he
    omega
theorem up_bound {l : List Nat} (h : ∀ d ∈ l, d < 32) : ∀ d ∈ up l, 0 ≤ d ∧ d < 32 := by
  intro d hd
  obtain ⟨e, he, rfl⟩ := List.mem_map.mp hd
  have := h e he
  omega
theorem up_inj : ∀ {a b : List Nat}, up a = up b → a = b
  | [], [], _ => rfl
  | [], _ :: _, h => by simp [up] at h
  | _ :: _, [], h => by simp [up] at h
  | x :: a, y :: b, h => by
    have h : (x : Int) :: up a = (y : Int) :: up b := h
    injection h with h1 h2
    rw [Int.ofNat.inj h1, up_inj h2]
theorem up_length {a : List Nat} : (up a).length = a.length := List.length_map ..
theorem turn_nat (t x : Nat) (i : Nat) (g : Nat) (hg : gensI.getD i 0 = (g : Int)) : turnI (t : Int) (x : Int) (i : Int) = ((x ^^^ onN (t.testBit i) g : Nat) : Int) := by
  unfold turnI
  rw [Int.toNat_natCast, hg]
  have h1 : Builtin.bitAnd ((t : Int).fdiv (2 ^ i)) 1 = ((t / 2 ^ i % 2 : Nat) : Int) := by
    have h : ∀ y : Int, Builtin.bitAnd y 1 = y % 2 ^ 1 := fun y => kbt_mask y 1
    rw [h, Int.fdiv_eq_ediv_of_nonneg _ (Int.pow_nonneg (by decide))]
    simp
  rw [h1, Nat.testBit_eq_decide_div_mod_eq]
  by_cases hb : t / 2 ^ i % 2 = 1
  · rw [if_neg (by omega), xor_nn, decide_eq_true hb]; rfl
  · rw [if_pos (by omega), decide_eq_false hb]
    exact xor_nn x 0
theorem stepI_nat (c v : Nat) : stepI (c : Int) (v : Int) = (stepN c v : Nat) := by
  unfold stepI
  have e1 : (c : Int).fdiv (2 ^ 25) = ((c / 2 ^ 25 : Nat) : Int) := by
    rw [Int.fdiv_eq_ediv_of_nonneg _ (by decide)]
    simp
  have e2 : Builtin.bitAnd (c : Int) 33554431 * 2 ^ 5 = ((c % 2 ^ 25 * 2 ^ 5 : Nat) : Int) := by
    have h : Builtin.bitAnd (c : Int) 33554431 = (c : Int) % 2 ^ 25 := kbt_mask _ 25
    rw [h]
    simp
  rw [e1, e2, xor_nn]
  have e3 : rangeKs 0 5 = [((0 : Nat) : Int), ((1 : Nat) : Int), ((2 : Nat) : Int), ((3 : Nat) : Int), ((4 : Nat) : Int)] := by decide
  rw [e3]
  simp only [List.foldl_cons, List.foldl_nil]
  rw [turn_nat _ _ 0 996825010 rfl, turn_nat _ _ 1 642813549 rfl, turn_nat _ _ 2 513874426 rfl, turn_nat _ _ 3 1027748829 rfl, turn_nat _ _ 4 705979059 rfl]
  unfold stepN gN
  simp only [Nat.xor_assoc]
theorem fold_nat : ∀ (vs : List Nat) (c : Nat), (up vs).foldl stepI (c : Int) = (vs.foldl stepN c : Nat)
  | [], _ => rfl
  | v :: vs, c => by
    show (up vs).foldl stepI (stepI c v) = _
    rw [stepI_nat, fold_nat vs]; rfl
theorem fold_lt : ∀ (vs : List Nat) (c : Nat), c < 2 ^ 30 → (∀ v ∈ vs, v < 32) → vs.foldl stepN c < 2 ^ 30
  | [], _, h, _ => h
  | v :: vs, c, _, hv => by
    rw [List.foldl_cons]
    exact fold_lt vs _ (stepN_lt (hv v (.head _))) fun x hx => hv x (.tail _ hx)
theorem expand_up {x : Str} (hx : ∀ c ∈ x.cps.toList, c < 128) : ∃ l, expandI x = up l ∧ ∀ d ∈ l, d < 32 := by
  refine up_of fun d hd => ?_
  unfold expandI at hd
  have hm : ∀ c : Nat, Builtin.bitAnd (c : Int) 31 = (c : Int) % 2 ^ 5 := fun c => kbt_mask _ 5
  rcases List.mem_append.mp hd with hd | hd
  · rcases List.mem_append.mp hd with hd | hd
    · obtain ⟨c, hc, rfl⟩ := List.mem_map.mp hd
      have := hx c hc
      rw [Int.fdiv_eq_ediv_of_nonneg _ (by decide)]
      omega
    · rw [List.mem_singleton.mp hd]; decide
  · obtain ⟨c, hc, rfl⟩ := List.mem_map.mp hd
    rw [hm]
    omega
theorem digit_nat (q k j : Nat) (i : Int) (hi : (5 * (5 - i)).toNat = k) (hj : 2 ^ k = j) : Builtin.bitAnd ((q : Int).fdiv (2 ^ (5 * (5 - i)).toNat)) 31 = ((q / j % 32 : Nat) : Int) := by
  have h : ∀ y : Int, Builtin.bitAnd y 31 = y % 2 ^ 5 := fun y => kbt_mask y 5
  rw [h, hi, Int.fdiv_eq_ediv_of_nonneg _ (Int.pow_nonneg (by decide)), ← hj]
  simp
theorem create_ok {x : Str} {ns : List Int} (hx : ∀ c ∈ x.cps.toList, c < 128) (hb : ∀ d ∈ ns, 0 ≤ d ∧ d < 32) : (expandI x ++ (ns ++ createI x ns)).foldl stepI 1 = 1 := by
  obtain ⟨ex, e1, h1⟩ := expand_up hx
  obtain ⟨l, e2, h2⟩ := up_of hb
  subst e2
  have z6 : ([0, 0, 0, 0, 0, 0] : List Int) = up [0, 0, 0, 0, 0, 0] := rfl
  obtain ⟨P, hP⟩ : ∃ P, (ex ++ l ++ [0, 0, 0, 0, 0, 0]).foldl stepN 1 = P := ⟨_, rfl⟩
  have eP : (expandI x ++ up l ++ [0, 0, 0, 0, 0, 0]).foldl stepI 1 = (P : Int) := by
    rw [e1, z6, ← up_app, ← up_app, ← hP]
    exact fold_nat _ 1
  have hPl : P < 2 ^ 30 := by
    rw [← hP]
    refine fold_lt _ _ (by decide) fun v hv => ?_
    rcases List.mem_append.mp hv with hv | hv
    · rcases List.mem_append.mp hv with hv | hv
      · exact h1 v hv
      · exact h2 v hv
    · have : v = 0 := by simpa using hv
      omega
  obtain ⟨q, hq⟩ : ∃ q, P ^^^ 1 = q := ⟨_, rfl⟩
  have hql : q < 2 ^ 30 := hq ▸ Nat.xor_lt_two_pow hPl (by decide)
  have eC : createI x (up l) = up [q / 33554432 % 32, q / 1048576 % 32, q / 32768 % 32, q / 1024 % 32, q / 32 % 32, q / 1 % 32] := by
    unfold createI
    rw [eP]
    have e3 : Builtin.bitXor (P : Int) 1 = (q : Int) := by rw [← hq]; exact xor_nn P 1
    rw [e3]
    have e4 : rangeKs 0 6 = [0, 1, 2, 3, 4, 5] := by decide
    rw [e4]
    simp only [List.map_cons, List.map_nil]
    rw [digit_nat q 25 33554432 0 (by decide) (by decide), digit_nat q 20 1048576 1 (by decide) (by decide), digit_nat q 15 32768 2 (by decide) (by decide), digit_nat q 10 1024 3 (by decide) (by decide), digit_nat q 5 32 4 (by decide) (by decide), digit_nat q 0 1 5 (by decide) (by decide)]
    rfl
  rw [e1, eC, ← up_app, ← up_app]
  have := fold_nat (ex ++ (l ++ [q / 33554432 % 32, q / 1048576 % 32, q / 32768 % 32, q / 1024 % 32, q / 32 % 32, q / 1 % 32])) 1
  rw [show ((1 : Nat) : Int) = 1 from rfl] at this
  rw [this, ← List.append_assoc, List.foldl_append]
  rw [List.foldl_append] at hP
  have h3 := fold_lin (vs := [0, 0, 0, 0, 0, 0]) (es := [q / 33554432 % 32, q / 1048576 % 32, q / 32768 % 32, q / 1024 % 32, q / 32 % 32, q / 1 % 32]) ((ex ++ l).foldl stepN 1) 0 rfl
  rw [hP, Nat.xor_zero] at h3
  simp only [List.zipWith_cons_cons, List.zipWith_nil_left, Nat.zero_xor] at h3
  rw [h3]
  have h4 : [q / 33554432 % 32, q / 1048576 % 32, q / 32768 % 32, q / 1024 % 32, q / 32 % 32, q / 1 % 32].foldl stepN 0 = q := by
    simp only [List.foldl_cons, List.foldl_nil]
    rw [show stepN 0 (q / 33554432 % 32) = q / 33554432 by rw [stepN_low (by decide) (by omega)]; omega,
      show stepN (q / 33554432) (q / 1048576 % 32) = q / 1048576 by rw [stepN_low (by omega) (by omega)]; omega,
      show stepN (q / 1048576) (q / 32768 % 32) = q / 32768 by rw [stepN_low (by omega) (by omega)]; omega,
      show stepN (q / 32768) (q / 1024 % 32) = q / 1024 by rw [stepN_low (by omega) (by omega)]; omega,
      show stepN (q / 1024) (q / 32 % 32) = q / 32 by rw [stepN_low (by omega) (by omega)]; omega,
      show stepN (q / 32) (q / 1 % 32) = q by rw [stepN_low (by omega) (by omega)]; omega]
  rw [h4, ← hq, xor_cancel]
  rfl
end Mine
end

-- part MLawA
section
open PySem PySem.W PySem.Spec PySem.Calls PyProof.Rows
namespace Mine
theorem NameOk.ascii {x : Str} (h : NameOk x) : ∀ c ∈ x.cps.toList, c < 128 := fun c hc => by
  rcases h.all c hc with h | h <;> omega
structure CodeOk (nm : Str) (row cs : List Int) : Prop where
  len : cs.length = row.length + 6
  max : row.length ≤ 20
  bnd : ∀ d ∈ cs, 0 ≤ d ∧ d < 32
  head : cs.take (cs.length - 6) = row
  rowb : ∀ d ∈ row, 0 ≤ d ∧ d < 32
  one : (expandI nm ++ cs).foldl stepI 1 = 1
theorem codeOk {nm : Str} {row : List Int} (hn : NameOk nm) (hb : ∀ d ∈ row, 0 ≤ d ∧ d < 32) (hm : row.length ≤ 20) : CodeOk nm row (row ++ createI nm row) where
  len := by rw [List.length_append, createI_length]
  max := hm
  bnd := fun d hd => (List.mem_append.mp hd).elim (hb d) (createI_bound d)
  head := by rw [List.length_append, createI_length, Nat.add_sub_cancel, List.take_left]
  rowb := hb
  one := create_ok hn.ascii hb
theorem mod_bound {α : Type} (f : α → Int) (ks : List α) : ∀ d ∈ ks.map (fun k => (f k).fmod 32), 0 ≤ d ∧ d < 32 := by
  intro d hd
  obtain ⟨k, _, rfl⟩ := List.mem_map.mp hd
  exact ⟨Int.fmod_nonneg_of_pos _ (by decide), Int.fmod_lt_of_pos _ (by decide)⟩
theorem law_around (n : Str) (sc : Scope) (L fa : Addr) (cd : Value) : ∃ dp un, dp + 20 < recursionLimit ∧ un + 100 < cLine ∧ callerA.deeper (envOfC n sc L fa cd) = ktrTop dp un (some []) n sc L fa cd (cellsFrom (L + 1) sc.names []) [] :=
  ⟨302, 7, by decide, by decide, rfl⟩
theorem CodeOk.max26 {nm : Str} {row cs : List Int} (c : CodeOk nm row cs) : 6 ≤ cs.length ∧ cs.length ≤ 26 := by
  have := c.len; have := c.max; omega
theorem signsS_size {ns : List Int} : (signsS ns).cps.size = ns.length := by
  unfold signsS; simp only [List.size_toArray, List.length_map]
theorem madeX_size {nm : Str} {row cs : List Int} (hn : NameOk nm) (c : CodeOk nm row cs) : (madeX nm cs).cps.size ≤ 31 := by
  have := hn.max; have := c.max26
  unfold madeX
  simp only [Array.size_append, signsS_size, List.size_toArray, List.length_cons, List.length_nil]
  omega
theorem madeX_facts {nm : Str} {row cs : List Int} (hn : NameOk nm) (c : CodeOk nm row cs) : TextFacts (madeX nm cs) nm cs :=
  textFacts hn c.bnd (by have := c.max26; omega) (by have := c.max26; omega) (.inl rfl)
theorem signs_back {nm : Str} {row cs : List Int} (hn : NameOk nm) (c : CodeOk nm row cs) : (signsS cs).cps.toList.map unsign = cs := (madeX_facts hn c).back
theorem slice_made {nm : Str} {row cs : List Int} (hn : NameOk nm) (c : CodeOk nm row cs) : Txt.slice (madeX nm cs) (some ((nm.length : Int) + 1)) none = signsS cs := (madeX_facts hn c).right
section
variable {w : World} {p : Program} {loose : List Str} {mean : ExcName → Option Value} {mg mb : Str → Option Value} {dp un : Nat} {gd : Option (List Code)} {cn : Str} {cs : Scope} {a : Addr} {ccd : Value} {cl : List (Str × Addr)} {outer : List Env} {A₀ : Around} {base h₀ : Heap} {L : Addr} {m : Str → Option Value} {news rest : List (Addr × Obj)} {s : Shared} {oP : Obj} {x name : Str} {ns : List Int} {tx : Tok} {Q E : Value → Shared → Prop}
theorem encode_law {l : Addr} {vs : List Value} {nn : Nat} {g : Int → Int} {ks : List Int} (B : Below A₀ base outer h₀) (F : Fr h₀ L s.heap m) (X : (hd.heap_39 w.params).In h₀) (N : News h₀ L s.heap news) (T : Top p loose mean mg mb h₀) (hk : cs.kind = .function) (hn : NameOk name) (hl : (l, listOf vs.toArray nn) ∈ news)
    (hi : IntsAre vs (ks.map fun k => (g k).fmod 32)) (hm : ks.length ≤ 20) (hd' : dp + 4 < recursionLimit) (hu : un + 30 < cLine)
    (hret : ∀ t h' tk' row co, IntsAre vs row → CodeOk name row co → Fr h₀ L h' m → News h₀ L h' news → Q (.str (madeX name co) t) { s with heap := h', toks := tk' }) :
    wpAny (model PySem.Challenge.rw_bg0021_01.row.prog w) (ktrTop dp un gd cn cs L a ccd cl outer) (call (.ref 43) [.str name tx, .ref l]) Q E s :=
  encode_call B F X N T hk (by have := hn.max; omega) hl hi (by rw [List.length_map]; omega) (mod_bound g ks) hd' hu fun t h' tk' F' N' => hret t h' tk' _ _ hi (codeOk hn (mod_bound g ks) (by rw [List.length_map]; exact hm)) F' N'
end
end Mine
end

-- part MCmp
section
open PySem PySem.W PySem.Spec PySem.Calls PyProof.Rows PySem.SeqAt
namespace Mine
theorem all_eq {ns ns' : List Int} {k : Nat} (h : ns.length = k) (h' : ns'.length = k) : (List.range k).all (fun j => decide (ns[j]? = ns'[j]?)) = decide (ns = ns') := by
  rw [Bool.eq_iff_iff, List.all_eq_true, decide_eq_true_eq]
  constructor
  · intro x
    refine List.ext_getElem? fun i => ?_
    by_cases hi : i < k
    · exact of_decide_eq_true (x i (List.mem_range.mpr hi))
    · rw [List.getElem?_eq_none (by omega), List.getElem?_eq_none (by omega)]
  · intro x j _
    subst x; exact decide_eq_true rfl
theorem lists_eq {A : Around} {s : Shared} {l b : Addr} {vs ws : List Value} {ns ns' : List Int} (hl : s.heap.IsList l vs.toArray) (hb : s.heap.IsList b ws.toArray) (hi : IntsAre vs ns) (hj : IntsAre ws ns') (hu : A.units < cLine) :
    RcAt A s (.ref l) (.ref b) (decide (ns = ns')) := by
  have e1 : vs.length = ns.length := hi.length
  have e2 : ws.length = ns'.length := hj.length
  by_cases hn : ns.length = ns'.length
  · have := RcAt.lists (A := A) (e := fun j => decide (ns[j]? = ns'[j]?)) hl hb (by simp; omega) hu (fun j h1 h2 => by
      obtain ⟨n, t, ev, en⟩ := IntsAre.at hi j (vs.toArray[j]) (by simp)
      obtain ⟨n', t', ev', en'⟩ := IntsAre.at hj j (ws.toArray[j]) (by simp)
      rw [ev, ev', en, en']
      have := EqAt.int_int (A := A.in1) (s := s) n t n' t'
      have e : decide ((some n : Option Int) = some n') = (n == n') := by rw [Bool.eq_iff_iff, decide_eq_true_eq, beq_iff_eq, Option.some.injEq]
      rw [e]; exact this)
    rw [List.size_toArray, all_eq (k := vs.length) (by omega) (by omega)] at this
    exact this
  · rw [decide_eq_false (fun e => hn (by rw [e]))]
    exact RcAt.lists_lengths hl hb (by simp; omega) hu
section
variable {prog : Program} {w : World} {A : Around} {E : Value → Shared → Prop} {s : Shared} {h₀ : Heap} {L T T' D R : Addr} {news : List (Addr × Obj)} {Q : Value → Shared → Prop} {x : Str} {t t' : Tok} {vs ws : List Value} {ns : List Int} {a b k k' : Nat}
theorem news_tuple {v : Array Value} (N : News h₀ L s.heap news) (h1 : (T, { cls := .type "tuple", data := .seq v k }) ∈ news) : s.heap.IsTuple T v := ⟨_, (N _ h1).1, rfl, _, rfl⟩
theorem cmp_pair (N : News h₀ L s.heap news) (h1 : (T, { cls := .type "tuple", data := .seq #[.str x t, .ref D] k }) ∈ news) (h2 : (T', { cls := .type "tuple", data := .seq #[.str x t', .ref R] k' }) ∈ news)
    (h3 : (D, listOf ws.toArray a) ∈ news) (h4 : (R, listOf vs.toArray b) ∈ news) (hi : IntsAre ws ns) (hj : IntsAre vs ns) (hu : A.units + 2 < cLine) (h : Q (.bool false) s) :
    wpAny (model prog w) A (compareOp .NotEq (.ref T) (.ref T')) Q E s := by
  refine cmp_ofNotEq (RcNeAt.tuples (e := fun _ => true) (news_tuple N h1) (news_tuple N h2) (by omega) (fun j g1 g2 => ?_) prog w E Q h)
  rcases j with _ | _ | j
  · have := EqAt.str_str (A := A.in1) (s := s) x t x t'
    rw [beq_self_eq_true] at this
    exact this
  · show EqAt A.in1 s (.ref D) (.ref R) true
    by_cases hd : D = R
    · subst hd; exact EqAt.same _
    · have := lists_eq (A := A.in1) (News.isList N h3) (News.isList N h4) hi hj (show A.units + 1 < cLine by omega)
      rw [decide_eq_true rfl] at this
      exact EqAt.of_refs hd this
  · exact absurd g1 (by simp)
theorem cmp_none (N : News h₀ L s.heap news) (h1 : (T, { cls := .type "tuple", data := .seq #[.none, .none] k }) ∈ news) (h2 : (T', { cls := .type "tuple", data := .seq #[.none, .none] k' }) ∈ news)
    (hu : A.units + 2 < cLine) (h : Q (.bool false) s) :
    wpAny (model prog w) A (compareOp .NotEq (.ref T) (.ref T')) Q E s := by
  refine cmp_ofNotEq (RcNeAt.tuples (e := fun _ => true) (news_tuple N h1) (news_tuple N h2) (by omega) (fun j g1 g2 => ?_) prog w E Q h)
  rcases j with _ | _ | j
  · exact EqAt.same _
  · exact EqAt.same _
  · exact absurd g1 (by simp)
theorem cmp_lists {ns' : List Int} (N : News h₀ L s.heap news) (h3 : (D, listOf ws.toArray a) ∈ news) (h4 : (R, listOf vs.toArray b) ∈ news) (hi : IntsAre ws ns) (hj : IntsAre vs ns') (hne : ns ≠ ns') (hu : A.units + 2 < cLine) (h : Q (.bool false) s) :
    wpAny (model prog w) A (compareOp .Eq (.ref D) (.ref R)) Q E s := by
  refine cmp_ofEq ?_
  have := lists_eq (A := A) (News.isList N h3) (News.isList N h4) hi hj (by omega)
  rw [decide_eq_false hne] at this
  exact this prog w E Q h
end
end Mine
end

-- part MStm
section
open PySem PySem.W PySem.Spec PySem.Calls PyProof.Rows
namespace Mine
def lawDef : List Stmt × Scope := match PySem.Challenge.pw_bg0021_01.main.body.getLast? with
  | some (.FunctionDef _ _ body _ _ _ scope _ _ _) => (body, scope)
  | _ => ([], default)
abbrev lawBody : List Stmt := lawDef.1
abbrev lawScope : Scope := lawDef.2
/-- the last test of the law's last branch -/
def lawInner : List Stmt := match lawDef.1.drop 11 with
  | .If _ body _ _ :: _ => body.drop 3
  | _ => []
structure TurnsOk (ts : List Int) : Prop where
  pos : 1 ≤ ts.length
  max : ts.length ≤ 6
  bnd : ∀ t ∈ ts, 0 ≤ t ∧ t < 32
  sum : 0 < ts.sum
theorem sum_nonneg : ∀ {ts : List Int}, (∀ t ∈ ts, 0 ≤ t) → 0 ≤ ts.sum
  | [], _ => by simp
  | a :: r, h => by
    rw [List.sum_cons]
    have := sum_nonneg (ts := r) fun t ht => h t (.tail _ ht)
    have := h a (.head _)
    omega
theorem turnsOk_a {f : Int → Int} {ks : List Int} (h1 : 1 ≤ ks.length) (h2 : ks.length ≤ 6) (h : (ks.map fun k => (f k).fmod 32).sum ≠ 0) : TurnsOk (ks.map fun k => (f k).fmod 32) where
  pos := by rw [List.length_map]; exact h1
  max := by rw [List.length_map]; exact h2
  bnd := mod_bound f ks
  sum := by
    have := sum_nonneg (ts := ks.map fun k => (f k).fmod 32) fun t ht => (mod_bound f ks t ht).1
    omega
theorem turnsOk_b {f : Int → Int} {ks : List Int} {j : Nat} (hj : j = 0) (h1 : 1 ≤ ks.length) (h2 : ks.length ≤ 6) (h : (ks.map fun k => (f k).fmod 32).sum = 0) : TurnsOk ((ks.map fun k => (f k).fmod 32).set j 1) where
  pos := by rw [List.length_set, List.length_map]; exact h1
  max := by rw [List.length_set, List.length_map]; exact h2
  bnd := fun t ht => by
    rcases List.mem_or_eq_of_mem_set ht with h | rfl
    · exact mod_bound f ks t h
    · decide
  sum := by
    subst hj
    cases ks with
    | nil => simp at h1
    | cons a r =>
      rw [List.map_cons, List.set_cons_zero, List.sum_cons]
      have := sum_nonneg (ts := r.map fun k => (f k).fmod 32) fun t ht => (mod_bound f r t ht).1
      omega
structure WordOk (ws : List Int) : Prop where
  bnd : ∀ d ∈ ws, 0 ≤ d ∧ d < 32
  six : 6 ≤ ws.length
  max : ws.length ≤ 26
theorem made_cat {nm : Str} {ws : List Int} : nm ++ Str.ofString "1" ++ Str.mk (List.map signOf ws).toArray = madeX nm ws := Str.ext' (by rw [Str.cps_append, Str.cps_append, cps_one]; rfl)
def chgOf (f : Int → Int → Int) (co : List Int) (p : Nat) (ts : List Int) : List Int := co.take p ++ List.zipWith f (co.drop p) ts ++ co.drop (p + ts.length)
theorem chg_eq {f : Int → Int → Int} {co ts : List Int} {q : Int} {p n : Nat} (h : q = (p : Int)) (hn : n = ts.length) : co.take q.toNat ++ List.zipWith f (co.drop q.toNat) ts ++ co.drop (q + (n : Int)).toNat = chgOf f co p ts := by
  subst h hn
  unfold chgOf
  rw [Int.toNat_natCast, show ((p : Int) + (ts.length : Int)).toNat = p + ts.length by omega]
theorem place_ok (n : Int) {a b : Nat} (h : b ≤ a) : ∃ p : Nat, n.fmod ((a : Int) - (b : Int) + 1) = (p : Int) ∧ p + b ≤ a := by
  have h0 : 0 ≤ n.fmod ((a : Int) - (b : Int) + 1) := Int.fmod_nonneg_of_pos _ (by omega)
  have h1 : n.fmod ((a : Int) - (b : Int) + 1) < (a : Int) - (b : Int) + 1 := Int.fmod_lt_of_pos _ (by omega)
  exact ⟨(n.fmod ((a : Int) - (b : Int) + 1)).toNat, by omega, by omega⟩
end Mine
end

-- part MTurns
section
open PySem PySem.W PySem.Spec PySem.Calls PyProof.Rows
namespace Mine
section
local macro_rules | `(tactic| walk_at "pad 0") => `(tactic| skip)
local macro_rules | `(tactic| walk_at "tails") => `(tactic| repeat (first | assumption | refine List.Mem.tail _ ?_))
local macro_rules | `(tactic| walk_at "mem_sub") => `(tactic| (intro p hp; simp only [List.mem_cons, List.mem_append] at hp ⊢; grind))
local macro_rules | `(tactic| walk_at "pick") => `(tactic| first | exact Pick.here | exact Pick.there (Pick.here) | exact Pick.there (Pick.there (Pick.here)) | exact Pick.there (Pick.there (Pick.there (Pick.here))) | exact Pick.there (Pick.there (Pick.there (Pick.there (Pick.here)))) | exact Pick.there (Pick.there (Pick.there (Pick.there (Pick.there (Pick.here))))) | exact Pick.there (Pick.there (Pick.there (Pick.there (Pick.there (Pick.there (Pick.here)))))))
local macro_rules | `(tactic| walk_at "nofs") => `(tactic| repeat (first | exact NoFs.nil | refine NoFs.cons ?_ ?_ | exact NoF.list | exact NoF.tuple | assumption))
local macro_rules | `(tactic| walk_at "call ref") => `(tactic| (k_here; (with_reducible show wpAny _ _ (call (Value.ref 67) _) _ _ _); k_dflt (refine' name_call ?k1 ?k2 ?k3 ?k4 ?k5 ?kK ?kl ?ki ?kn ?kd ?ku ?_; (case k1 => k_asm); (case k2 => k_asm); (case k3 => k_asm); (case k4 => k_asm); (case k5 => k_asm); (case kK => first | exact rfl | assumption); (case kl => assumption); (case ki => assumption); (case kn => omega); (case kd => ktr_room); (case ku => ktr_units)); intro t9 h9 tk9 F9 N9; (rename (nameS _ = _) => hnm'); (rw [hnm']); (try dsimp only); (try k_fold)))
local macro_rules | `(tactic| walk_at "call ref") => `(tactic| first | (k_here; (with_reducible show wpAny _ _ (call (Value.ref 55) _) _ _ _); k_dflt (refine' at_call ?k1 ?k2 ?k3 ?k4 ?k5 ?kK ?kl ?ki ?kn ?kp ?kq ?kd ?ku ?_; (case k1 => k_asm); (case k2 => k_asm); (case k3 => k_asm); (case k4 => k_asm); (case k5 => k_asm); (case kK => first | exact rfl | assumption); (case kl => assumption); (case ki => assumption); (case kn => omega); (case kp => omega); (case kq => omega); (case kd => ktr_room); (case ku => ktr_units)); intro t9 h9 tk9 F9 N9; (try dsimp only); (try k_fold)) | ((with_reducible show wpAny _ _ (call (Value.ref 55) _) _ _ _); refine hold2 ?_))
local macro_rules | `(tactic| walk_at "call ref") => `(tactic| (k_here; (with_reducible show wpAny _ _ (call (Value.ref 43) _) _ _ _); k_dflt (refine' encode_law ?k1 ?k2 ?k3 ?k4 ?k5 ?kK ?kn ?kl ?ki ?km ?kd ?ku ?_; (case k1 => k_asm); (case k2 => k_asm); (case k3 => k_asm); (case k4 => k_asm); (case k5 => k_asm); (case kK => first | exact rfl | assumption); (case kn => assumption); (case kl => k_mem); (case ki => assumption); (case km => (rw [rangeKs_length]; omega)); (case kd => ktr_room); (case ku => ktr_units)); intro t9 h9 tk9 row9 co9 iR9 cO9 F9 N9; (try dsimp only); (try k_fold)))
local macro_rules | `(tactic| walk_at "call ref") => `(tactic| (k_here; (with_reducible show wpAny _ _ (call (Value.ref 48) _) _ _ _); (rename CodeOk _ _ _ => cO'); k_dflt (refine' decode_ok ?k1 ?k2 ?k3 ?k4 ?k5 ?kK ?kp ?kq ?kP ?kG ?kn ?kb ?k6 ?km ?kx ?kv ?kd ?ku ?_; (case k1 => k_asm); (case k2 => k_asm); (case k3 => k_asm); (case k4 => k_asm); (case k5 => k_asm); (case kK => first | exact rfl | assumption); (case kp => walk_at "pick"); (case kq => walk_at "nofs"); (case kP => assumption); (case kG => assumption); (case kn => assumption); (case kb => exact cO'.bnd); (case k6 => (have := cO'.len; omega)); (case km => (have := cO'.len; have := cO'.max; omega)); (case kx => first | exact .inl rfl | exact .inr rfl); (case kv => exact cO'.one); (case kd => ktr_room); (case ku => ktr_units)); intro T9 D9 ws9 t9 n9 h9 tk9 g9 oP9 iW9 hP9 hG9 F9 N9; (rw [cO'.head] at iW9); (try dsimp only); (try k_fold)))
local macro_rules | `(tactic| walk_at "compareOp NotEq ref ref") => `(tactic| first | (k_here; k_dflt (refine' cmp_pair ?c1 ?c2 ?c3 ?c4 ?c5 ?c6 ?c7 ?c8 ?_; (case c1 => k_asm); (case c2 => k_mem); (case c3 => k_mem); (case c4 => k_mem); (case c5 => k_mem); (case c6 => assumption); (case c7 => assumption); (case c8 => first | ktr_units | (dsimp only [ktrTop]; omega)); (try dsimp only); (try k_fold))) | refine hold2 ?_)
local macro_rules | `(tactic| walk_at "call builtin:str.upper") => `(tactic| (k_here; (try dsimp only); (rename NameOk _ => nO'); (rename CodeOk _ _ _ => cO'); (have mz' := madeX_size nO' cO'); (refine SC.upper (fit_upper (by simp only [Str.length]; omega)) ?_); (try dsimp only)))
local macro_rules | `(tactic| walk_at "exec Assign cons ListComp") => `(tactic| (k_here; k_dflt (refine Assign_ListComp_T (by k_asm) (by rfl) (by with_unfolding_all rfl) (by with_unfolding_all rfl) (by decide) (by rfl) (by decide) (by rfl) (by rfl) (by rfl) ?_); (with_reducible show wpAny _ _ (eval (Expr.Subscript _ _ _) _) _ _ _)))
local macro_rules | `(tactic| walk_at "TextSrc") => `(tactic| (k_here; (rename NameOk _ => nO'); (rename CodeOk _ _ _ => cO'); (rw [slice_made nO' cO']); k_dflt (refine' TextSrc.ints unsign (by rfl) (by k_asm) (by k_asm) (by rw [PySem.sizeLine_eq, signsS_size]; (have := cO'.max26); omega) (fun c' u' I' oI' C' oC' D' m' ys' h' tk' E' hc' hC' hx' F' N' off' ne' => ?_) ?_); kcf_last))
local macro_rules | `(tactic| walk_at "CompEnd") => `(tactic| ((refine LCg.CompEnd.intro (by assumption) (by assumption) _ ?sub (by assumption) trivial (EltIs.int ?val)); (case sub => walk_at "mem_sub"); (case val => exact rfl)))
local macro_rules | `(tactic| walk_at "Hold") => `(tactic| ((refine id (α := ∀ (_ : Heap), _) ?_); (rename NameOk _ => nO'); (rename CodeOk _ _ _ => cO'); intro gh ys' hys' D' h' tk' F' N' o1'; (try rw [signs_back nO' cO'] at hys')))
local macro_rules | `(tactic| walk_at "setItem ref int") => `(tactic| (k_here; k_dflt (refine' ksa_set ?k1 ?k2 ?k3 ?k4 ?k5 ?k6 ?k7 ?_; (case k1 => k_asm); (case k2 => k_asm); (case k3 => k_upd); (case k4 => with_reducible assumption); (case k5 => decide); (case k6 => (rw [List.length_map, rangeKs_length]; omega)); (case k7 => decide); k_whole); intro h' F' N' hi' hl' hs'))
local macro_rules | `(tactic| walk_at "execs cons") => `(tactic| ((with_reducible show wpAny _ _ (execs (Stmt.Assign [Expr.Name (Str.ofString "turns") _] (Expr.Subscript _ _ _) _ :: _) _) _ _ _); refine hold2 ?_))
set_option maxRecDepth 100000 in
set_option maxHeartbeats 1200000 in
theorem law_turns : ∀ {w : World} {loose : List Str} {mean : ExcName → Option Value} {mg mb : Str → Option Value} {dp un : Nat} {fa : Addr} {ccd : Value} {h₀ : Heap} {L : Addr} {s : Shared} {l : Addr} {vs : List Value} {ns : List Int} {w1 w2 : Obj} {nm : Str} {row co : List Int} {Ds Dr : Addr} {sv rv : List Value} {ks kr : Nat} {tm tn : Tok} {oP : Obj} {Q : Flow → Shared → Prop} {E : Value → Shared → Prop},
  Below callerA h₀ [] h₀ → Fr h₀ L s.heap (fun y => if y = Str.ofString "signs" then some (.ref Ds) else if y = Str.ofString "made" then some (.str (madeX nm co) tm) else if y = Str.ofString "row" then some (.ref Dr) else if y = Str.ofString "name" then some (.str nm tn) else none) →
  (hd.heap_39 w.params).In h₀ → News h₀ L s.heap [(Ds, listOf sv.toArray ks), (45, oP), (Dr, listOf rv.toArray kr), (L + 1 + 1, w1), (L + 1, w2)] → Top lawP loose mean mg mb h₀ → h₀.IsList l vs.toArray → IntsAre vs ns → ns.length ≤ 63 → w1.data = .cell none → w2.data = .cell (some (.ref l)) →
  IntsAre sv co → IntsAre rv row → NameOk nm → CodeOk nm row co → Places oP → AllBare s.gens → dp + 20 < recursionLimit → un + 100 < cLine →
  (∀ h' tk' Dt tv ts k, IntsAre tv ts → TurnsOk ts → Fr h₀ L h' (fun y => if y = Str.ofString "turns" then some (.ref Dt) else if y = Str.ofString "signs" then some (.ref Ds) else if y = Str.ofString "made" then some (.str (madeX nm co) tm) else if y = Str.ofString "row" then some (.ref Dr) else if y = Str.ofString "name" then some (.str nm tn) else none) →
    News h₀ L h' [(Dt, listOf tv.toArray k), (Ds, listOf sv.toArray ks), (45, oP), (Dr, listOf rv.toArray kr), (L + 1 + 1, w1), (L + 1, w2)] →
    wpAny (model PySem.Challenge.rw_bg0021_01.row.prog w) (ktrTop dp un (some []) (Str.ofString "law") lawScope L fa ccd (cellsFrom (L + 1) lawScope.names []) []) (execs (lawBody.drop 7) (envOfC (Str.ofString "law") lawScope L fa ccd)) Q E { s with heap := h', toks := tk' }) →
  wpAny (model PySem.Challenge.rw_bg0021_01.row.prog w) (ktrTop dp un (some []) (Str.ofString "law") lawScope L fa ccd (cellsFrom (L + 1) lawScope.names []) []) (execs (lawBody.drop 5) (envOfC (Str.ofString "law") lawScope L fa ccd)) Q E s := by
  w_top off
  k_fill
  intro w loose mean mg mb dp un fa ccd h₀ L s l vs ns w1 w2 nm row co Ds Dr sv rv ks kr tm tn oP Q E B1 F1 X1 N1 T1 hl hi hlen c1 c2 his hir hnO cO hP hG hd' hu' hrest
  have nf1 : NoF _ := NoF.cell c1
  have nf2 : NoF _ := NoF.cell c2
  obtain ⟨tn, htn, htl⟩ : ∃ tn : Nat, (ns.getD (Int.toNat 5) 5).fmod 6 = (tn : Int) ∧ tn ≤ 5 := by
    have h0 : 0 ≤ (ns.getD (Int.toNat 5) 5).fmod 6 := Int.fmod_nonneg_of_pos _ (by decide)
    have h1 : (ns.getD (Int.toNat 5) 5).fmod 6 < 6 := Int.fmod_lt_of_pos _ (by decide)
    exact ⟨((ns.getD (Int.toNat 5) 5).fmod 6).toNat, by omega, by omega⟩
  have hnl : nm.length < 500 := by have := hnO.max; simp only [Str.length]; omega
  unfold lawBody lawScope lawDef
  dsimp only [PySem.Challenge.pw_bg0021_01, List.getLast?, List.getLast, List.drop]
  (try k_fold)
  k_steps
  · exact hrest _ _ _ _ _ _ (by assumption) (turnsOk_b (by rfl) (by rw [rangeKs_length]; omega) (by rw [rangeKs_length]; omega) (by assumption)) (by assumption) (by assumption)
  · exact hrest _ _ _ _ _ _ (by assumption) (turnsOk_a (by rw [rangeKs_length]; omega) (by rw [rangeKs_length]; omega) (by assumption)) (by assumption) (by assumption)
end
end Mine
end

-- part MZip
section
open PySem PySem.W PySem.Spec PySem.Calls PyProof.Rows
namespace Mine
open PyProof.Rows.LCg PyProof.Rows.LCp
def itsOf (h : Heap) (fp : List Addr) : List (Addr × Obj) := fp.filterMap fun b => (h.get? b).map fun o => (b, o)
theorem itsOf_mem {h : Heap} {fp : List Addr} {p : Addr × Obj} (x : p ∈ itsOf h fp) : p.1 ∈ fp ∧ h.get? p.1 = some p.2 := by
  obtain ⟨b, hb, e⟩ := List.mem_filterMap.mp x
  cases q : h.get? b with
  | none => rw [q] at e; cases e
  | some o => rw [q] at e; cases e; exact ⟨hb, q⟩
theorem mem_itsOf {h : Heap} {fp : List Addr} {b : Addr} {o : Obj} (hb : b ∈ fp) (e : h.get? b = some o) : (b, o) ∈ itsOf h fp :=
  List.mem_filterMap.mpr ⟨b, hb, by rw [e]; rfl⟩

def ZEnd (h₀ : Heap) (L : Addr) (m : Str → Option Value) (s₁ : Shared) (C : Addr) (oC : Obj) (all : List (Addr × Obj)) (W : Value → Prop) (y : Value) (s₂ : Shared) : Prop :=
  ∃ h' tk', s₂ = { s₁ with heap := h', toks := tk' } ∧ Fr h₀ L h' m ∧ News h₀ L h' ((C, oC) :: all) ∧ W y
theorem ZEnd.intro {h₀ h' : Heap} {L : Addr} {m : Str → Option Value} {s₁ : Shared} {C : Addr} {oC : Obj} {all news : List (Addr × Obj)} {W : Value → Prop} {y : Value} {tk' : Nat} (F : Fr h₀ L h' m) (N : News h₀ L h' news) (hs : ∀ p ∈ (C, oC) :: all, p ∈ news) (hy : W y) :
    ZEnd h₀ L m s₁ C oC all W y { s₁ with heap := h', toks := tk' } := ⟨h', tk', rfl, F, fun p hp => N p (hs p hp), hy⟩

section
variable {prog : Program} {w : World} {A : Around} {E : Value → Shared → Prop} {s : Shared} {h₀ : Heap} {L : Addr} {m : Str → Option Value} {env : Env} {elt iter : Expr} {x x₂ : Str} {px px₂ tp : Pos} {tk : Nat} {scope : Scope} {cl : List (Str × Addr)} {pos : Pos} {news : List (Addr × Obj)}
theorem block_Z {s₂ : Shared} {I : Addr} {fp wr : List Addr} {n : Nat} {Pt : Nat → Array Value → Prop} {St : Nat → Heap → Prop} {Mid : Nat → Addr → Heap → Prop} {V : Nat → Value → Prop} {RR : Value → Addr → Result → Shared → Prop}
    (W : WalksT prog w A I fp wr n Pt St Mid) (hsz : n ≤ sizeLine) (hPt : ∀ i vals, Pt i vals → ∃ a b, vals = #[a, b])
    (hcell : ∀ y ∈ scope.names, y.2 ≠ .cell) (hkind : scope.kind = .function) (hx : scope.names.lookup x = some .local) (hx₂ : scope.names.lookup x₂ = some .local) (hxx : x ≠ x₂) (hh : A.handled = none) (hst : St 0 s₂.heap)
    (hfp : ∀ b ∈ fp, b < s₂.heap.objs.size ∧ b ≠ L ∧ h₀.get? b = none)
    (F : Fr h₀ L s₂.heap m) (N : News h₀ L s₂.heap news) (off : ∀ p ∈ news, p.1 ∉ wr)
    (turn : ∀ i a b C oC all m₂ h tk (E' : Value → Shared → Prop), i < n → Pt i #[a, b] → NsObj oC m₂ → m₂ x = some a → m₂ x₂ = some b → Fr h₀ L h m → News h₀ L h ((C, oC) :: all) → (∀ p ∈ news, p ∈ all) →
      wpAny (model prog w) A (eval elt (compEnvC scope cl C env)) (ZEnd h₀ L m { s₂ with heap := h, toks := tk } C oC all (V i)) E' { s₂ with heap := h, toks := tk })
    (hRR : ∀ D C h tk m' ys, Fr h₀ L h m → News h₀ L h ((D, lst ys) :: news) → (∀ p ∈ news, p.1 < D) → h.Ns C m' → h₀.get? C = none → h₀.get? D = none → C ≠ L → D ≠ L → C ≠ D → (∀ p ∈ news, p.1 ≠ C) → (ys.length = n ∧ ∀ j y, ys[j]? = some y → V j y) → RR (.ref D) C (.ok .next) { s₂ with heap := h, toks := tk }) :
    wpAny (model prog w) A (newList []) (fun acc s₃ => wpAny (model prog w) A (newFunctionEnv scope env.globals cl [] env.qual none .none (some env)) (fun cenv s₄ =>
      codeAny (model prog w) A (.compStart (.ListComp elt [⟨.Tuple [.Name x px, .Name x₂ px₂] tk tp, iter, [], 0⟩] scope pos) 0 (.ref I) acc { cenv with scope := relabel scope env }) (RR acc cenv.locals) s₄) E s₃) E s₂ := by
  refine wpAny_newObj_type (wpAny_newFunctionEnv hcell (by intro y hy; simp at hy) (fun h₁ hns₁ hsb₁ => ?_) hkind)
  dsimp only at hns₁ hsb₁ ⊢
  generalize hH2 : s₂.heap.push { cls := .type "list", dict := none, data := .seq ([] : List Value).toArray } = H2 at hns₁ hsb₁ ⊢
  have hC : H2.objs.size = s₂.heap.objs.size + 1 := by rw [← hH2, Heap.size_push]
  have hDC : s₂.heap.objs.size ≠ H2.objs.size := by rw [hC]; exact Nat.ne_of_lt (Nat.lt_succ_self _)
  have below : ∀ b, b < s₂.heap.objs.size → b ≠ H2.objs.size ∧ b ≠ s₂.heap.objs.size := fun b hb => ⟨by rw [hC]; exact Nat.ne_of_lt (Nat.lt_succ_of_lt hb), Nat.ne_of_lt hb⟩
  have hDf : s₂.heap.objs.size ∉ fp := fun hm => Nat.lt_irrefl _ (hfp _ hm).1
  have hCf : H2.objs.size ∉ fp := fun hm => by have := (hfp _ hm).1; rw [hC] at this; exact Nat.lt_irrefl _ (Nat.lt_of_succ_lt this)
  have hDw : s₂.heap.objs.size ∉ wr := fun hm => hDf (W.sub _ hm)
  have hCw : H2.objs.size ∉ wr := fun hm => hCf (W.sub _ hm)
  have hLw : L ∉ wr := fun hm => (hfp _ (W.sub _ hm)).2.1 rfl
  have old : ∀ b o, s₂.heap.get? b = some o → h₁.get? b = some o := fun b o e => hsb₁.extBut b o (below b (Heap.lt_size e)).1 (Heap.get?_push_of_some _ (hH2 ▸ Heap.get?_push_of_some _ e))
  have hacc : h₁.get? s₂.heap.objs.size = some (lst []) := hsb₁.extBut _ _ hDC (Heap.get?_push_of_some _ (hH2 ▸ Heap.get?_push_size _ rfl))
  have hst₁ : St 0 h₁ := W.frame _ _ _ hst fun b _ o e => old b o e
  have fresh : ∀ a, s₂.heap.objs.size ≤ a → s₂.heap.get? a = none := fun a ha => by
    cases e : s₂.heap.get? a with
    | none => rfl
    | some o' => exact absurd (Heap.lt_size e) (Nat.not_lt.mpr ha)
  have fresh₀ : ∀ a, s₂.heap.objs.size ≤ a → h₀.get? a = none := fun a ha => by
    cases e : h₀.get? a with
    | none => rfl
    | some o' => have := F.keep a o' e; rw [fresh a ha] at this; cases this
  have hD₀ : h₀.get? s₂.heap.objs.size = none := fresh₀ _ (Nat.le_refl _)
  have hC₀ : h₀.get? H2.objs.size = none := fresh₀ _ (by rw [hC]; exact Nat.le_succ _)
  have hLlt : L < s₂.heap.objs.size := F.ns.lt
  have hDL : s₂.heap.objs.size ≠ L := Ne.symm (below L hLlt).2
  have hCL : H2.objs.size ≠ L := Ne.symm (below L hLlt).1
  have hnD : ∀ p ∈ news, p.1 < s₂.heap.objs.size := fun p hp => Heap.lt_size (N p hp).1
  have frw : ∀ {h h' : Heap}, Fr h₀ L h m → (∀ b o, b ∉ wr → h.get? b = some o → h'.get? b = some o) → Fr h₀ L h' m := fun {h h'} F' hk => by
    refine ⟨F'.ns.at' fun o e => hk _ o hLw e, fun b o e => hk b o (fun hm => ?_) (F'.keep b o e), F'.above⟩
    rw [(hfp b (W.sub b hm)).2.2] at e; cases e
  have loop : ∀ s₃ : Shared, s₃ = { s₂ with heap := h₁, toks := s₂.toks + ([] : List (Str × Value)).length } →
      codeAny (model prog w) A (.compLoop (.ListComp elt [⟨.Tuple [.Name x px, .Name x₂ px₂] tk tp, iter, [], 0⟩] scope pos) 0 (.ref I) (.ref s₂.heap.objs.size) (compEnvC scope cl H2.objs.size env))
        (RR (.ref s₂.heap.objs.size) H2.objs.size) s₃ := by
    rintro s₃ rfl
    refine codeAny_compLoop_pair
      (fun k s' => ∃ h' tk i ys m', s' = { s₂ with heap := h', toks := tk } ∧ i ≤ n ∧ k = n + 1 - i ∧ ys.length = i ∧ St i h' ∧ Fr h₀ L h' m ∧ h'.Ns H2.objs.size m' ∧ News h₀ L h' ((s₂.heap.objs.size, lst ys) :: news) ∧
        ∀ j y, ys[j]? = some y → V j y) ?_ (n + 1)
      ⟨h₁, _, 0, [], _, rfl, Nat.zero_le _, rfl, rfl, hst₁, F.keeps old, hns₁, fun p hp => ?_, fun j y e => by simp at e⟩
    · rintro k s' ⟨h', tk, i, ys, m', rfl, hi, rfl, hyl, hst', F', hn', N', hV⟩
      by_cases hlt : i < n
      · refine W.item i _ _ _ hlt hst' fun T vals h₂ tk₂ hPv hT hTup hmid hk₂ => ?_
        obtain ⟨a, b, rfl⟩ := hPt _ _ hPv
        refine W.go _ _ _ i T _ _ _ hmid fun h₂' hst₂ hk₂' => ?_
        have hTw := W.apart _ _ _ hmid
        have hk : ∀ b o, b ∉ wr → h'.get? b = some o → h₂'.get? b = some o := fun b o hb e => hk₂' b o hb (hk₂ b o hb e)
        have ht : IsTup h₂' T #[a, b] := hTup.at fun o e => hk₂' T o hTw e
        refine assign_Tuple_tuple hh ht rfl rfl fun h₅ he => ?_
        have he' : ∀ b o, h₂'.get? b = some o → h₅.get? b = some o := fun b o e => he b o (Nat.ne_of_lt (Heap.lt_size e)) e
        refine assignInOrder_cons (wpAny_assign_Name (wpAny_storeName_local (lookup_relabel_local hx) ((hn'.at' fun o e => hk _ o hCw e).at' fun o e => he' _ o e) (fun h₆ hn₆ hs₆ => ?_) (by simp [compEnvC, relabel, hkind])))
        refine assignInOrder_cons (wpAny_assign_Name (wpAny_storeName_local (lookup_relabel_local hx₂) hn₆ (fun h₃ hn₃ hs₃ => ?_) (by simp [compEnvC, relabel, hkind])))
        refine assignInOrder_nil ?_
        have old3 : ∀ b o, b ≠ H2.objs.size → h₂'.get? b = some o → h₃.get? b = some o := fun b o hb e => hs₃.extBut b o hb (hs₆.extBut b o hb (he' b o e))
        have hst₃ : St (i + 1) h₃ := W.frame _ _ _ hst₂ fun b hb o e => old3 b o (fun q => hCf (by rw [← q]; exact hb)) e
        obtain ⟨oC, heC, hoC⟩ := ns_obj hn₃
        have F₃ : Fr h₀ L h₃ m := (((frw F' hk).keeps he').change hs₆ hCL hC₀).change hs₃ hCL hC₀
        have N₂ : News h₀ L h₃ ((s₂.heap.objs.size, lst ys) :: news) := fun p hp => by
          have z := N' p hp
          refine ⟨?_, z.2⟩
          rcases List.mem_cons.mp hp with rfl | hp
          · exact old3 _ _ hDC (hk _ _ hDw z.1)
          · exact old3 _ _ (below _ (hnD p hp)).1 (hk _ _ (off p hp) z.1)
        have N₃ : News h₀ L h₃ ((H2.objs.size, oC) :: (itsOf h₃ fp ++ (s₂.heap.objs.size, lst ys) :: news)) := fun p hp => by
          rcases List.mem_cons.mp hp with rfl | hp
          · exact ⟨heC, hCL, hC₀⟩
          · rcases List.mem_append.mp hp with hp | hp
            · obtain ⟨h1, h2⟩ := itsOf_mem hp
              exact ⟨h2, (hfp _ h1).2⟩
            · exact N₂ p hp
        refine wpAny_mono (turn i a b H2.objs.size oC (itsOf h₃ fp ++ (s₂.heap.objs.size, lst ys) :: news) _ h₃ _ _ hlt hPv hoC (by simp [hxx]) (by simp) F₃ N₃ fun p hp => List.mem_append.mpr (.inr (.tail _ hp))) (fun y s₄ h₄ => ?_) fun _ _ e => e
        obtain ⟨h₄, tk₄, rfl, F₄, N₄, hy⟩ := h₄
        have zC := (N₄ (H2.objs.size, oC) List.mem_cons_self).1
        have zD := (N₄ (s₂.heap.objs.size, lst ys) (.tail _ (List.mem_append.mpr (.inr (.head _))))).1
        have hst₄ : St (i + 1) h₄ := W.frame _ _ _ hst₃ fun b hb o e => (N₄ (b, o) (.tail _ (List.mem_append.mpr (.inl (mem_itsOf hb e))))).1
        refine append_at (hsz := by show ys.toArray.size ≤ sizeLine; rw [List.size_toArray, hyl]; exact Nat.le_trans hi hsz) zD fun h₅ hs₅ hD₅ => ?_
        refine ⟨n + 1 - (i + 1), by omega, h₅, tk₄, i + 1, ys ++ [y], _, rfl, hlt, rfl, by rw [List.length_append, List.length_singleton, hyl], W.frame _ _ _ hst₄ fun b hb o e => hs₅.extBut b o (fun q => hDf (q ▸ hb)) e, F₄.change hs₅ hDL hD₀,
          (hoC.ns zC).sameBut hs₅ (Ne.symm hDC), fun p hp => ?_, fun j y' e => ?_⟩
        · rcases List.mem_cons.mp hp with rfl | hp
          · exact ⟨hD₅.trans (congrArg some (lst_snoc ys y)), hDL, hD₀⟩
          · have z := N₄ p (.tail _ (List.mem_append.mpr (.inr (.tail _ hp))))
            exact ⟨hs₅.extBut _ _ (Nat.ne_of_lt (hnD p hp)) z.1, z.2⟩
        · by_cases hj : j < ys.length
          · rw [List.getElem?_append_left hj] at e; exact hV j y' e
          · rw [List.getElem?_append_right (by omega)] at e
            have : j - ys.length = 0 := by
              by_cases q : j - ys.length = 0
              · exact q
              · rw [List.getElem?_eq_none (by simp; omega)] at e; cases e
            rw [this] at e
            simp at e
            have : j = i := by omega
            rw [← e, this]; exact hy
      · obtain rfl : i = n := Nat.le_antisymm hi (Nat.not_lt.mp hlt)
        refine W.done _ _ _ hst' fun h₂ tk₂ hk₂ => ?_
        refine hRR _ _ h₂ tk₂ _ ys (frw F' hk₂) (fun p hp => ⟨hk₂ _ _ (fun hm => ?_) (N' p hp).1, (N' p hp).2⟩) hnD (hn'.at' fun o e => hk₂ _ o hCw e) hC₀ hD₀ hCL hDL (Ne.symm hDC) (fun p hp => (below _ (hnD p hp)).1) ⟨hyl, hV⟩
        rcases List.mem_cons.mp hp with rfl | hp
        · exact hDw hm
        · exact off p hp hm
    · rcases List.mem_cons.mp hp with rfl | hp
      · exact ⟨hacc, hDL, hD₀⟩
      · exact ⟨old _ _ (N p hp).1, (N p hp).2⟩
  exact codeAny_compStart_list (loop _ rfl) (W.self 0 _ _ _ hst₁ (loop _ rfl))

def ZipSrc (prog : Program) (w : World) (A : Around) (h₀ : Heap) (L : Addr) (m : Str → Option Value) (env : Env) (elt : Expr) (x x₂ : Str) (scope : Scope) (cl : List (Str × Addr)) (Q : Value → Shared → Prop) (xv : Value) (s₂ : Shared) : Prop :=
  ∃ (I : Addr) (fp wr : List Addr) (n : Nat) (Pt : Nat → Array Value → Prop) (St : Nat → Heap → Prop) (Mid : Nat → Addr → Heap → Prop) (V : Nat → Value → Prop) (news : List (Addr × Obj)), xv = .ref I ∧ A.handled = none ∧ WalksT prog w A I fp wr n Pt St Mid ∧ n ≤ sizeLine ∧ (∀ i vals, Pt i vals → ∃ a b, vals = #[a, b]) ∧ St 0 s₂.heap ∧
    (∀ b ∈ fp, b < s₂.heap.objs.size ∧ b ≠ L ∧ h₀.get? b = none) ∧ Fr h₀ L s₂.heap m ∧ News h₀ L s₂.heap news ∧ (∀ p ∈ news, p.1 ∉ wr) ∧
    (∀ i a b C oC all m₂ h tk (E' : Value → Shared → Prop), i < n → Pt i #[a, b] → NsObj oC m₂ → m₂ x = some a → m₂ x₂ = some b → Fr h₀ L h m → News h₀ L h ((C, oC) :: all) → (∀ p ∈ news, p ∈ all) →
      wpAny (model prog w) A (eval elt (compEnvC scope cl C env)) (ZEnd h₀ L m { s₂ with heap := h, toks := tk } C oC all (V i)) E' { s₂ with heap := h, toks := tk }) ∧
    (∀ D ys h tk, ys.length = n → (∀ (j : Nat) y, ys[j]? = some y → V j y) → Fr h₀ L h m → News h₀ L h ((D, lst ys) :: news) → (∀ p ∈ news, p.1 < D) → Q (.ref D) { s₂ with heap := h, toks := tk })
theorem ListComp_Z {Q : Value → Shared → Prop} (_F₀ : Fr h₀ L s.heap m)
    (hclos : closureFor scope env = pure cl) (hcell : ∀ y ∈ scope.names, y.2 ≠ .cell) (hkind : scope.kind = .function)
    (hnames : ∀ y ∈ scope.names, y.2 = .local → scope.names.lookup y.1 = some .local) (hx : scope.names.lookup x = some .local) (hx₂ : scope.names.lookup x₂ = some .local) (hxx : x ≠ x₂)
    (h : wpAny (model prog w) A (eval iter env) (ZipSrc prog w A h₀ L m env elt x x₂ scope cl Q) E s)
    (hs : ∀ x, foldedSetIterable iter env x = pure x := by intro _; rfl) :
    wpAny (model prog w) A (eval (.ListComp elt [⟨.Tuple [.Name x px, .Name x₂ px₂] tk tp, iter, [], 0⟩] scope pos) env) Q E s := by
  rw [eval_ListComp]
  refine wpAny_comprehension_free (use := none) rfl hs hclos hkind hnames (wpAny_mono h (fun xv s₁ h₁ => ?_) fun _ _ e => e)
  obtain ⟨I, fp, wr, n, Pt, St, Mid, V, news, rfl, hh, W, hsz, hPt, hst, hfp, F, N, off, turn, fin⟩ := h₁
  refine W.self 0 _ _ _ hst ?_
  refine block_Z W hsz hPt hcell hkind hx hx₂ hxx hh hst hfp F N off turn ?_
  intro D C h tk m' ys F' N' l1 hn hC₀ hD₀ hCL hDL hCD offC ⟨hyl, hV⟩
  refine ⟨m', hn, fun h'' hs'' => fin D ys h'' tk hyl hV (F'.change hs'' hCL hC₀) (fun p hp => ?_) l1⟩
  refine ⟨hs''.extBut _ _ ?_ (N' p hp).1, (N' p hp).2⟩
  rcases List.mem_cons.mp hp with rfl | hp
  · exact Ne.symm hCD
  · exact offC p hp
theorem ints_of {g : Nat → Int} : ∀ {ys : List Value} {ns : List Int}, ys.length = ns.length → (∀ (j : Nat) y, ys[j]? = some y → ∃ n t, ns[j]? = some n ∧ y = .int n t) → IntsAre ys ns
  | [], [], _, _ => .nil
  | [], _ :: _, h, _ => by simp at h
  | _ :: _, [], h, _ => by simp at h
  | y :: ys, n :: ns, h, x => by
    obtain ⟨n', t, e, rfl⟩ := x 0 y rfl
    simp at e
    subst e
    exact .cons _ t (ints_of (g := g) (by simpa using h) fun j y hy => x (j + 1) y (by simpa using hy))
theorem zip_src (f : Int → Int → Int) {l1 l2 : Addr} {vs ws : List Value} {k1 k2 : Nat} {as bs : List Int} {Q : Value → Shared → Prop} (hh : A.handled = none) (F : Fr h₀ L s.heap m) (N : News h₀ L s.heap news) (h1 : (l1, listOf vs.toArray k1) ∈ news) (h2 : (l2, listOf ws.toArray k2) ∈ news) (hi : IntsAre vs as) (hj : IntsAre ws bs) (hsz : as.length ≤ sizeLine)
    (turn : ∀ a b ta tb C oC all m₂ h tk (E' : Value → Shared → Prop), a ∈ as → b ∈ bs → NsObj oC m₂ → m₂ x = some (.int a ta) → m₂ x₂ = some (.int b tb) → Fr h₀ L h m → News h₀ L h ((C, oC) :: all) → (∀ p ∈ news, p ∈ all) →
      wpAny (model prog w) A (eval elt (compEnvC scope cl C env)) (ZEnd h₀ L m { s with heap := h, toks := tk } C oC all (fun y => ∃ t, y = .int (f a b) t)) E' { s with heap := h, toks := tk })
    (fin : Hold (∀ (_ : Heap) ys D h tk, IntsAre ys (List.zipWith f as bs) → Fr h₀ L h m → News h₀ L h ((D, lst ys) :: news) → (∀ p ∈ news, p.1 < D) → Q (.ref D) { s with heap := h, toks := tk })) :
    wpAny (model prog w) A (call (.type "zip") [.ref l1, .ref l2]) (ZipSrc prog w A h₀ L m env elt x x₂ scope cl Q) E s := by
  have q1 : l1 < s.heap.objs.size := Heap.lt_size (N _ h1).1
  have q2 : l2 < s.heap.objs.size := Heap.lt_size (N _ h2).1
  have fr : ∀ a, s.heap.objs.size ≤ a → a ≠ L ∧ h₀.get? a = none := fun a ha => ⟨Nat.ne_of_gt (Nat.lt_of_lt_of_le F.ns.lt ha), by
    cases e : h₀.get? a with
    | none => rfl
    | some o => exact absurd (Heap.lt_size (F.keep a o e)) (Nat.not_lt.mpr ha)⟩
  have L1 := News.isList N h1
  have L2 := News.isList N h2
  have e1 : vs.toArray.size = as.length := by rw [List.size_toArray]; exact hi.length
  have e2 : ws.toArray.size = bs.length := by rw [List.size_toArray]; exact hj.length
  refine call_zip_2 L1 L2 fun h' hz hTI hTO hi1 hi2 hs' hk => ?_
  have items : ∀ (i : Nat) (a b : Value), (∃ x y, vs.toArray[i]? = some x ∧ ws.toArray[i]? = some y ∧ (#[a, b] : Array Value) = #[x, y]) → ∃ n t n' t', as[i]? = some n ∧ bs[i]? = some n' ∧ a = .int n t ∧ b = .int n' t' := by
    rintro i a b ⟨x, y, hx, hy, e⟩
    obtain ⟨e1, e2⟩ : a = x ∧ b = y := by simpa using congrArg Array.toList e
    subst e1 e2
    obtain ⟨n, t, ea, en⟩ := IntsAre.at hi i a (by simpa using hx)
    obtain ⟨n', t', eb, en'⟩ := IntsAre.at hj i b (by simpa using hy)
    exact ⟨n, t, n', t', en, en', ea, eb⟩
  refine ⟨_, _, _, _, _, _, _, fun (i : Nat) y => ∃ t a b, as[i]? = some a ∧ bs[i]? = some b ∧ y = .int (f a b) t, news, rfl, hh,
    WalksT.zip2 hh (s.heap.objs.size + 4) (s.heap.objs.size + 2) (s.heap.objs.size + 3) s.heap.objs.size (s.heap.objs.size + 1) l1 l2 (zipApart_new q1 q2) vs.toArray ws.toArray, ?_, ?_, ?_, ?_, F.keeps hk, N.grown hk, ?_, ?_, ?_⟩
  · exact Nat.le_trans (Nat.min_le_left _ _) (by rw [e1]; exact hsz)
  · rintro i vals ⟨x, y, _, _, e⟩; exact ⟨x, y, e⟩
  · exact ⟨hz, hTI, ⟨_, _, hTO⟩, hi1, hi2, L1.at (fun o e => hk _ o e), L2.at (fun o e => hk _ o e)⟩
  · intro b hb
    show b < h'.objs.size ∧ _
    rw [hs']
    simp only [List.mem_cons, List.not_mem_nil, or_false] at hb
    rcases hb with rfl | rfl | rfl | rfl | rfl | rfl | rfl
    · exact ⟨Nat.add_lt_add_left (by decide) _, fr _ (Nat.le_add_right _ _)⟩
    · exact ⟨Nat.add_lt_add_left (by decide) _, fr _ (Nat.le_add_right _ _)⟩
    · exact ⟨Nat.add_lt_add_left (by decide) _, fr _ (Nat.le_add_right _ _)⟩
    · exact ⟨Nat.lt_add_of_pos_right (by decide), fr _ (Nat.le_refl _)⟩
    · exact ⟨Nat.add_lt_add_left (by decide) _, fr _ (Nat.le_add_right _ _)⟩
    · exact ⟨Nat.lt_of_lt_of_le q1 (Nat.le_add_right _ _), (N _ h1).2⟩
    · exact ⟨Nat.lt_of_lt_of_le q2 (Nat.le_add_right _ _), (N _ h2).2⟩
  · intro p hp hm
    have q := Heap.lt_size (N p hp).1
    have big : ∀ a, s.heap.objs.size ≤ a → p.1 = a → False := fun a ha e => Nat.lt_irrefl _ (Nat.lt_of_lt_of_le q (e ▸ ha))
    simp only [List.mem_cons, List.not_mem_nil, or_false] at hm
    rcases hm with e | e | e | e
    · exact big _ (Nat.le_add_right _ _) e
    · exact big _ (Nat.le_add_right _ _) e
    · exact big _ (Nat.le_refl _) e
    · exact big _ (Nat.le_add_right _ _) e
  · intro i a b C oC all m₂ h tk E' hlt hP hC hx hx₂ F' N' sub
    obtain ⟨n, t, n', t', en, en', rfl, rfl⟩ := items i a b hP
    refine wpAny_mono (turn n n' t t' C oC all m₂ h tk E' (List.mem_of_getElem? en) (List.mem_of_getElem? en') hC hx hx₂ F' N' sub) (fun y s₃ hq => ?_) fun _ _ e => e
    obtain ⟨h3, tk3, e3, F3, N3, tt, ey⟩ := hq
    exact ⟨h3, tk3, e3, F3, N3, tt, n, n', en, en', ey⟩
  · intro D ys h tk hyl hV F' N' l1'
    refine fin h ys D h tk ?_ F' N' l1'
    refine ints_of (g := fun _ => 0) (by rw [hyl, List.length_zipWith, e1, e2]) fun j y hy => ?_
    obtain ⟨t, a, b, ea, eb, rfl⟩ := hV j y hy
    exact ⟨f a b, t, by rw [List.getElem?_zipWith, ea, eb], rfl⟩
end
end Mine
end

-- part MChg
section
open PySem PySem.W PySem.Spec PySem.Calls PyProof.Rows
namespace Mine
section
local macro_rules | `(tactic| walk_at "tails") => `(tactic| repeat (first | assumption | refine List.Mem.tail _ ?_))
local macro_rules | `(tactic| walk_at "mem_sub") => `(tactic| (intro p hp; simp only [List.mem_cons, List.mem_append] at hp ⊢; grind))
local macro_rules | `(tactic| walk_at "pick") => `(tactic| first | exact Pick.here | exact Pick.there (Pick.here) | exact Pick.there (Pick.there (Pick.here)) | exact Pick.there (Pick.there (Pick.there (Pick.here))) | exact Pick.there (Pick.there (Pick.there (Pick.there (Pick.here)))) | exact Pick.there (Pick.there (Pick.there (Pick.there (Pick.there (Pick.here))))) | exact Pick.there (Pick.there (Pick.there (Pick.there (Pick.there (Pick.there (Pick.here)))))))
local macro_rules | `(tactic| walk_at "nofs") => `(tactic| repeat (first | exact NoFs.nil | refine NoFs.cons ?_ ?_ | exact NoF.list | exact NoF.tuple | assumption))
local macro_rules | `(tactic| walk_at "call ref") => `(tactic| (k_here; (with_reducible show wpAny _ _ (call (Value.ref 67) _) _ _ _); k_dflt (refine' name_call ?k1 ?k2 ?k3 ?k4 ?k5 ?kK ?kl ?ki ?kn ?kd ?ku ?_; (case k1 => k_asm); (case k2 => k_asm); (case k3 => k_asm); (case k4 => k_asm); (case k5 => k_asm); (case kK => first | exact rfl | assumption); (case kl => assumption); (case ki => assumption); (case kn => omega); (case kd => ktr_room); (case ku => ktr_units)); intro t9 h9 tk9 F9 N9; (rename (nameS _ = _) => hnm'); (rw [hnm']); (try dsimp only); (try k_fold)))
local macro_rules | `(tactic| walk_at "call ref") => `(tactic| first | (k_here; (with_reducible show wpAny _ _ (call (Value.ref 55) _) _ _ _); k_dflt (refine' at_call ?k1 ?k2 ?k3 ?k4 ?k5 ?kK ?kl ?ki ?kn ?kp ?kq ?kd ?ku ?_; (case k1 => k_asm); (case k2 => k_asm); (case k3 => k_asm); (case k4 => k_asm); (case k5 => k_asm); (case kK => first | exact rfl | assumption); (case kl => assumption); (case ki => assumption); (case kn => omega); (case kp => omega); (case kq => omega); (case kd => ktr_room); (case ku => ktr_units)); intro t9 h9 tk9 F9 N9; (try dsimp only); (try k_fold)) | ((with_reducible show wpAny _ _ (call (Value.ref 55) _) _ _ _); refine hold2 ?_))
local macro_rules | `(tactic| walk_at "call ref") => `(tactic| (k_here; (with_reducible show wpAny _ _ (call (Value.ref 43) _) _ _ _); k_dflt (refine' encode_law ?k1 ?k2 ?k3 ?k4 ?k5 ?kK ?kn ?kl ?ki ?km ?kd ?ku ?_; (case k1 => k_asm); (case k2 => k_asm); (case k3 => k_asm); (case k4 => k_asm); (case k5 => k_asm); (case kK => first | exact rfl | assumption); (case kn => assumption); (case kl => k_mem); (case ki => assumption); (case km => (rw [rangeKs_length]; omega)); (case kd => ktr_room); (case ku => ktr_units)); intro t9 h9 tk9 row9 co9 iR9 cO9 F9 N9; (try dsimp only); (try k_fold)))
local macro_rules | `(tactic| walk_at "call ref") => `(tactic| (k_here; (with_reducible show wpAny _ _ (call (Value.ref 48) _) _ _ _); (rename CodeOk _ _ _ => cO'); k_dflt (refine' decode_ok ?k1 ?k2 ?k3 ?k4 ?k5 ?kK ?kp ?kq ?kP ?kG ?kn ?kb ?k6 ?km ?kx ?kv ?kd ?ku ?_; (case k1 => k_asm); (case k2 => k_asm); (case k3 => k_asm); (case k4 => k_asm); (case k5 => k_asm); (case kK => first | exact rfl | assumption); (case kp => walk_at "pick"); (case kq => walk_at "nofs"); (case kP => assumption); (case kG => assumption); (case kn => assumption); (case kb => exact cO'.bnd); (case k6 => (have := cO'.len; omega)); (case km => (have := cO'.len; have := cO'.max; omega)); (case kx => first | exact .inl rfl | exact .inr rfl); (case kv => exact cO'.one); (case kd => ktr_room); (case ku => ktr_units)); intro T9 D9 ws9 t9 n9 h9 tk9 g9 oP9 iW9 hP9 hG9 F9 N9; (rw [cO'.head] at iW9); (try dsimp only); (try k_fold)))
local macro_rules | `(tactic| walk_at "CompEnd") => `(tactic| ((refine LCg.CompEnd.intro (by assumption) (by assumption) _ ?sub (by assumption) trivial (EltIs.int ?val)); (case sub => walk_at "mem_sub"); (case val => exact rfl)))
local macro_rules | `(tactic| kmk_sum) => `(tactic| ((simp only [PySem.sizeLine_eq, List.length_cons, List.length_nil, List.length_append, List.length_map, Array.length_toList, List.length_take, List.length_drop, List.length_zipWith]); omega))
local macro_rules | `(tactic| walk_at "eval ListComp") => `(tactic| (k_here; k_dflt (refine ListComp_Z (by k_asm) (by with_unfolding_all rfl) (by decide) (by rfl) (by decide) (by rfl) (by rfl) (by decide) ?_)))
local macro_rules | `(tactic| walk_at "call type:zip") => `(tactic| (k_here; k_dflt (refine' zip_src (fun a b => Builtin.bitXor a b) (by rfl) (by k_asm) (by k_asm) (by k_mem) (by k_mem) (by with_reducible assumption) (by with_reducible assumption) (by kmk_sum) (fun a' b' ta' tb' C' oC' all' m' h' tk' E' ha' hb' hC' hx' hy' F' N' sub' => ?_) ?_); kcf_last))
local macro_rules | `(tactic| walk_at "ZEnd") => `(tactic| (refine ZEnd.intro (by assumption) (by assumption) ?sub ⟨_, rfl⟩; (case sub => first | exact fun p hp => hp | walk_at "mem_sub")))
local macro_rules | `(tactic| walk_at "Hold") => `(tactic| ((refine id (α := ∀ (_ : Heap), _) ?_); intro gh ys' D' h' tk' hys' F' N' l1'; (try k_lt l1')))
local macro_rules | `(tactic| walk_at "nat_sign") => `(tactic| first | exact Int.natCast_nonneg _ | omega)
local macro_rules | `(tactic| walk_at "subscriptTail Name Slice ref ref") => `(tactic| (k_here; k_dflt (refine' kmk_slice_ints ?zF ?zN ?zl ?zp ?zq ?zi ?zm ?zc ?_ ?zs ?zt ?zz; (case zF => k_asm); (case zN => k_asm); (case zl => kmk_list); (case zp => first | exact IsPart.none | exact IsPart.int _ _); (case zq => first | exact IsPart.none | exact IsPart.int _ _); (case zi => with_reducible assumption); (case zm => first | exact kmk_from (by with_reducible assumption) (by walk_at "nat_sign") | exact kmk_upto (by with_reducible assumption) (by walk_at "nat_sign")); (case zc => exact rfl); (case zs => with_unfolding_all rfl); (case zt => kmk_pure); (case zz => (refine kmk_sz (by with_reducible assumption) ?_; kmk_sum))); intro D' ws' h' F' N' l1 hI' hC' hL'; (try k_lt l1); clear hC' hL'; (try simp only [Int.toNat_natCast] at hI'); (try ((rename (List.take _ _ = _) => htk'); rw [htk'] at hI'))))
local macro_rules | `(tactic| walk_at "execs cons") => `(tactic| ((with_reducible show wpAny _ _ (execs (Stmt.If (Expr.BoolOp _ _ _) _ _ _ :: _) _) _ _ _); refine hold2 ?_))
set_option maxRecDepth 100000 in
set_option maxHeartbeats 1200000 in
theorem law_chg : ∀ {w : World} {loose : List Str} {mean : ExcName → Option Value} {mg mb : Str → Option Value} {dp un : Nat} {fa : Addr} {ccd : Value} {h₀ : Heap} {L : Addr} {s : Shared} {l : Addr} {vs : List Value} {ns : List Int} {w1 w2 : Obj} {nm : Str} {row co ts : List Int} {Dt Ds Dr : Addr} {tv sv rv : List Value} {kt ks kr : Nat} {tm tn : Tok} {oP : Obj} {Q : Flow → Shared → Prop} {E : Value → Shared → Prop},
  Below callerA h₀ [] h₀ → Fr h₀ L s.heap (fun y => if y = Str.ofString "turns" then some (.ref Dt) else if y = Str.ofString "signs" then some (.ref Ds) else if y = Str.ofString "made" then some (.str (madeX nm co) tm) else if y = Str.ofString "row" then some (.ref Dr) else if y = Str.ofString "name" then some (.str nm tn) else none) →
  (hd.heap_39 w.params).In h₀ → News h₀ L s.heap [(Dt, listOf tv.toArray kt), (Ds, listOf sv.toArray ks), (45, oP), (Dr, listOf rv.toArray kr), (L + 1 + 1, w1), (L + 1, w2)] → Top lawP loose mean mg mb h₀ → h₀.IsList l vs.toArray → IntsAre vs ns → ns.length ≤ 63 → w1.data = .cell none → w2.data = .cell (some (.ref l)) →
  IntsAre tv ts → IntsAre sv co → IntsAre rv row → TurnsOk ts → NameOk nm → CodeOk nm row co → Places oP → AllBare s.gens → dp + 20 < recursionLimit → un + 100 < cLine →
  (∀ h' tk' Dc Du cv uv kc ku p pv pt, p + ts.length ≤ co.length → IntsAre cv (chgOf (fun a b => Builtin.bitXor a b) co p ts) → IntsAre uv ts → Fr h₀ L h' (fun y => if y = Str.ofString "changed" then some (.ref Dc) else if y = Str.ofString "place" then some (.int pv pt) else if y = Str.ofString "turns" then some (.ref Du) else if y = Str.ofString "turns" then some (.ref Dt) else if y = Str.ofString "signs" then some (.ref Ds) else if y = Str.ofString "made" then some (.str (madeX nm co) tm) else if y = Str.ofString "row" then some (.ref Dr) else if y = Str.ofString "name" then some (.str nm tn) else none) →
    News h₀ L h' [(Dc, listOf cv.toArray kc), (Du, listOf uv.toArray ku), (Ds, listOf sv.toArray ks), (45, oP), (Dr, listOf rv.toArray kr), (L + 1 + 1, w1), (L + 1, w2)] →
    wpAny (model PySem.Challenge.rw_bg0021_01.row.prog w) (ktrTop dp un (some []) (Str.ofString "law") lawScope L fa ccd (cellsFrom (L + 1) lawScope.names []) []) (execs (lawBody.drop 10) (envOfC (Str.ofString "law") lawScope L fa ccd)) Q E { s with heap := h', toks := tk' }) →
  wpAny (model PySem.Challenge.rw_bg0021_01.row.prog w) (ktrTop dp un (some []) (Str.ofString "law") lawScope L fa ccd (cellsFrom (L + 1) lawScope.names []) []) (execs (lawBody.drop 7) (envOfC (Str.ofString "law") lawScope L fa ccd)) Q E s := by
  w_top off
  k_fill
  intro w loose mean mg mb dp un fa ccd h₀ L s l vs ns w1 w2 nm row co ts Dt Ds Dr tv sv rv kt ks kr tm tn oP Q E B1 F1 X1 N1 T1 hl hi hlen c1 c2 hit his hir hT hnO cO hP hG hd' hu' hrest
  have nf1 : NoF _ := NoF.cell c1
  have nf2 : NoF _ := NoF.cell c2
  have hnl : nm.length < 500 := by have := hnO.max; simp only [Str.length]; omega
  have hc26 := cO.max26
  have ht1 := hT.pos
  have ht6 := hT.max
  have htk : ts.take co.length = ts := List.take_of_length_le (by omega)
  obtain ⟨p, hp, hpl⟩ := place_ok (ns.getD (Int.toNat 4) 2) (show ts.length ≤ co.length by omega)
  unfold lawBody lawScope lawDef
  dsimp only [PySem.Challenge.pw_bg0021_01, List.getLast?, List.getLast, List.drop]
  (try k_fold)
  k_steps
  rename (IntsAre _ (_ ++ _ ++ _)) => hI9
  rw [chg_eq hp rfl] at hI9
  exact hrest _ _ _ _ _ _ 0 0 p _ _ hpl hI9 (by assumption) (by assumption) (drop_news (by assumption) (by walk_at "mem_sub"))
end
end Mine
end

-- part MTest
section
open PySem PySem.W PySem.Spec PySem.Calls PyProof.Rows
namespace Mine
section
local macro_rules | `(tactic| walk_at "pad 0") => `(tactic| skip)
local macro_rules | `(tactic| walk_at "tails") => `(tactic| repeat (first | assumption | refine List.Mem.tail _ ?_))
local macro_rules | `(tactic| walk_at "mem_sub") => `(tactic| (intro p hp; simp only [List.mem_cons, List.mem_append] at hp ⊢; grind))
local macro_rules | `(tactic| walk_at "pick") => `(tactic| first | exact Pick.here | exact Pick.there (Pick.here) | exact Pick.there (Pick.there (Pick.here)) | exact Pick.there (Pick.there (Pick.there (Pick.here))) | exact Pick.there (Pick.there (Pick.there (Pick.there (Pick.here)))) | exact Pick.there (Pick.there (Pick.there (Pick.there (Pick.there (Pick.here))))) | exact Pick.there (Pick.there (Pick.there (Pick.there (Pick.there (Pick.there (Pick.here)))))))
local macro_rules | `(tactic| walk_at "nofs") => `(tactic| repeat (first | exact NoFs.nil | refine NoFs.cons ?_ ?_ | exact NoF.list | exact NoF.tuple | assumption))
local macro_rules | `(tactic| walk_at "CompEnd") => `(tactic| ((refine LCg.CompEnd.intro (by assumption) (by assumption) _ ?sub (by assumption) trivial (EltIs.int ?val)); (case sub => walk_at "mem_sub"); (case val => exact rfl)))

local macro_rules | `(tactic| walk_at "call ref") => `(tactic| (k_here; (with_reducible show wpAny _ _ (call (Value.ref 48) _) _ _ _); (rename WordOk _ => wO'); k_dflt (refine' decode_bad ?k1 ?k2 ?k3 ?k4 ?k5 ?kK ?kp ?kq ?kP ?kG ?kn ?kb ?k6 ?km ?kx ?kv ?kd ?ku ?_; (case k1 => k_asm); (case k2 => k_asm); (case k3 => k_asm); (case k4 => k_asm); (case k5 => k_asm); (case kK => first | exact rfl | assumption); (case kp => walk_at "pick"); (case kq => walk_at "nofs"); (case kP => assumption); (case kG => assumption); (case kn => assumption); (case kb => exact wO'.bnd); (case k6 => exact wO'.six); (case km => (have := wO'.max; omega)); (case kx => first | exact .inl rfl | exact .inr rfl | exact .inl made_cat); (case kv => assumption); (case kd => ktr_room); (case ku => ktr_units)); intro T9 h9 tk9 g9 oP9 hP9 hG9 F9 N9; (try dsimp only); (try k_fold)))
local macro_rules | `(tactic| walk_at "call ref") => `(tactic| (k_here; (with_reducible show wpAny _ _ (call (Value.ref 33) _) _ _ _); (rename WordOk _ => wO'); k_dflt (refine' verify_call ?k1 ?k2 ?k3 ?k4 ?k5 ?kK ?kx ?kl ?ki ?kn ?kd ?ku ?_; (case k1 => k_asm); (case k2 => k_asm); (case k3 => k_asm); (case k4 => k_asm); (case k5 => k_asm); (case kK => first | exact rfl | assumption); (case kx => omega); (case kl => k_mem); (case ki => with_reducible assumption); (case kn => (have := wO'.max; omega)); (case kd => ktr_room); (case ku => ktr_units)); intro h9 tk9 F9 N9; (try ((rename ((_ == (1 : Int)) = _) => hbf'); rw [hbf'])); (try dsimp only); (try k_fold)))
local macro_rules | `(tactic| kmk_sum) => `(tactic| ((simp only [PySem.sizeLine_eq, List.length_cons, List.length_nil, List.length_append, List.length_map, Array.length_toList, List.length_take, List.length_drop, List.length_zipWith]); omega))
local macro_rules | `(tactic| walk_at "eval ListComp") => `(tactic| (k_here; k_dflt (refine LCg.ListComp_U (by k_asm) (by with_unfolding_all rfl) (by decide) (by rfl) (by decide) (by rfl) ?_)))
local macro_rules | `(tactic| walk_at "CompSrc") => `(tactic| (k_here; k_dflt (refine' ledgerSrc.strs (fun d => ⟨#[signOf d]⟩) (by rfl) (by k_asm) (by k_asm) (by k_mem) (by with_reducible assumption) (by kmk_sum) (fun c' u' I' oI' C' oC' D' m' ys' h' tk' E' hc' hC' hx' F' N' off' ne' hS' => ?_) ?_); kcf_last))
local macro_rules | `(tactic| walk_at "subscriptTail Name Name str int") => `(tactic| ((rename ((_ : Int) ∈ (_ : List Int)) => hc''); (rename WordOk _ => wO'); (have hb'' := wO'.bnd _ hc''); (refine item_str (fitsSsize_of (N := 9223372036854775808) (by omega) (by omega) (Int.le_refl _)) (by rw [charset_length]; omega) (by rw [charset_length]; omega) ?_); intro _))
local macro_rules | `(tactic| walk_at "CompEnd") => `(tactic| ((refine LCg.CompEnd.intro (by assumption) (by assumption) _ ?sub (by assumption) (by assumption) (EltIs.str ?val)); (case sub => walk_at "mem_sub"); (case val => exact item_sign (by assumption))))
local macro_rules | `(tactic| walk_at "call builtin:str.join") => `(tactic| (k_here; (rename StrsAre _ (List.map _ _) => sA'); (rename WordOk _ => wO'); (refine join_text signOf (News.isList (by k_asm) (by k_mem)) sA' ?len ?_); (case len => (have := wO'.max; omega)); intro _ _))
local macro_rules | `(tactic| walk_at "binaryOp Add str str") => `(tactic| (k_here; (try dsimp only); (refine add_str ?_ ?sz); (case sz => (rw [PySem.sizeLine_eq]; simp only [Str.length, Str.cps_append, Array.size_append, cps_one, List.size_toArray, List.length_map, List.length_append, List.length_cons, List.length_nil]; omega)); intro _ _))
local macro_rules | `(tactic| walk_at "Hold") => `(tactic| ((refine id (α := ∀ (_ : Heap), _) ?_); intro gh ys' hys' D' h' tk' F' N' o1'))
local macro_rules | `(tactic| walk_at "compareOp NotEq ref ref") => `(tactic| (k_here; k_dflt (refine' cmp_none ?c1 ?c2 ?c3 ?c8 ?_; (case c1 => k_asm); (case c2 => k_mem); (case c3 => k_mem); (case c8 => first | ktr_units | (dsimp only [ktrTop]; omega)); (try dsimp only); (try k_fold))))
local macro_rules | `(tactic| walk_at "execs cons") => `(tactic| ((with_reducible show wpAny _ _ (execs (Stmt.If (Expr.Compare _ _ _ _) _ _ _ :: _) _) _ _ _); refine hold2 ?_))
set_option maxRecDepth 100000 in
set_option maxHeartbeats 1200000 in
theorem law_test : ∀ {w : World} {loose : List Str} {mean : ExcName → Option Value} {mg mb : Str → Option Value} {dp un : Nat} {fa : Addr} {ccd : Value} {h₀ : Heap} {L : Addr} {s : Shared} {w1 w2 : Obj} {nm : Str} {co ts chg : List Int} {Dc Du Dt Ds Dr : Addr} {cv uv sv rv : List Value} {kc ku ks kr : Nat} {tm tn pt : Tok} {pv : Int} {oP : Obj} {v1 v2 : Option Value} {Q : Flow → Shared → Prop} {E : Value → Shared → Prop},
  Below callerA h₀ [] h₀ → Fr h₀ L s.heap (fun y => if y = Str.ofString "changed" then some (.ref Dc) else if y = Str.ofString "place" then some (.int pv pt) else if y = Str.ofString "turns" then some (.ref Du) else if y = Str.ofString "turns" then some (.ref Dt) else if y = Str.ofString "signs" then some (.ref Ds) else if y = Str.ofString "made" then some (.str (madeX nm co) tm) else if y = Str.ofString "row" then some (.ref Dr) else if y = Str.ofString "name" then some (.str nm tn) else none) →
  (hd.heap_39 w.params).In h₀ → News h₀ L s.heap [(Dc, listOf cv.toArray kc), (Du, listOf uv.toArray ku), (Ds, listOf sv.toArray ks), (45, oP), (Dr, listOf rv.toArray kr), (L + 1 + 1, w1), (L + 1, w2)] → Top lawP loose mean mg mb h₀ → w1.data = .cell v1 → w2.data = .cell v2 →
  IntsAre cv chg → IntsAre uv ts → WordOk chg → (expandI nm ++ chg).foldl stepI 1 ≠ 1 → NameOk nm → ts.length ≤ 6 → Places oP → AllBare s.gens → dp + 20 < recursionLimit → un + 100 < cLine →
  (∀ h' tk' g' oP', Places oP' → AllBare g' → Fr h₀ L h' (fun y => if y = Str.ofString "changed" then some (.ref Dc) else if y = Str.ofString "place" then some (.int pv pt) else if y = Str.ofString "turns" then some (.ref Du) else if y = Str.ofString "turns" then some (.ref Dt) else if y = Str.ofString "signs" then some (.ref Ds) else if y = Str.ofString "made" then some (.str (madeX nm co) tm) else if y = Str.ofString "row" then some (.ref Dr) else if y = Str.ofString "name" then some (.str nm tn) else none) → News h₀ L h' [(Dc, listOf cv.toArray kc), (Du, listOf uv.toArray ku), (Ds, listOf sv.toArray ks), (45, oP'), (Dr, listOf rv.toArray kr), (L + 1 + 1, w1), (L + 1, w2)] →
    wpAny (model PySem.Challenge.rw_bg0021_01.row.prog w) (ktrTop dp un (some []) (Str.ofString "law") lawScope L fa ccd (cellsFrom (L + 1) lawScope.names []) []) (execs (lawBody.drop 11) (envOfC (Str.ofString "law") lawScope L fa ccd)) Q E { s with heap := h', toks := tk', gens := g' }) →
  wpAny (model PySem.Challenge.rw_bg0021_01.row.prog w) (ktrTop dp un (some []) (Str.ofString "law") lawScope L fa ccd (cellsFrom (L + 1) lawScope.names []) []) (execs (lawBody.drop 10) (envOfC (Str.ofString "law") lawScope L fa ccd)) Q E s := by
  w_top off
  k_fill
  intro w loose mean mg mb dp un fa ccd h₀ L s w1 w2 nm co ts chg Dc Du Dt Ds Dr cv uv sv rv kc ku ks kr tm tn pt pv oP v1 v2 Q E B1 F1 X1 N1 T1 c1 c2 hic hiu wO hbad hnO ht6 hP hG hd' hu' hrest
  have nf1 : NoF _ := NoF.cell c1
  have nf2 : NoF _ := NoF.cell c2
  have hnl : nm.length < 500 := by have := hnO.max; simp only [Str.length]; omega
  have hnz : nm.cps.size < 500 := by have := hnO.max; omega
  have hcl := wO.max
  have hbf : ((expandI nm ++ chg).foldl stepI 1 == 1) = false := beq_false_of_ne hbad
  unfold lawBody lawScope lawDef
  dsimp only [PySem.Challenge.pw_bg0021_01, List.getLast?, List.getLast, List.drop]
  (try k_fold)
  k_steps
  · exact hrest _ _ _ _ (by assumption) (by assumption) (by assumption) (drop_news (by assumption) (by walk_at "mem_sub"))
  · exact hrest _ _ _ _ hP hG (by assumption) (drop_news (by assumption) (by walk_at "mem_sub"))
end
end Mine
end

-- part MFac
section
open PySem PySem.W PySem.Spec PySem.Calls PyProof.Rows
namespace Mine
open PyProof.Rows.LCg (NsObj)
theorem chg_eq7 {f : Int → Int → Int} {co : List Int} {q : Int} {p : Nat} (h : q = (p : Int)) : co.take q.toNat ++ List.zipWith f (co.drop q.toNat) [1, 29, 22, 20, 21, 29, 18] ++ co.drop (q + 7).toNat = chgOf f co p [1, 29, 22, 20, 21, 29, 18] := chg_eq (n := 7) h rfl
theorem news_cell {h₀ h : Heap} {L C a : Addr} {oC o : Obj} {v : Option Value} {news all : List (Addr × Obj)} (_d : o.data = .cell v) (sub : ∀ p ∈ news, p ∈ all) (N : News h₀ L h ((C, oC) :: all)) (hm : (a, o) ∈ news) : News h₀ L h ((C, oC) :: (a, o) :: all) := fun p hp => by
  rcases List.mem_cons.mp hp with e | hp
  · exact N p (e ▸ .head _)
  · rcases List.mem_cons.mp hp with e | hp
    · exact N p (.tail _ (e ▸ sub _ hm))
    · exact N p (.tail _ hp)
theorem zip_fac {prog : Program} {w : World} {A : Around} {E : Value → Shared → Prop} {s : Shared} {h₀ : Heap} {L : Addr} {m : Str → Option Value} {env : Env} {elt : Expr} {x x₂ : Str} {scope : Scope} {cl : List (Str × Addr)} {news : List (Addr × Obj)} {l1 l2 : Addr} {vs ws : List Value} {k1 k2 : Nat} {as bs : List Int} {Q : Value → Shared → Prop} {o : Obj} {fac : Int} {t : Tok} (_d : o.data = .cell (some (.int fac t)))
    (hh : A.handled = none) (F : Fr h₀ L s.heap m) (N : News h₀ L s.heap news) (h1 : (l1, listOf vs.toArray k1) ∈ news) (h2 : (l2, listOf ws.toArray k2) ∈ news) (hi : IntsAre vs as) (hj : IntsAre ws bs) (hsz : as.length ≤ sizeLine)
    (turn : ∀ a b ta tb C oC all m₂ h tk (E' : Value → Shared → Prop), a ∈ as → b ∈ bs → NsObj oC m₂ → m₂ x = some (.int a ta) → m₂ x₂ = some (.int b tb) → Fr h₀ L h m → News h₀ L h ((C, oC) :: all) → (∀ p ∈ news, p ∈ all) →
      wpAny (model prog w) A (eval elt (compEnvC scope cl C env)) (ZEnd h₀ L m { s with heap := h, toks := tk } C oC all (fun y => ∃ t, y = .int (Builtin.bitXor a (timesI fac b)) t)) E' { s with heap := h, toks := tk })
    (fin : Hold (∀ (_ : Heap) ys D h tk, IntsAre ys (List.zipWith (fun a b => Builtin.bitXor a (timesI fac b)) as bs) → Fr h₀ L h m → News h₀ L h ((D, LCg.lst ys) :: news) → (∀ p ∈ news, p.1 < D) → Q (.ref D) { s with heap := h, toks := tk })) :
    wpAny (model prog w) A (call (.type "zip") [.ref l1, .ref l2]) (ZipSrc prog w A h₀ L m env elt x x₂ scope cl Q) E s :=
  zip_src (fun a b => Builtin.bitXor a (timesI fac b)) hh F N h1 h2 hi hj hsz turn fin
section
local macro_rules | `(tactic| walk_at "pad 0") => `(tactic| skip)
local macro_rules | `(tactic| walk_at "pad 1") => `(tactic| skip)
local macro_rules | `(tactic| walk_at "tails") => `(tactic| repeat (first | assumption | refine List.Mem.tail _ ?_))
local macro_rules | `(tactic| walk_at "mem_sub") => `(tactic| (intro p hp; simp only [List.mem_cons, List.mem_append] at hp ⊢; grind))
local macro_rules | `(tactic| walk_at "pick") => `(tactic| first | exact Pick.here | exact Pick.there (Pick.here) | exact Pick.there (Pick.there (Pick.here)) | exact Pick.there (Pick.there (Pick.there (Pick.here))) | exact Pick.there (Pick.there (Pick.there (Pick.there (Pick.here)))) | exact Pick.there (Pick.there (Pick.there (Pick.there (Pick.there (Pick.here))))) | exact Pick.there (Pick.there (Pick.there (Pick.there (Pick.there (Pick.there (Pick.here)))))))
local macro_rules | `(tactic| walk_at "nofs") => `(tactic| repeat (first | exact NoFs.nil | refine NoFs.cons ?_ ?_ | exact NoF.list | exact NoF.tuple | assumption))
local macro_rules | `(tactic| walk_at "CompEnd") => `(tactic| ((refine LCg.CompEnd.intro (by assumption) (by assumption) _ ?sub (by assumption) trivial (EltIs.int ?val)); (case sub => walk_at "mem_sub"); (case val => exact rfl)))

local macro_rules | `(tactic| walk_at "call ref") => `(tactic| first | (k_here; (with_reducible show wpAny _ _ (call (Value.ref 55) _) _ _ _); k_dflt (refine' at_call ?k1 ?k2 ?k3 ?k4 ?k5 ?kK ?kl ?ki ?kn ?kp ?kq ?kd ?ku ?_; (case k1 => k_asm); (case k2 => k_asm); (case k3 => k_asm); (case k4 => k_asm); (case k5 => k_asm); (case kK => first | exact rfl | assumption); (case kl => assumption); (case ki => assumption); (case kn => omega); (case kp => omega); (case kq => omega); (case kd => ktr_room); (case ku => ktr_units)); intro t9 h9 tk9 F9 N9; (try dsimp only); (try k_fold)) | ((with_reducible show wpAny _ _ (call (Value.ref 55) _) _ _ _); refine hold2 ?_))
local macro_rules | `(tactic| walk_at "eval ListComp") => `(tactic| (k_here; k_dflt (refine ListComp_Z (by k_asm) (by with_unfolding_all rfl) (by decide) (by rfl) (by decide) (by rfl) (by rfl) (by decide) ?_)))
local macro_rules | `(tactic| walk_at "call type:zip") => `(tactic| (k_here; (rename (_ = Data.cell (some (Value.int _ _))) => d9'); k_dflt (refine' zip_fac (bs := [1, 29, 22, 20, 21, 29, 18]) d9' (by rfl) (by k_asm) (by k_asm) (by k_mem) (by k_mem) (by with_reducible assumption) (.cons _ _ (.cons _ _ (.cons _ _ (.cons _ _ (.cons _ _ (.cons _ _ (.cons _ _ .nil))))))) (by kmk_sum) (fun a' b' ta' tb' C' oC' all' m' h' tk' E' ha' hb' hC' hx' hy' F' N' sub' => ?_) ?_); kcf_last; (all_goals (try (have N9' := news_cell d9' sub' N' (.tail _ (.tail _ (.tail _ (.tail _ (.tail _ (.tail _ (.head _))))))))))))
local macro_rules | `(tactic| walk_at "ZEnd") => `(tactic| (refine ZEnd.intro (by assumption) (by assumption) ?sub ⟨_, rfl⟩; (case sub => first | exact fun p hp => hp | walk_at "mem_sub")))
local macro_rules | `(tactic| walk_at "Hold") => `(tactic| ((refine id (α := ∀ (_ : Heap), _) ?_); intro gh ys' D' h' tk' hys' F' N' l1'; (try k_lt l1')))
local macro_rules | `(tactic| walk_at "nat_sign") => `(tactic| first | exact Int.natCast_nonneg _ | omega)
local macro_rules | `(tactic| walk_at "subscriptTail Name Slice ref ref") => `(tactic| (k_here; k_dflt (refine' kmk_slice_ints ?zF ?zN ?zl ?zp ?zq ?zi ?zm ?zc ?_ ?zs ?zt ?zz; (case zF => k_asm); (case zN => k_asm); (case zl => kmk_list); (case zp => first | exact IsPart.none | exact IsPart.int _ _); (case zq => first | exact IsPart.none | exact IsPart.int _ _); (case zi => with_reducible assumption); (case zm => first | exact kmk_from (by with_reducible assumption) (by walk_at "nat_sign") | exact kmk_upto (by with_reducible assumption) (by walk_at "nat_sign") | exact kmk_upto_neg (by with_reducible assumption) (by decide)); (case zc => exact rfl); (case zs => with_unfolding_all rfl); (case zt => kmk_pure); (case zz => (refine kmk_sz (by with_reducible assumption) ?_; kmk_sum))); intro D' ws' h' F' N' l1 hI' hC' hL'; (try k_lt l1); clear hC' hL'; (try simp only [Int.toNat_natCast] at hI')))
local macro_rules | `(tactic| kmk_sum) => `(tactic| ((simp only [PySem.sizeLine_eq, List.length_cons, List.length_nil, List.length_append, List.length_map, Array.length_toList, List.length_take, List.length_drop, List.length_zipWith]); omega))
local macro_rules | `(tactic| walk_at "execs cons") => `(tactic| ((with_reducible show wpAny _ _ (execs (Stmt.If (Expr.BoolOp _ _ _) _ _ _ :: _) _) _ _ _); refine hold2 ?_))
local macro_rules | `(tactic| walk_at "execs cons") => `(tactic| ((with_reducible show wpAny _ _ (execs (Stmt.Return _ _ :: _) _) _ _ _); (with_reducible show wpAny _ _ (execs _ (envOfC _ _ _ _ _)) _ _ _); refine hold2 ?_))
local macro_rules | `(tactic| walk_at "storeName") => `(tactic| (k_here; (with_reducible show wpAny _ _ (storeName _ (Str.ofString "factor") _) _ _ _); (rename (_ ≠ _ ∧ _ ≠ _ ∧ _ ≠ _) => ho'); k_dflt (refine' storeX_C ?zF ?zN ?zc ?zU ?zd ?_ ?za ?zb; (case za => rfl); (case zb => rfl); (case zF => k_asm); (case zN => k_asm); (case zc => rfl); (case zU => exact UpdF.tail ho'.1 (UpdF.tail ho'.2.2 (UpdF.tail ho'.2.1 (UpdF.head (fun p hp => by rw [List.mem_singleton.mp hp]; exact Nat.ne_of_lt (Nat.lt_succ_self _)))))); (case zd => k_asm); k_whole); intro h' o' F' N' d'; (try dsimp only at N')))
local macro_rules | `(tactic| walk_at "call ref") => `(tactic| (k_here; (with_reducible show wpAny _ _ (call (Value.ref 62) _) _ _ _); k_dflt (refine' times_call ?k1 ?k2 ?k3 ?k4 ?k5 ?kK ?kx ?kd ?ku ?_; (case k1 => k_asm); (case k2 => k_asm); (case k3 => k_asm); (case k4 => k_asm); (case k5 => k_asm); (case kK => first | exact rfl | assumption); (case kx => omega); (case kd => ktr_room); (case ku => ktr_units)); intro t9 h9 tk9 F9 N9; (try dsimp only); (try k_fold)))
local macro_rules | `(tactic| walk_at "eval Name") => `(tactic| ((with_reducible show wpAny _ _ (eval (Expr.Name (Str.ofString "factor") _) (compEnvC _ _ _ _)) _ _ _); refine hold2 ?_))
set_option maxRecDepth 100000 in
set_option maxHeartbeats 600000 in
theorem law_fac : ∀ {w : World} {loose : List Str} {mean : ExcName → Option Value} {mg mb : Str → Option Value} {dp un : Nat} {fa : Addr} {ccd : Value} {h₀ : Heap} {L : Addr} {s : Shared} {l : Addr} {vs : List Value} {ns : List Int} {w1 w2 : Obj} {nm : Str} {row co chg : List Int} {Dc Du Dt Ds Dr : Addr} {cv uv sv rv : List Value} {kc ku ks kr : Nat} {tm tn pt : Tok} {pv : Int} {oP : Obj} {Q : Flow → Shared → Prop} {E : Value → Shared → Prop},
  Below callerA h₀ [] h₀ → Fr h₀ L s.heap (fun y => if y = Str.ofString "changed" then some (.ref Dc) else if y = Str.ofString "place" then some (.int pv pt) else if y = Str.ofString "turns" then some (.ref Du) else if y = Str.ofString "turns" then some (.ref Dt) else if y = Str.ofString "signs" then some (.ref Ds) else if y = Str.ofString "made" then some (.str (madeX nm co) tm) else if y = Str.ofString "row" then some (.ref Dr) else if y = Str.ofString "name" then some (.str nm tn) else none) →
  (hd.heap_39 w.params).In h₀ → News h₀ L s.heap [(Ds, listOf sv.toArray ks), (45, oP), (Dr, listOf rv.toArray kr), (L + 1 + 1, w1), (L + 1, w2)] → Top lawP loose mean mg mb h₀ → h₀.IsList l vs.toArray → IntsAre vs ns → ns.length ≤ 63 → w1.data = .cell none → w2.data = .cell (some (.ref l)) →
  (Ds ≠ L + 1 + 1 ∧ Dr ≠ L + 1 + 1 ∧ 45 ≠ L + 1 + 1) → IntsAre sv co → IntsAre rv row → NameOk nm → CodeOk nm row co → Places oP → AllBare s.gens → dp + 20 < recursionLimit → un + 100 < cLine →
  (∀ (Q' : Flow → Shared → Prop) h' tk' De ev fac p qv qt w3, (∀ s', wpAny (model PySem.Challenge.rw_bg0021_01.row.prog w) (ktrTop dp un (some []) (Str.ofString "law") lawScope L fa ccd (cellsFrom (L + 1) lawScope.names []) []) (execs (lawBody.drop 12) (envOfC (Str.ofString "law") lawScope L fa ccd)) Q E s' → Q' .next s') → 1 ≤ fac → fac ≤ 31 → p + 7 ≤ co.length → IntsAre ev (chgOf (fun a b => Builtin.bitXor a (timesI fac b)) co p [1, 29, 22, 20, 21, 29, 18]) → NoF w3 → Fr h₀ L h' (fun y => if y = Str.ofString "changed" then some (.ref De) else if y = Str.ofString "place" then some (.int qv qt) else if y = Str.ofString "changed" then some (.ref Dc) else if y = Str.ofString "place" then some (.int pv pt) else if y = Str.ofString "turns" then some (.ref Du) else if y = Str.ofString "turns" then some (.ref Dt) else if y = Str.ofString "signs" then some (.ref Ds) else if y = Str.ofString "made" then some (.str (madeX nm co) tm) else if y = Str.ofString "row" then some (.ref Dr) else if y = Str.ofString "name" then some (.str nm tn) else none) → News h₀ L h' [(De, listOf ev.toArray 0), (Ds, listOf sv.toArray ks), (45, oP), (Dr, listOf rv.toArray kr), (L + 1 + 1, w3), (L + 1, w2)] → wpAny (model PySem.Challenge.rw_bg0021_01.row.prog w) (ktrTop dp un (some []) (Str.ofString "law") lawScope L fa ccd (cellsFrom (L + 1) lawScope.names []) []) (execs lawInner (envOfC (Str.ofString "law") lawScope L fa ccd)) Q' E { s with heap := h', toks := tk' }) →
  (∀ h' tk', Fr h₀ L h' (fun y => if y = Str.ofString "changed" then some (.ref Dc) else if y = Str.ofString "place" then some (.int pv pt) else if y = Str.ofString "turns" then some (.ref Du) else if y = Str.ofString "turns" then some (.ref Dt) else if y = Str.ofString "signs" then some (.ref Ds) else if y = Str.ofString "made" then some (.str (madeX nm co) tm) else if y = Str.ofString "row" then some (.ref Dr) else if y = Str.ofString "name" then some (.str nm tn) else none) → News h₀ L h' [(Ds, listOf sv.toArray ks), (45, oP), (Dr, listOf rv.toArray kr), (L + 1 + 1, w1), (L + 1, w2)] → wpAny (model PySem.Challenge.rw_bg0021_01.row.prog w) (ktrTop dp un (some []) (Str.ofString "law") lawScope L fa ccd (cellsFrom (L + 1) lawScope.names []) []) (execs (lawBody.drop 12) (envOfC (Str.ofString "law") lawScope L fa ccd)) Q E { s with heap := h', toks := tk' }) →
  wpAny (model PySem.Challenge.rw_bg0021_01.row.prog w) (ktrTop dp un (some []) (Str.ofString "law") lawScope L fa ccd (cellsFrom (L + 1) lawScope.names []) []) (execs (lawBody.drop 11) (envOfC (Str.ofString "law") lawScope L fa ccd)) Q E s := by
  w_top off
  k_fill
  intro w loose mean mg mb dp un fa ccd h₀ L s l vs ns w1 w2 nm row co chg Dc Du Dt Ds Dr cv uv sv rv kc ku ks kr tm tn pt pv oP Q E B1 F1 X1 N1 T1 hl hi hlen c1 c2 hoff his hir hnO cO hP hG hd' hu' hrest hend
  have nf1 : NoF _ := NoF.cell c1
  have nf2 : NoF _ := NoF.cell c2
  have hnl : nm.length < 500 := by have := hnO.max; simp only [Str.length]; omega
  have hc26 := cO.max26
  obtain ⟨fq, hfq, hfl⟩ : ∃ fq : Nat, (ns.getD (Int.toNat 12) 3).fmod 31 = (fq : Int) ∧ fq ≤ 30 := by
    have h0 : 0 ≤ (ns.getD (Int.toNat 12) 3).fmod 31 := Int.fmod_nonneg_of_pos _ (by decide)
    have h1 : (ns.getD (Int.toNat 12) 3).fmod 31 < 31 := Int.fmod_lt_of_pos _ (by decide)
    exact ⟨((ns.getD (Int.toNat 12) 3).fmod 31).toNat, by omega, by omega⟩
  obtain ⟨p, hp⟩ : ∃ p : Nat, 6 < co.length → (ns.getD (Int.toNat 4) 2).fmod (↑co.length - 6) = (p : Int) ∧ p + 7 ≤ co.length := ⟨((ns.getD (Int.toNat 4) 2).fmod (↑co.length - 6)).toNat, fun h6 => by
    have h0 : 0 ≤ (ns.getD (Int.toNat 4) 2).fmod (↑co.length - 6) := Int.fmod_nonneg_of_pos _ (by omega)
    have h1 : (ns.getD (Int.toNat 4) 2).fmod (↑co.length - 6) < ↑co.length - 6 := Int.fmod_lt_of_pos _ (by omega)
    omega⟩
  unfold lawBody lawScope lawDef
  dsimp only [PySem.Challenge.pw_bg0021_01, List.getLast?, List.getLast, List.drop]
  (try k_fold)
  k_steps
  · unfold Hold2
    rename (_ = Data.cell (some (Value.int _ _))) => d9'
    rename (∀ p, p ∈ _ → p ∈ _) => sub9'
    refine' lcf_cell ?zN ?zc ?zm ?zd ?_ ?za ?zb
    case za => rfl
    case zb => rfl
    case zN => k_asm
    case zc => rfl
    case zm => exact .tail _ (sub9' _ (.tail _ (.tail _ (.tail _ (.tail _ (.tail _ (.tail _ (.head _))))))))
    case zd => exact d9'
    k_steps
  · have h6 : 6 < co.length := by omega
    obtain ⟨hp1, hp2⟩ := hp h6
    rename (_ = Data.cell (some (Value.int _ _))) => d9'
    rename (IntsAre _ (_ ++ _ ++ _)) => hI9
    rw [chg_eq7 hp1] at hI9
    exact hrest _ _ _ _ _ _ p _ _ _ (fun s' h => h) (by omega) (by omega) hp2 hI9 (NoF.cell d9') (by assumption) (drop_news (by assumption) (by walk_at "mem_sub"))
  · exact hend _ _ (by assumption) (by assumption)
end
end Mine
end

-- part MLast
section
open PySem PySem.W PySem.Spec PySem.Calls PyProof.Rows
namespace Mine
section
local macro_rules | `(tactic| walk_at "tails") => `(tactic| repeat (first | assumption | refine List.Mem.tail _ ?_))
local macro_rules | `(tactic| walk_at "mem_sub") => `(tactic| (intro p hp; simp only [List.mem_cons, List.mem_append] at hp ⊢; grind))
local macro_rules | `(tactic| walk_at "pick") => `(tactic| first | exact Pick.here | exact Pick.there (Pick.here) | exact Pick.there (Pick.there (Pick.here)) | exact Pick.there (Pick.there (Pick.there (Pick.here))) | exact Pick.there (Pick.there (Pick.there (Pick.there (Pick.here)))) | exact Pick.there (Pick.there (Pick.there (Pick.there (Pick.there (Pick.here))))) | exact Pick.there (Pick.there (Pick.there (Pick.there (Pick.there (Pick.there (Pick.here)))))))
local macro_rules | `(tactic| walk_at "nofs") => `(tactic| repeat (first | exact NoFs.nil | refine NoFs.cons ?_ ?_ | exact NoF.list | exact NoF.tuple | assumption))
local macro_rules | `(tactic| walk_at "CompEnd") => `(tactic| ((refine LCg.CompEnd.intro (by assumption) (by assumption) _ ?sub (by assumption) trivial (EltIs.int ?val)); (case sub => walk_at "mem_sub"); (case val => exact rfl)))

local macro_rules | `(tactic| walk_at "call ref") => `(tactic| (k_here; (with_reducible show wpAny _ _ (call (Value.ref 48) _) _ _ _); (rename WordOk _ => wO'); k_dflt (refine' decode_ok ?k1 ?k2 ?k3 ?k4 ?k5 ?kK ?kp ?kq ?kP ?kG ?kn ?kb ?k6 ?km ?kx ?kv ?kd ?ku ?_; (case k1 => k_asm); (case k2 => k_asm); (case k3 => k_asm); (case k4 => k_asm); (case k5 => k_asm); (case kK => first | exact rfl | assumption); (case kp => walk_at "pick"); (case kq => walk_at "nofs"); (case kP => assumption); (case kG => assumption); (case kn => assumption); (case kb => exact wO'.bnd); (case k6 => exact wO'.six); (case km => (have := wO'.max; omega)); (case kx => first | exact .inl rfl | exact .inr rfl | exact .inl made_cat); (case kv => assumption); (case kd => ktr_room); (case ku => ktr_units)); intro T9 D9 ws9 t9 n9 h9 tk9 g9 oP9 iW9 hP9 hG9 F9 N9; (try dsimp only); (try k_fold)))
local macro_rules | `(tactic| walk_at "call ref") => `(tactic| (k_here; (with_reducible show wpAny _ _ (call (Value.ref 33) _) _ _ _); (rename WordOk _ => wO'); k_dflt (refine' verify_call ?k1 ?k2 ?k3 ?k4 ?k5 ?kK ?kx ?kl ?ki ?kn ?kd ?ku ?_; (case k1 => k_asm); (case k2 => k_asm); (case k3 => k_asm); (case k4 => k_asm); (case k5 => k_asm); (case kK => first | exact rfl | assumption); (case kx => omega); (case kl => k_mem); (case ki => with_reducible assumption); (case kn => (have := wO'.max; omega)); (case kd => ktr_room); (case ku => ktr_units)); intro h9 tk9 F9 N9; (try ((rename ((_ == (1 : Int)) = _) => hbf'); rw [hbf'])); (try dsimp only); (try k_fold)))
local macro_rules | `(tactic| kmk_sum) => `(tactic| ((simp only [PySem.sizeLine_eq, List.length_cons, List.length_nil, List.length_append, List.length_map, Array.length_toList, List.length_take, List.length_drop, List.length_zipWith]); omega))
local macro_rules | `(tactic| walk_at "eval ListComp") => `(tactic| (k_here; k_dflt (refine LCg.ListComp_U (by k_asm) (by with_unfolding_all rfl) (by decide) (by rfl) (by decide) (by rfl) ?_)))
local macro_rules | `(tactic| walk_at "CompSrc") => `(tactic| (k_here; k_dflt (refine' ledgerSrc.strs (fun d => ⟨#[signOf d]⟩) (by rfl) (by k_asm) (by k_asm) (by k_mem) (by with_reducible assumption) (by kmk_sum) (fun c' u' I' oI' C' oC' D' m' ys' h' tk' E' hc' hC' hx' F' N' off' ne' hS' => ?_) ?_); kcf_last))
local macro_rules | `(tactic| walk_at "subscriptTail Name Name str int") => `(tactic| ((rename ((_ : Int) ∈ (_ : List Int)) => hc''); (rename WordOk _ => wO'); (have hb'' := wO'.bnd _ hc''); (refine item_str (fitsSsize_of (N := 9223372036854775808) (by omega) (by omega) (Int.le_refl _)) (by rw [charset_length]; omega) (by rw [charset_length]; omega) ?_); intro _))
local macro_rules | `(tactic| walk_at "CompEnd") => `(tactic| ((refine LCg.CompEnd.intro (by assumption) (by assumption) _ ?sub (by assumption) (by assumption) (EltIs.str ?val)); (case sub => walk_at "mem_sub"); (case val => exact item_sign (by assumption))))
local macro_rules | `(tactic| walk_at "call builtin:str.join") => `(tactic| (k_here; (rename StrsAre _ (List.map _ _) => sA'); (rename WordOk _ => wO'); (refine join_text signOf (News.isList (by k_asm) (by k_mem)) sA' ?len ?_); (case len => (have := wO'.max; omega)); intro _ _))
local macro_rules | `(tactic| walk_at "binaryOp Add str str") => `(tactic| (k_here; (try dsimp only); (refine add_str ?_ ?sz); (case sz => (rw [PySem.sizeLine_eq]; simp only [Str.length, Str.cps_append, Array.size_append, cps_one, List.size_toArray, List.length_map, List.length_append, List.length_cons, List.length_nil]; omega)); intro _ _))
local macro_rules | `(tactic| walk_at "Hold") => `(tactic| ((refine id (α := ∀ (_ : Heap), _) ?_); intro gh ys' hys' D' h' tk' F' N' o1'))
local macro_rules | `(tactic| walk_at "compareOp NotEq ref ref") => `(tactic| (k_here; k_dflt (refine' cmp_pair ?c1 ?c2 ?c3 ?c4 ?c5 ?c6 ?c7 ?c8 ?_; (case c1 => k_asm); (case c2 => k_mem); (case c3 => k_mem); (case c4 => k_mem); (case c5 => k_mem); (case c6 => with_reducible assumption); (case c7 => with_reducible assumption); (case c8 => first | ktr_units | (dsimp only [ktrTop]; omega)); (try dsimp only); (try k_fold))))
local macro_rules | `(tactic| walk_at "subscriptTail Name Slice ref ref") => `(tactic| (k_here; k_dflt (refine' kmk_slice_ints ?zF ?zN ?zl ?zp ?zq ?zi ?zm ?zc ?_ ?zs ?zt ?zz; (case zF => k_asm); (case zN => k_asm); (case zl => kmk_list); (case zp => exact IsPart.none); (case zq => exact IsPart.int _ _); (case zi => with_reducible assumption); (case zm => exact kmk_upto_neg (by with_reducible assumption) (by decide)); (case zc => exact rfl); (case zs => with_unfolding_all rfl); (case zt => kmk_pure); (case zz => (refine kmk_sz (by with_reducible assumption) ?_; kmk_sum))); intro D' ws' h' F' N' l1 hI' hC' hL'; (try simp only [Int.reduceNeg, Int.neg_neg, Int.reduceToNat] at hI'); (try k_lt l1); clear hC' hL'))
local macro_rules | `(tactic| walk_at "compareOp Eq ref ref") => `(tactic| (k_here; k_dflt (refine' cmp_lists ?c1 ?c3 ?c4 ?c5 ?c6 ?c7 ?c8 ?_; (case c1 => k_asm); (case c3 => k_mem); (case c4 => k_mem); (case c5 => with_reducible assumption); (case c6 => with_reducible assumption); (case c7 => assumption); (case c8 => first | ktr_units | (dsimp only [ktrTop]; omega)); (try dsimp only); (try k_fold))))
set_option maxRecDepth 100000 in
set_option maxHeartbeats 800000 in
theorem law_inner : ∀ {w : World} {loose : List Str} {mean : ExcName → Option Value} {mg mb : Str → Option Value} {dp un : Nat} {fa : Addr} {ccd : Value} {h₀ : Heap} {L : Addr} {s : Shared} {w1 w2 : Obj} {nm : Str} {row co chg : List Int} {De Dc Du Dt Ds Dr : Addr} {ev sv rv : List Value} {ks kr : Nat} {tm tn pt qt : Tok} {pv qv : Int} {oP : Obj} {Q : Flow → Shared → Prop} {E : Value → Shared → Prop},
  Below callerA h₀ [] h₀ → Fr h₀ L s.heap (fun y => if y = Str.ofString "changed" then some (.ref De) else if y = Str.ofString "place" then some (.int qv qt) else if y = Str.ofString "changed" then some (.ref Dc) else if y = Str.ofString "place" then some (.int pv pt) else if y = Str.ofString "turns" then some (.ref Du) else if y = Str.ofString "turns" then some (.ref Dt) else if y = Str.ofString "signs" then some (.ref Ds) else if y = Str.ofString "made" then some (.str (madeX nm co) tm) else if y = Str.ofString "row" then some (.ref Dr) else if y = Str.ofString "name" then some (.str nm tn) else none) →
  (hd.heap_39 w.params).In h₀ → News h₀ L s.heap [(De, listOf ev.toArray 0), (Ds, listOf sv.toArray ks), (45, oP), (Dr, listOf rv.toArray kr), (L + 1 + 1, w1), (L + 1, w2)] → Top lawP loose mean mg mb h₀ → NoF w1 → NoF w2 →
  IntsAre ev chg → IntsAre rv row → WordOk chg → (expandI nm ++ chg).foldl stepI 1 = 1 → chg.take (chg.length - 6) ≠ row → NameOk nm → Places oP → AllBare s.gens → dp + 20 < recursionLimit → un + 100 < cLine →
  (∀ s' m oP', Fr h₀ L s'.heap m → m (Str.ofString "name") = some (.str nm tn) → m (Str.ofString "signs") = some (.ref Ds) → News h₀ L s'.heap [(Ds, listOf sv.toArray ks), (45, oP')] → Places oP' → AllBare s'.gens → s'.os = s.os → Q .next s') →
  wpAny (model PySem.Challenge.rw_bg0021_01.row.prog w) (ktrTop dp un (some []) (Str.ofString "law") lawScope L fa ccd (cellsFrom (L + 1) lawScope.names []) []) (execs lawInner (envOfC (Str.ofString "law") lawScope L fa ccd)) Q E s := by
  w_top off
  k_fill
  intro w loose mean mg mb dp un fa ccd h₀ L s w1 w2 nm row co chg De Dc Du Dt Ds Dr ev sv rv ks kr tm tn pt qt pv qv oP Q E B1 F1 X1 N1 T1 nf1 nf2 hie hir wO hgood hne hnO hP hG hd' hu' hnext
  have hnl : nm.length < 500 := by have := hnO.max; simp only [Str.length]; omega
  have hnz : nm.cps.size < 500 := by have := hnO.max; omega
  have hcl := wO.max
  have hbf : ((expandI nm ++ chg).foldl stepI 1 == 1) = true := by rw [hgood]; rfl
  unfold lawInner lawScope lawDef
  dsimp only [PySem.Challenge.pw_bg0021_01, List.getLast?, List.getLast, List.drop]
  (try k_fold)
  k_steps
  rename Places _ => hP9
  exact hnext _ _ _ (by assumption) rfl rfl (drop_news (by assumption) (by walk_at "mem_sub")) hP9 (by assumption) rfl
end
end Mine
end

-- part MEnd
section
open PySem PySem.W PySem.Spec PySem.Calls PyProof.Rows
namespace Mine
theorem ldC {M : Model} {A : Around} {E : Value → Shared → Prop} {s : Shared} {h₀ : Heap} {L a : Addr} {m : Str → Option Value} {name x : Str} {scope : Scope} {cd v : Value} {pos : Pos} {Q : Value → Shared → Prop} (F : Fr h₀ L s.heap m) (hv : m x = some v) (h : Q v s)
    (hk : scope.kind = .function := by rfl) (hl : (envOfC name scope L a cd).kindOf x = some .local := by rfl) (hd : (x == ("__debug__" : Str)) = false := by decide) :
    wpAny M A (eval (.Name x pos) (envOfC name scope L a cd)) Q E s := wpAny_Name (wpAny_loadName_local hk hl F.ns hv h) hd
section
local macro_rules | `(tactic| walk_at "tails") => `(tactic| repeat (first | assumption | refine List.Mem.tail _ ?_))
local macro_rules | `(tactic| walk_at "mem_sub") => `(tactic| (intro p hp; simp only [List.mem_cons, List.mem_append] at hp ⊢; grind))
local macro_rules | `(tactic| walk_at "pick") => `(tactic| first | exact Pick.here | exact Pick.there (Pick.here) | exact Pick.there (Pick.there (Pick.here)) | exact Pick.there (Pick.there (Pick.there (Pick.here))) | exact Pick.there (Pick.there (Pick.there (Pick.there (Pick.here)))) | exact Pick.there (Pick.there (Pick.there (Pick.there (Pick.there (Pick.here))))) | exact Pick.there (Pick.there (Pick.there (Pick.there (Pick.there (Pick.there (Pick.here)))))))
local macro_rules | `(tactic| walk_at "nofs") => `(tactic| repeat (first | exact NoFs.nil | refine NoFs.cons ?_ ?_ | exact NoF.list | exact NoF.tuple | assumption))
local macro_rules | `(tactic| walk_at "CompEnd") => `(tactic| ((refine LCg.CompEnd.intro (by assumption) (by assumption) _ ?sub (by assumption) trivial (EltIs.int ?val)); (case sub => walk_at "mem_sub"); (case val => exact rfl)))

local macro_rules | `(tactic| walk_at "call ref") => `(tactic| (k_here; (with_reducible show wpAny _ _ (call (Value.ref 33) _) _ _ _); (rename WordOk _ => wO'); k_dflt (refine' verify_call ?k1 ?k2 ?k3 ?k4 ?k5 ?kK ?kx ?kl ?ki ?kn ?kd ?ku ?_; (case k1 => k_asm); (case k2 => k_asm); (case k3 => k_asm); (case k4 => k_asm); (case k5 => k_asm); (case kK => first | exact rfl | assumption); (case kx => omega); (case kl => k_mem); (case ki => with_reducible assumption); (case kn => (have := wO'.max; omega)); (case kd => ktr_room); (case ku => ktr_units)); intro h9 tk9 F9 N9; (try ((rename ((_ == (1 : Int)) = _) => hbf'); rw [hbf'])); (try dsimp only); (try k_fold)))
local macro_rules | `(tactic| walk_at "eval Name") => `(tactic| (k_here; k_dflt (refine ldC (by k_asm) (by assumption) ?_)))
set_option maxRecDepth 100000 in
set_option maxHeartbeats 800000 in
theorem law_end : ∀ {w : World} {loose : List Str} {mean : ExcName → Option Value} {mg mb : Str → Option Value} {dp un : Nat} {fa : Addr} {ccd : Value} {h₀ : Heap} {L : Addr} {s : Shared} {nm : Str} {co : List Int} {Ds : Addr} {sv : List Value} {ks : Nat} {tn : Tok} {m : Str → Option Value} {oP : Obj} {Q : Flow → Shared → Prop} {E : Value → Shared → Prop},
  Below callerA h₀ [] h₀ → Fr h₀ L s.heap m → m (Str.ofString "name") = some (.str nm tn) → m (Str.ofString "signs") = some (.ref Ds) →
  (hd.heap_39 w.params).In h₀ → News h₀ L s.heap [(Ds, listOf sv.toArray ks), (45, oP)] → Top lawP loose mean mg mb h₀ →
  IntsAre sv co → WordOk co → (expandI nm ++ co).foldl stepI 1 = 1 → NameOk nm → Places oP → AllBare s.gens → dp + 20 < recursionLimit → un + 100 < cLine →
  (∀ h' tk' m', Fr h₀ L h' m' → h'.get? 45 = some oP → Q (.ret (.bool true)) { s with heap := h', toks := tk' }) →
  wpAny (model PySem.Challenge.rw_bg0021_01.row.prog w) (ktrTop dp un (some []) (Str.ofString "law") lawScope L fa ccd (cellsFrom (L + 1) lawScope.names []) []) (execs (lawBody.drop 12) (envOfC (Str.ofString "law") lawScope L fa ccd)) Q E s := by
  w_top off
  k_fill
  intro w loose mean mg mb dp un fa ccd h₀ L s nm co Ds sv ks tn m oP Q E B1 F1 hm1 hm2 X1 N1 T1 his wO hgood hnO hP hG hd' hu' hend
  have hnz : nm.cps.size < 500 := by have := hnO.max; omega
  have hcl := wO.max
  have hbf : ((expandI nm ++ co).foldl stepI 1 == 1) = true := by rw [hgood]; rfl
  unfold lawBody lawScope lawDef
  dsimp only [PySem.Challenge.pw_bg0021_01, List.getLast?, List.getLast, List.drop]
  (try k_fold)
  k_steps
  exact hend _ _ _ (by assumption) ((by assumption : News _ _ _ _) (45, oP) (.tail _ (.head _))).1
end
end Mine
end

-- part MPlain2
section
open PySem PySem.W PySem.Spec PySem.Calls PyProof.Rows
namespace Mine
theorem chg_up (co ts : List Nat) (p : Nat) : chgOf (fun a b => Builtin.bitXor a b) (up co) p (up ts) = up (chgN co p ts) := by
  unfold chgOf chgN
  rw [up_app, up_app, up_length]
  have e1 : (up co).take p = up (co.take p) := (List.map_take ..).symm
  have e2 : ∀ k, (up co).drop k = up (co.drop k) := fun k => (List.map_drop ..).symm
  rw [e1, e2, e2]
  congr 2
  unfold up
  rw [List.zipWith_map, List.map_zipWith]
  congr 1
  funext a b
  exact xor_nn a b
theorem chgN_mem {co ts : List Nat} {p : Nat} (hc : ∀ d ∈ co, d < 32) (ht : ∀ d ∈ ts, d < 32) : ∀ d ∈ chgN co p ts, d < 32 := by
  intro d hd
  unfold chgN at hd
  rcases List.mem_append.mp hd with hd | hd
  · rcases List.mem_append.mp hd with hd | hd
    · exact hc d (List.mem_of_mem_take hd)
    · obtain ⟨i, hi, e⟩ := List.getElem_of_mem hd
      rw [List.getElem_zipWith] at e
      rw [← e]
      exact Nat.xor_lt_two_pow (n := 5) (hc _ (List.mem_of_mem_drop (List.getElem_mem _))) (ht _ (List.getElem_mem _))
  · exact hc d (List.mem_of_mem_drop hd)
theorem chgN_length {co ts : List Nat} {p : Nat} (h : p + ts.length ≤ co.length) : (chgN co p ts).length = co.length := by
  unfold chgN
  simp only [List.length_append, List.length_take, List.length_zipWith, List.length_drop]
  omega
theorem chg_word {co ts : List Nat} {p : Nat} (hc : ∀ d ∈ co, d < 32) (ht : ∀ d ∈ ts, d < 32) (h : p + ts.length ≤ co.length) (h6 : 6 ≤ co.length) (h26 : co.length ≤ 26) : WordOk (up (chgN co p ts)) where
  bnd := up_bound (chgN_mem hc ht)
  six := by rw [up_length, chgN_length h]; exact h6
  max := by rw [up_length, chgN_length h]; exact h26
theorem chg_sum {ex co ts : List Nat} {p : Nat} (h : p + ts.length ≤ co.length) (h1 : (up ex ++ up co).foldl stepI 1 = 1) :
    (up ex ++ up (chgN co p ts)).foldl stepI 1 = ((1 ^^^ (List.replicate (co.length - (p + ts.length)) 0).foldl stepN (ts.foldl stepN 0) : Nat) : Int) := by
  have e1 := fold_nat (ex ++ co) 1
  have e2 := fold_nat (ex ++ chgN co p ts) 1
  rw [up_app, show ((1 : Nat) : Int) = 1 from rfl] at e1 e2
  rw [h1] at e1
  have e1 : (ex ++ co).foldl stepN 1 = 1 := by omega
  rw [e2, List.foldl_append, chg_fold _ _ _ _ h, ← List.foldl_append, e1]
theorem sum_up : ∀ {ts : List Nat}, (∀ t ∈ ts, t = 0) → (up ts).sum = 0
  | [], _ => rfl
  | t :: ts, h => by
    have h0 : t = 0 := h t (.head _)
    have : (up (t :: ts)).sum = (t : Int) + (up ts).sum := List.sum_cons
    rw [this, sum_up fun x hx => h x (.tail _ hx), h0]; rfl
theorem burst_bad {nm : Str} {row co ts : List Int} {p : Nat} (hn : NameOk nm) (c : CodeOk nm row co) (t : TurnsOk ts) (hp : p + ts.length ≤ co.length) :
    WordOk (chgOf (fun a b => Builtin.bitXor a b) co p ts) ∧ (expandI nm ++ chgOf (fun a b => Builtin.bitXor a b) co p ts).foldl stepI 1 ≠ 1 := by
  have h26 := c.max26
  have one := c.one
  obtain ⟨ex, e1, _⟩ := expand_up hn.ascii
  obtain ⟨cn, e2, h2⟩ := up_of c.bnd
  obtain ⟨tn, e3, h3⟩ := up_of t.bnd
  have tm := t.max
  have tsum := t.sum
  subst e2 e3
  rw [up_length] at h26 tm
  rw [up_length, up_length] at hp
  rw [e1] at one
  rw [chg_up]
  refine ⟨chg_word h2 h3 hp h26.1 h26.2, ?_⟩
  rw [e1, chg_sum hp one]
  have hd := fold_digits tn 0 6 h3 tm (Nat.le_refl _) (by decide)
  have hz := zeros_fold (cn.length - (p + tn.length)) _ hd.1 fun e => by
    have := sum_up (hd.2 e).2
    omega
  intro e
  have e : 1 ^^^ (List.replicate (cn.length - (p + tn.length)) 0).foldl stepN (tn.foldl stepN 0) = 1 := by omega
  have e' := xor_cancel 1 ((List.replicate (cn.length - (p + tn.length)) 0).foldl stepN (tn.foldl stepN 0))
  rw [e, Nat.xor_self] at e'
  exact hz e'.symm
/-- the run of seven, times each factor: in bounds, its first sign not nought, its remainder nought -/
theorem factor_facts : ∀ f : Fin 31, (∀ d ∈ [1, 29, 22, 20, 21, 29, 18].map (timesI ((f.val : Int) + 1)), 0 ≤ d ∧ d < 32) ∧ timesI ((f.val : Int) + 1) 1 ≠ 0 ∧ ([1, 29, 22, 20, 21, 29, 18].map (timesI ((f.val : Int) + 1))).foldl stepI 0 = 0 := by decide +kernel
theorem factor_good {nm : Str} {row co : List Int} {p : Nat} {fac : Int} (hn : NameOk nm) (c : CodeOk nm row co) (h1 : 1 ≤ fac) (h2 : fac ≤ 31) (hp : p + 7 ≤ co.length) :
    WordOk (chgOf (fun a b => Builtin.bitXor a (timesI fac b)) co p [1, 29, 22, 20, 21, 29, 18]) ∧ (expandI nm ++ chgOf (fun a b => Builtin.bitXor a (timesI fac b)) co p [1, 29, 22, 20, 21, 29, 18]).foldl stepI 1 = 1 ∧
      (chgOf (fun a b => Builtin.bitXor a (timesI fac b)) co p [1, 29, 22, 20, 21, 29, 18]).take ((chgOf (fun a b => Builtin.bitXor a (timesI fac b)) co p [1, 29, 22, 20, 21, 29, 18]).length - 6) ≠ row := by
  have ef : fac = (((fac - 1).toNat : Nat) : Int) + 1 := by omega
  obtain ⟨q1, q2, q3⟩ := factor_facts ⟨(fac - 1).toNat, by omega⟩
  dsimp only at q1 q2 q3
  rw [← ef] at q1 q2 q3
  have ec : chgOf (fun a b => Builtin.bitXor a (timesI fac b)) co p [1, 29, 22, 20, 21, 29, 18] = chgOf (fun a b => Builtin.bitXor a b) co p ([1, 29, 22, 20, 21, 29, 18].map (timesI fac)) := by
    unfold chgOf
    rw [List.zipWith_map_right, List.length_map]
  rw [ec]
  have hlen : ([1, 29, 22, 20, 21, 29, 18].map (timesI fac)).length = 7 := by rw [List.length_map]; rfl
  have h26 := c.max26
  have one := c.one
  have hrow := c.head
  have hrl := c.len
  obtain ⟨ex, e1, _⟩ := expand_up hn.ascii
  obtain ⟨cn, e2, b2⟩ := up_of c.bnd
  obtain ⟨tn, e3, b3⟩ := up_of q1
  have e30 : timesI fac 1 :: [29, 22, 20, 21, 29, 18].map (timesI fac) = up tn := e3
  rw [e3] at q3 hlen ⊢
  subst e2
  rw [up_length] at h26 hlen hp hrl hrow
  rw [e1] at one
  have hp' : p + tn.length ≤ cn.length := by omega
  have z : tn.foldl stepN 0 = 0 := by
    have := fold_nat tn 0
    rw [show ((0 : Nat) : Int) = 0 from rfl, q3] at this
    omega
  rw [chg_up]
  refine ⟨chg_word b2 b3 hp' h26.1 h26.2, ?_, ?_⟩
  · rw [e1, chg_sum hp' one, z, zeros_fold0]; rfl
  · rw [up_length, chgN_length hp', ← hrow]
    intro e
    have e4 : ∀ l : List Nat, ∀ k, (up l).take k = up (l.take k) := fun l k => (List.map_take ..).symm
    rw [e4, e4] at e
    have e := up_inj e
    obtain ⟨t0, tr, rfl⟩ : ∃ a b, tn = a :: b := by
      cases tn with
      | nil => simp at hlen
      | cons a b => exact ⟨a, b, rfl⟩
    have ht0 : t0 ≠ 0 := by
      intro q
      have : timesI fac 1 = (t0 : Int) := by
        have e30 : timesI fac 1 :: [29, 22, 20, 21, 29, 18].map (timesI fac) = (t0 : Int) :: up tr := e30
        injection e30
      rw [q] at this
      exact q2 this
    have hpl : p < cn.length := by omega
    have g1 : (chgN cn p (t0 :: tr))[p]? = some (cn[p] ^^^ t0) := by
      unfold chgN
      rw [List.append_assoc, List.getElem?_append_right (by rw [List.length_take]; omega), List.length_take, Nat.min_eq_left (by omega), Nat.sub_self]
      rw [List.drop_eq_getElem_cons hpl, List.zipWith_cons_cons]
      rfl
    have g2 : ((chgN cn p (t0 :: tr)).take (cn.length - 6))[p]? = (cn.take (cn.length - 6))[p]? := by rw [e]
    rw [List.getElem?_take_of_lt (by omega), List.getElem?_take_of_lt (by omega), g1, List.getElem?_eq_getElem hpl] at g2
    have g3 : cn[p] ^^^ t0 = cn[p] := Option.some.inj g2
    have g4 := xor_cancel cn[p] t0
    rw [g3, Nat.xor_self] at g4
    exact ht0 g4.symm
end Mine
end

-- part MRest
section
open PySem PySem.W PySem.Spec PySem.Calls PyProof.Rows
namespace Mine
theorem law_rest {w : World} {loose : List Str} {mean : ExcName → Option Value} {mg mb : Str → Option Value} {dp un : Nat} {fa : Addr} {ccd : Value} {h₀ : Heap} {L : Addr} {s : Shared} {l : Addr} {vs : List Value} {ns : List Int} {w1 w2 : Obj} {nm : Str} {row co : List Int} {Ds Dr : Addr} {sv rv : List Value} {ks kr : Nat} {tm tn : Tok} {oP : Obj} {Q : Flow → Shared → Prop} {E : Value → Shared → Prop}
  (B : Below callerA h₀ [] h₀) (F : Fr h₀ L s.heap (fun y => if y = Str.ofString "signs" then some (.ref Ds) else if y = Str.ofString "made" then some (.str (madeX nm co) tm) else if y = Str.ofString "row" then some (.ref Dr) else if y = Str.ofString "name" then some (.str nm tn) else none))
  (X : (hd.heap_39 w.params).In h₀) (N : News h₀ L s.heap [(Ds, listOf sv.toArray ks), (45, oP), (Dr, listOf rv.toArray kr), (L + 1 + 1, w1), (L + 1, w2)]) (T : Top lawP loose mean mg mb h₀) (hl : h₀.IsList l vs.toArray) (hi : IntsAre vs ns) (hlen : ns.length ≤ 63) (c1 : w1.data = .cell none) (c2 : w2.data = .cell (some (.ref l)))
  (hoff : Ds ≠ L + 1 + 1 ∧ Dr ≠ L + 1 + 1 ∧ 45 ≠ L + 1 + 1) (his : IntsAre sv co) (hir : IntsAre rv row) (hn : NameOk nm) (c : CodeOk nm row co) (hP : Places oP) (hG : AllBare s.gens) (hd' : dp + 20 < recursionLimit) (hu : un + 100 < cLine)
  (hfin : ∀ (s' : Shared) m oP', s'.os = s.os → Fr h₀ L s'.heap m → s'.heap.get? 45 = some oP' → Places oP' → AllBare s'.gens → Q (.ret (.bool true)) s') :
  wpAny (model PySem.Challenge.rw_bg0021_01.row.prog w) (ktrTop dp un (some []) (Str.ofString "law") lawScope L fa ccd (cellsFrom (L + 1) lawScope.names []) []) (execs (lawBody.drop 5) (envOfC (Str.ofString "law") lawScope L fa ccd)) Q E s := by
  have wO : WordOk co := ⟨c.bnd, c.max26.1, c.max26.2⟩
  refine law_turns B F X N T hl hi hlen c1 c2 his hir hn c hP hG hd' hu fun h1 tk1 Dt tv ts k hit hT F1 N1 => ?_
  refine law_chg B F1 X N1 T hl hi hlen c1 c2 hit his hir hT hn c hP hG hd' hu fun h2 tk2 Dc Du cv uv kc ku p pv pt hp hic hiu F2 N2 => ?_
  obtain ⟨wB, hbad⟩ := burst_bad hn c hT hp
  refine law_test B F2 X N2 T c1 c2 hic hiu wB hbad hn hT.max hP hG hd' hu fun h3 tk3 g3 oP3 hP3 hG3 F3 N3 => ?_
  have N3' := drop_news (news := [(Ds, listOf sv.toArray ks), (45, oP3), (Dr, listOf rv.toArray kr), (L + 1 + 1, w1), (L + 1, w2)]) N3 (fun p hp => .tail _ (.tail _ hp))
  refine law_fac (chg := []) (cv := cv) (uv := uv) (kc := kc) (ku := ku) B F3 X N3' T hl hi hlen c1 c2 hoff his hir hn c hP3 hG3 hd' hu ?_ ?_
  · intro Q' h4 tk4 De ev fac p qv qt w3 hnx hf1 hf2 hp7 hie hw3 F4 N4
    obtain ⟨wG, hgood, hne⟩ := factor_good hn c hf1 hf2 hp7
    refine law_inner (co := co) B F4 X N4 T hw3 (NoF.cell c2) hie hir wG hgood hne hn hP3 hG3 hd' hu ?_
    intro s' m oP' Fm m1 m2 N5 hP5 hG5 hos
    exact hnx s' (law_end B Fm m1 m2 X N5 T his wO c.one hn hP5 hG5 hd' hu fun h6 tk6 m6 F6 e6 => hfin _ _ _ hos F6 e6 hP5 hG5)
  · intro h4 tk4 F4 N4
    exact law_end B F4 rfl rfl X (drop_news N4 (fun p hp => by
      rcases List.mem_cons.mp hp with e | hp
      · exact e ▸ .head _
      · rw [List.mem_singleton.mp hp]; exact .tail _ (.head _))) T his wO c.one hn hP3 hG3 hd' hu fun h6 tk6 m6 F6 e6 => hfin _ _ _ rfl F6 e6 hP3 hG3
end Mine
end

-- part MLaw
section
open PySem PySem.W PySem.Spec PySem.Calls PyProof.Rows
namespace Mine
theorem off1_mem {D : Addr} : ∀ {l : List (Addr × Obj)}, LCg.Off1 D l → ∀ p ∈ l, p.1 ≠ D
  | [], _, _, hp => nomatch hp
  | _ :: _, h, p, hp => by
    rcases List.mem_cons.mp hp with rfl | hp
    · exact h.1
    · exact off1_mem h.2 p hp
theorem wp_state {M : Model} {A : Around} {b : Sem Flow} {Q : Flow → Shared → Prop} {E : Value → Shared → Prop} {s : Shared} (h : ∀ s', s' = s → wpAny M A b Q E s') : wpAny M A b Q E s := h s rfl
section
local macro_rules | `(tactic| walk_at "tails") => `(tactic| repeat (first | assumption | refine List.Mem.tail _ ?_))
local macro_rules | `(tactic| walk_at "mem_sub") => `(tactic| (intro p hp; simp only [List.mem_cons, List.mem_append] at hp ⊢; grind))
local macro_rules | `(tactic| walk_at "pick") => `(tactic| first | exact Pick.here | exact Pick.there (Pick.here) | exact Pick.there (Pick.there (Pick.here)) | exact Pick.there (Pick.there (Pick.there (Pick.here))) | exact Pick.there (Pick.there (Pick.there (Pick.there (Pick.here)))) | exact Pick.there (Pick.there (Pick.there (Pick.there (Pick.there (Pick.here))))) | exact Pick.there (Pick.there (Pick.there (Pick.there (Pick.there (Pick.there (Pick.here)))))))
local macro_rules | `(tactic| walk_at "nofs") => `(tactic| repeat (first | exact NoFs.nil | refine NoFs.cons ?_ ?_ | exact NoF.list | exact NoF.tuple | assumption))
local macro_rules | `(tactic| walk_at "call ref") => `(tactic| (k_here; (with_reducible show wpAny _ _ (call (Value.ref 67) _) _ _ _); k_dflt (refine' name_call ?k1 ?k2 ?k3 ?k4 ?k5 ?kK ?kl ?ki ?kn ?kd ?ku ?_; (case k1 => k_asm); (case k2 => k_asm); (case k3 => k_asm); (case k4 => k_asm); (case k5 => k_asm); (case kK => first | exact rfl | assumption); (case kl => assumption); (case ki => assumption); (case kn => omega); (case kd => ktr_room); (case ku => ktr_units)); intro t9 h9 tk9 F9 N9; (rename (nameS _ = _) => hnm'); (rw [hnm']); (try dsimp only); (try k_fold)))
local macro_rules | `(tactic| walk_at "call ref") => `(tactic| first | (k_here; (with_reducible show wpAny _ _ (call (Value.ref 55) _) _ _ _); k_dflt (refine' at_call ?k1 ?k2 ?k3 ?k4 ?k5 ?kK ?kl ?ki ?kn ?kp ?kq ?kd ?ku ?_; (case k1 => k_asm); (case k2 => k_asm); (case k3 => k_asm); (case k4 => k_asm); (case k5 => k_asm); (case kK => first | exact rfl | assumption); (case kl => assumption); (case ki => assumption); (case kn => omega); (case kp => omega); (case kq => omega); (case kd => ktr_room); (case ku => ktr_units)); intro t9 h9 tk9 F9 N9; (try dsimp only); (try k_fold)) | ((with_reducible show wpAny _ _ (call (Value.ref 55) _) _ _ _); refine hold2 ?_))
local macro_rules | `(tactic| walk_at "call ref") => `(tactic| (k_here; (with_reducible show wpAny _ _ (call (Value.ref 43) _) _ _ _); k_dflt (refine' encode_law ?k1 ?k2 ?k3 ?k4 ?k5 ?kK ?kn ?kl ?ki ?km ?kd ?ku ?_; (case k1 => k_asm); (case k2 => k_asm); (case k3 => k_asm); (case k4 => k_asm); (case k5 => k_asm); (case kK => first | exact rfl | assumption); (case kn => assumption); (case kl => k_mem); (case ki => assumption); (case km => (rw [rangeKs_length]; omega)); (case kd => ktr_room); (case ku => ktr_units)); intro t9 h9 tk9 row9 co9 iR9 cO9 F9 N9; (try dsimp only); (try k_fold)))
local macro_rules | `(tactic| walk_at "call ref") => `(tactic| (k_here; (with_reducible show wpAny _ _ (call (Value.ref 48) _) _ _ _); (rename CodeOk _ _ _ => cO'); k_dflt (refine' decode_ok ?k1 ?k2 ?k3 ?k4 ?k5 ?kK ?kp ?kq ?kP ?kG ?kn ?kb ?k6 ?km ?kx ?kv ?kd ?ku ?_; (case k1 => k_asm); (case k2 => k_asm); (case k3 => k_asm); (case k4 => k_asm); (case k5 => k_asm); (case kK => first | exact rfl | assumption); (case kp => walk_at "pick"); (case kq => walk_at "nofs"); (case kP => assumption); (case kG => assumption); (case kn => assumption); (case kb => exact cO'.bnd); (case k6 => (have := cO'.len; omega)); (case km => (have := cO'.len; have := cO'.max; omega)); (case kx => first | exact .inl rfl | exact .inr rfl); (case kv => exact cO'.one); (case kd => ktr_room); (case ku => ktr_units)); intro T9 D9 ws9 t9 n9 h9 tk9 g9 oP9 iW9 hP9 hG9 F9 N9; (rw [cO'.head] at iW9); (try dsimp only); (try k_fold)))
local macro_rules | `(tactic| walk_at "compareOp NotEq ref ref") => `(tactic| first | (k_here; k_dflt (refine' cmp_pair ?c1 ?c2 ?c3 ?c4 ?c5 ?c6 ?c7 ?c8 ?_; (case c1 => k_asm); (case c2 => k_mem); (case c3 => k_mem); (case c4 => k_mem); (case c5 => k_mem); (case c6 => assumption); (case c7 => assumption); (case c8 => first | ktr_units | (dsimp only [ktrTop]; omega)); (try dsimp only); (try k_fold))) | refine hold2 ?_)
local macro_rules | `(tactic| walk_at "call builtin:str.upper") => `(tactic| (k_here; (try dsimp only); (rename NameOk _ => nO'); (rename CodeOk _ _ _ => cO'); (have mz' := madeX_size nO' cO'); (refine SC.upper (fit_upper (by simp only [Str.length]; omega)) ?_); (try dsimp only)))
local macro_rules | `(tactic| walk_at "exec Assign cons ListComp") => `(tactic| (k_here; k_dflt (refine Assign_ListComp_T (by k_asm) (by rfl) (by with_unfolding_all rfl) (by with_unfolding_all rfl) (by decide) (by rfl) (by decide) (by rfl) (by rfl) (by rfl) ?_); (with_reducible show wpAny _ _ (eval (Expr.Subscript _ _ _) _) _ _ _)))
local macro_rules | `(tactic| walk_at "TextSrc") => `(tactic| (k_here; (rename NameOk _ => nO'); (rename CodeOk _ _ _ => cO'); (rw [slice_made nO' cO']); k_dflt (refine' TextSrc.ints unsign (by rfl) (by k_asm) (by k_asm) (by rw [PySem.sizeLine_eq, signsS_size]; (have := cO'.max26); omega) (fun c' u' I' oI' C' oC' D' m' ys' h' tk' E' hc' hC' hx' F' N' off' ne' => ?_) ?_); kcf_last))
local macro_rules | `(tactic| walk_at "CompEnd") => `(tactic| ((refine LCg.CompEnd.intro (by assumption) (by assumption) _ ?sub (by assumption) trivial (EltIs.int ?val)); (case sub => walk_at "mem_sub"); (case val => exact rfl)))
local macro_rules | `(tactic| walk_at "Hold") => `(tactic| ((refine id (α := ∀ (_ : Heap), _) ?_); (rename NameOk _ => nO'); (rename CodeOk _ _ _ => cO'); intro gh ys' hys' D' h' tk' F' N' o1'; (try rw [signs_back nO' cO'] at hys')))
local macro_rules | `(tactic| walk_at "execs cons") => `(tactic| ((with_reducible show wpAny _ _ (execs (Stmt.Assign [Expr.Name (Str.ofString "turns") _] (Expr.ListComp _ _ _ _) _ :: _) _) _ _ _); refine hold2 ?_))
set_option maxRecDepth 100000 in
set_option maxHeartbeats 1200000 in
theorem law_holds : PySem.Challenge.rw_bg0021_01.Holds := hd (by
  w_top off
  k_fill
  intro w s₀ s₁ mg mb G Y fa o pm cd doc dV kV ho hd hcd hD hmg hg args vals as hpre hlay hrd hwl hlo
  have KX := kIn_of Y
  refine Ground.open G ?_
  intro T B D TE TW
  try (refine guard_noD D (by decide +kernel) ?_; clear D)
  obtain ⟨_, _, he, B0⟩ := based_of_top T rfl hmg ho hd
  have he' : cd = _ := he
  subst he'
  clear he B0 B TE TW
  wrow_args hpre hlay hrd hwl hlo
  refine enter_call ?_
  w_call any ho hd hcd hD T F
  have ht : s₁.heap.TableAt 47 45 #[] := places_at T (x := "bech32_decode") (by decide +kernel) (mg_of KX T.g (by k_is)) (KX 48 _ rfl) rfl rfl (KX 47 _ rfl) rfl rfl
  refine wpAny_mono (Q := fun f s' => f = .ret (.bool true) ∧ s'.os = s₁.os ∧ OldK s₁.heap s'.heap ∧ AllBare s'.gens) (E := fun _ _ => False) ?_ (fun f s' hq => ?_) (fun _ _ e => e.elim)
  case refine_2 =>
    obtain ⟨rfl, h1, h2, h3⟩ := hq
    refine ⟨.inl ⟨.bool true, .bool true, [], rfl, raisesW_false (by wrow_none_raised), .bool true, ?_, unshared_nil⟩, h2, h1, h3⟩
    wrow_post
  clear hd hcd hD
  rename (News s₁.heap _ _ _) => N
  rename (s₁.heap.IsList _ _) => hl
  rename (IntsAre _ _) => hi
  rename (¬ _ < _) => hlen
  rename (_ = Data.cell (bindC _ _ _ (Str.ofString "factor"))) => cf
  rename (_ = Data.cell (bindC _ _ _ (Str.ofString "script"))) => cs
  obtain ⟨h₀, eh₀⟩ : ∃ h₀, s₁.heap.hide 45 = h₀ := ⟨_, rfl⟩
  have hl' : h₀.IsList _ _ := eh₀ ▸ base_list (k := 45) hl (fun e => by
    obtain ⟨o', q1', q2', _⟩ := hl
    rw [e] at q1'
    cases q1'.symm.trans ht.2
    cases q2')
  have B1 : Below callerA h₀ [] h₀ := below_caller h₀
  have F1 : Fr h₀ s₁.heap.objs.size _ (fun _ => none) := eh₀ ▸ base_fr (k := 45) F
  have N1 : News h₀ s₁.heap.objs.size _ ((45, { cls := .none, data := .fields #[] }) :: [_, _]) := eh₀ ▸ base_news (k := 45) F N ht.2
  have X1 : (hd.heap_39 w.params).In h₀ := eh₀ ▸ base_in KX (by rfl)
  have T1 : Top lawP _ _ mg mb h₀ := eh₀ ▸ base_top T ht.2 rfl (by decide) (by decide) (by decide)
  have h45 : (45 : Nat) ≠ s₁.heap.objs.size + 1 + 1 := Nat.ne_of_lt (Nat.lt_trans (Nat.lt_trans (Heap.lt_size ht.2) (Nat.lt_succ_self _)) (Nat.lt_succ_self _))
  have hG : AllBare s₁.gens := AllBare.of_eq hg
  have hP : Places { cls := .none, data := .fields #[] } := ⟨#[], rfl, trivial⟩
  have nf1 : NoF _ := NoF.cell cf
  have nf2 : NoF _ := NoF.cell cs
  have hend : ∀ (s' : Shared) m oP, s'.os = s₁.os → Fr h₀ s₁.heap.objs.size s'.heap m → s'.heap.get? 45 = some oP → Places oP → AllBare s'.gens → s'.os = s₁.os ∧ OldK s₁.heap s'.heap ∧ AllBare s'.gens := fun s' m oP h1 h2 h3 h4 h5 => ⟨h1, oldK_of ht (eh₀ ▸ h2) h3 h4, h5⟩
  have c1 : _ = Data.cell none := cf
  have c2 : _ = Data.cell (some (.ref _)) := cs
  rename (CellsAre _ _ _) => hx1
  rename (ReadsAll _ _ _ _) => hx2
  rename (Reads _ _ _ _) => hx3
  rename (Well _ _ _ _) => hx4
  rename (ReadsAllW _ _ _ _ _ _) => hx5
  rename (Shape.has _ _ = _) => hx6
  clear F N hl KX T hg ht cf cs hx1 hx2 hx3 hx4 hx5 hx6 ho hmg G Y
  rename List Int => ns
  rename List Value => vs
  obtain ⟨rn, hrn, hrl⟩ : ∃ rn : Nat, (ns.getD (Int.toNat 3) 7).fmod 21 = (rn : Int) ∧ rn ≤ 20 := by
    have h0 : 0 ≤ (ns.getD (Int.toNat 3) 7).fmod 21 := Int.fmod_nonneg_of_pos _ (by decide)
    have h1 : (ns.getD (Int.toNat 3) 7).fmod 21 < 21 := Int.fmod_lt_of_pos _ (by decide)
    exact ⟨((ns.getD (Int.toNat 3) 7).fmod 21).toNat, by omega, by omega⟩
  obtain ⟨tn, htn, htl⟩ : ∃ tn : Nat, (ns.getD (Int.toNat 5) 5).fmod 6 = (tn : Int) ∧ tn ≤ 5 := by
    have h0 : 0 ≤ (ns.getD (Int.toNat 5) 5).fmod 6 := Int.fmod_nonneg_of_pos _ (by decide)
    have h1 : (ns.getD (Int.toNat 5) 5).fmod 6 < 6 := Int.fmod_lt_of_pos _ (by decide)
    exact ⟨((ns.getD (Int.toNat 5) 5).fmod 6).toNat, by omega, by omega⟩
  obtain ⟨nm, hnm⟩ : ∃ x, nameS ns = x := ⟨_, rfl⟩
  have hnO : NameOk nm := hnm ▸ nameOk ns
  have hnl : nm.length < 500 := by have := hnO.max; simp only [Str.length]; omega
  obtain ⟨dp, un, hd', hu', eA⟩ := law_around (Str.ofString "law") _ s₁.heap.objs.size fa _
  refine Eq.mpr (congrArg (fun A => wpAny _ A _ _ _ _) eA) ?_
  (try k_fold)
  k_steps
  rename_i gh ysS hysS DS hS tkS FS NS oS
  rename (CodeOk _ _ _) => cO
  rename (NameOk _) => nO
  rename (Places _) => hP9
  rename (AllBare _) => hG9
  rename (IntsAre ys _) => hir
  rename (_ ∧ s₁.heap.objs.size + 1 + 1 ≠ _ ∧ _) => hoR
  unfold Hold2
  have hlen' : ns.length ≤ 63 := by omega
  have hoS : DS ≠ s₁.heap.objs.size + 1 + 1 := Ne.symm (off1_mem oS (_, _) (by (repeat (first | exact List.Mem.head _ | refine List.Mem.tail _ ?_))))
  refine wp_state fun sX eX => ?_
  have eh : hS = sX.heap := by rw [eX]
  have eg : AllBare sX.gens := by rw [eX]; exact hG9
  have eo : sX.os = s₁.os := by rw [eX]
  clear eX
  subst eh
  have NS' := drop_news (news := [(DS, listOf ysS.toArray ysS.length), (45, _), (_, listOf ys.toArray ys.length), (s₁.heap.objs.size + 1 + 1, _), (s₁.heap.objs.size + 1, _)]) NS (fun p hp => by
    simp only [List.mem_cons, List.not_mem_nil, or_false] at hp
    rcases hp with rfl | rfl | rfl | rfl | rfl
    · exact .head _
    · (repeat (first | exact List.Mem.head _ | refine List.Mem.tail _ ?_))
    · (repeat (first | exact List.Mem.head _ | refine List.Mem.tail _ ?_))
    · (repeat (first | exact List.Mem.head _ | refine List.Mem.tail _ ?_))
    · (repeat (first | exact List.Mem.head _ | refine List.Mem.tail _ ?_)))
  have key := fun ccd => law_rest (ccd := ccd) (s := sX) (Q := fun f s' => f = .ret (.bool true) ∧ s'.os = s₁.os ∧ OldK s₁.heap s'.heap ∧ AllBare s'.gens) (E := fun _ _ => False) (sv := ysS) (rv := ys) (ks := ysS.length) (kr := ys.length) (fa := fa) B1 FS X1 NS' T1 hl' hi hlen' c1 c2 ⟨hoS, hoR.2.1.symm, h45⟩ hysS hir nO cO hP9 eg hd' hu' (fun s' m oP h1 h2 h3 h4 h5 => ⟨rfl, hend s' m oP (h1.trans eo) h2 h3 h4 h5⟩)
  unfold lawBody lawScope lawDef at key
  dsimp only [PySem.Challenge.pw_bg0021_01, List.getLast?, List.getLast, List.drop] at key
  exact key _)
end
end Mine
end

theorem PySem.Challenge.cw_bg0021_01_holds : PySem.Challenge.rw_bg0021_01.Holds :=
  Mine.law_holds
