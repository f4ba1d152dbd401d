import PyProof.Rows.All
import Wide.All
import OpenK.AllK
import Wide.FinOn
import PySem.Challenge.RW_fh0024_01
open PySem PySem.W PyProof.Rows
set_option Elab.async false
set_option maxRecDepth 100000
set_option maxHeartbeats 8000000
/- part 0 -/
namespace Mine
open PySem PySem.W PyProof.Rows
open_top Hd for PySem.Challenge.rw_fh0024_01
end Mine

/- part 1 -/
namespace Mine
open PySem PySem.W PySem.Spec PySem.Calls PyProof.Rows
theorem begins1 : True := by
  w_top off
  exact trivial
abbrev PG := PySem.Challenge.pw_fh0024_01

section
variable {prog : Program} {w : World} {A : Around} {E : Value → Shared → Prop} {s : Shared} {h₀ : Heap} {L D : Addr} {m : Str → Option Value} {news news' : List (Addr × Obj)} {vs : List Value} {n : Nat} {k : Int} {t : Tok} {v : Value}
theorem my_set {Q : Unit → Shared → Prop} (F : Fr h₀ L s.heap m) (N : News h₀ L s.heap news) (U : Upd D (listOf vs.toArray n) (listOf (vs.set k.toNat v).toArray n) news news') (h0 : 0 ≤ k) (h1 : k < vs.length) (hfit : k < 2 ^ 63)
    (h : ∀ h', Fr h₀ L h' m → News h₀ L h' news' → Q () { s with heap := h' }) :
    wpAny (model prog w) A (setItem (.ref D) (.int k t) v) Q E s := by
  obtain ⟨pre, post, rfl, rfl, a, b⟩ := U.split
  have z := N (D, listOf vs.toArray n) (List.mem_append.mpr (.inr (.head _)))
  have hs : vs.toArray.size = vs.length := List.size_toArray
  refine ki_setAt z.1 h0 hfit (by omega) (h _ (F.change (Heap.SameBut.update ..) z.2.1 z.2.2) (ki_turn _ N a b ?_ ?_))
  · show vs.toArray.setIfInBounds k.toNat v = (vs.set k.toNat v).toArray
    apply Array.toList_inj.mp
    simp
  · simp
end
section
local macro_rules | `(tactic| k_all) => `(tactic| first | assumption | (refine' List.forall_mem_cons.mpr ⟨?a, ?b⟩; (case a => first | assumption | exact Ne.symm (by assumption)); (case b => assumption)))
local macro_rules | `(tactic| walk_at "setItem ref int") => `(tactic| (k_here; (with_reducible show wpAny _ _ (setItem (Value.ref _) (Value.int _ _) _) _ _ _); k_dflt (refine' my_set ?k1 ?k2 ?k3 ?k4 ?k5 ?k6 ?_; (case k1 => k_asm); (case k2 => k_asm); (case k3 => k_upd); (case k4 => decide); (case k5 => decide); (case k6 => decide); k_whole); intro h' F' N'; (try simp only [Int.toNat_one, Int.toNat_ofNat, Int.reduceToNat, List.set_cons_succ, List.set_cons_zero] at N'); (try k_sweep)))

theorem next_spec {w : World} {p : Program} {loose : List Str} {mean : ExcName → Option Value} {mg mb : Str → Option Value}
    {dp un : Nat} {gd : Option (List Code)} {cn : Str} {cs : Scope} {a : Addr} {ccd : Value} {cl : List (Str × Addr)} {outer : List Env} {A₀ : Around} {base h₀ : Heap} {L : Addr} {m : Str → Option Value} {s : Shared} {Q E : Value → Shared → Prop}
    {sa sl : Addr} {vs : List Value} {ns : List Int} {i x many : Int} {t1 t2 tm : Tok} {n n2 : Nat} {news : List (Addr × Obj)}
    (B : Below A₀ base outer h₀) (F : Fr h₀ L s.heap m) (X : (Hd.heap_39 w.params).In h₀) (N : News h₀ L s.heap ((sa, listOf #[.ref sl, .int i t1, .int x t2] n) :: (sl, listOf vs.toArray n2) :: news))
    (T : Top p loose mean mg mb h₀) (hk : cs.kind = .function)  (hI : IntsAre vs ns) (hlen : ns.length ≤ 64) (hi0 : 0 ≤ i) (hi1 : i ≤ ns.length)
    (hx0 : 0 ≤ x) (hx1 : x < 2147483647) (hm0 : 0 < many) (hm1 : many ≤ 64) (hne : ∀ q ∈ news, q.1 ≠ sa) (hne2 : sl ≠ sa)
    (hd : dp + 1 < recursionLimit) (hu : un + 8 < cLine)
    (ret : ∀ (r j y : Int) (t t1' t2' : Tok) h' tk', Fr h₀ L h' m → News h₀ L h' ((sa, listOf #[.ref sl, .int j t1', .int y t2'] n) :: (sl, listOf vs.toArray n2) :: news) → 0 ≤ j → j ≤ ns.length → 0 ≤ y → y < 2147483647 → 0 ≤ r → r < many → Q (.int r t) { s with heap := h', toks := tk' })
    (hpin : PySem.Challenge.rw_fh0024_01 = PySem.Challenge.rw_fh0024_01 ∧ Hd.heap_39 = Hd.heap_39) :
    wpAny (model PG w) (ktrTop dp un gd cn cs L a ccd cl outer) (call (.ref 51) [.ref sa, .int many tm]) Q E s := by
  revert hpin
  k_fill
  intro _
  refine wpAny_call ?_
  k_dflt ktr_enter
  k_steps
  · rename_i kF kN _ _
    exact ret _ _ _ _ _ _ _ _ kF kN (by omega) (by omega) (Int.fmod_nonneg_of_pos _ (by decide)) (Int.fmod_lt_of_pos _ (by decide)) (Int.fmod_nonneg_of_pos _ hm0) (Int.fmod_lt_of_pos _ hm0)
  · rename_i kF kN _ _
    exact ret _ _ _ _ _ _ _ _ kF kN (by omega) (by omega) (Int.fmod_nonneg_of_pos _ (by decide)) (Int.fmod_lt_of_pos _ (by decide)) (Int.fmod_nonneg_of_pos _ hm0) (Int.fmod_lt_of_pos _ hm0)
end
end Mine

/- part 2 -/
namespace Mine
open PySem PySem.W PySem.Spec PySem.Calls PyProof.Rows
theorem begins2 : True := by
  w_top off
  exact trivial

def wfb : List Nat → Bool
  | [] => true
  | [c] => c != 92
  | c :: d :: r => if c = 92 then wfb r else wfb (d :: r)

def Stop (P : Prop) : Prop := P
theorem Stop.of {P : Prop} (h : Stop P) : P := h
theorem Stop.mk {P : Prop} (h : P) : Stop P := h

abbrev Led := List (Addr × Obj)
def XEnd (h₀ : Heap) (L : Addr) (J : (Str → Option Value) → Led → Prop) (own : Led) (wr : List Addr) (s₁ s₂ : Shared) : Prop :=
  ∃ h' tk m' news', s₂ = { s₁ with heap := h', toks := tk } ∧ Fr h₀ L h' m' ∧ News h₀ L h' (news' ++ own) ∧ (∀ p ∈ news', p.1 ∉ wr) ∧ J m' news'
def XPost (h₀ : Heap) (L : Addr) (J : (Str → Option Value) → Led → Prop) (own : Led) (wr : List Addr) (s₁ : Shared) (Q : Flow → Shared → Prop) (f : Flow) (s₂ : Shared) : Prop :=
  match f with
  | .ret v => Q (.ret v) s₂
  | .brk => Q .next s₂
  | _ => XEnd h₀ L J own wr s₁ s₂

theorem swapApp {a b : Led} {p : Addr × Obj} (h : p ∈ a ++ b) : p ∈ b ++ a := (List.mem_append.mp h).elim (fun h => List.mem_append.mpr (.inr h)) fun h => List.mem_append.mpr (.inl h)

theorem frPut {h₀ h : Heap} {L : Addr} {m : Str → Option Value} {x : Str} {v : Value} (F : Fr h₀ L h m) (e : m x = some v) : Fr h₀ L h (fun y => if y = x then some v else m y) := by
  have q : (fun y => if y = x then some v else m y) = m := by
    funext y
    by_cases hy : y = x
    · rw [if_pos hy, hy, e]
    · rw [if_neg hy]
  rw [q]; exact F

section
variable {prog : Program} {w : World} {A : Around} {E : Value → Shared → Prop} {s : Shared} {env : Env} {h₀ : Heap} {x : Str} {body : List Stmt} {Q : Flow → Shared → Prop}

theorem loopJ {I : Addr} {fp wr : List Addr} {n : Nat} {P : Nat → Value → Prop} {St : Nat → Heap → Prop} {m₀ : Str → Option Value} {news : Led} (J : Nat → (Str → Option Value) → Led → Prop)
    (W : Walks prog w A I fp wr n P St) (hLf : env.locals ∉ fp) (hwr : ∀ b ∈ wr, h₀.get? b = none) (hnw : ∀ p ∈ news, p.1 ∉ wr) (hst : St 0 s.heap) (F : Fr h₀ env.locals s.heap m₀) (N : News h₀ env.locals s.heap news) (hj : J 0 m₀ news)
    (turn : ∀ i v m₁ news₁ h tk own, i < n → P i v → J i m₁ news₁ → (∀ p ∈ news₁, p.1 ∉ wr) → (∀ p ∈ own, p.1 ∈ fp) → Fr h₀ env.locals h (fun y => if y = x then some v else m₁ y) → News h₀ env.locals h (news₁ ++ own) →
      wpAny (model prog w) A (execs body env) (XPost h₀ env.locals (J (i + 1)) own wr { s with heap := h, toks := tk } Q) E { s with heap := h, toks := tk })
    (done : ∀ m₁ news₁ h tk, J n m₁ news₁ → Fr h₀ env.locals h m₁ → News h₀ env.locals h news₁ → Q .next { s with heap := h, toks := tk }) :
    LoopAtV prog w A h₀ env x body Q E (.ref I) s := by
  refine ⟨I, fp, wr, n, P, St, m₀, news, J, rfl, W, hLf, hwr, hnw, hst, F, N, hj, ?_, fun h' tk m' news' F' N' _ hJ => done m' news' h' tk hJ F' N'⟩
  rintro i v m₁ news₁ s₁ own ⟨hh', tk', rfl⟩ hin hP hJ hoff hown _ _ _ F₁ N₁
  refine wpAny_mono (turn i v m₁ news₁ hh' tk' own hin hP hJ hoff hown F₁ fun p hp => N₁ p (swapApp hp)) (fun f s₂ p => ?_) fun _ _ e => e
  have fin : XEnd h₀ env.locals (J (i + 1)) own wr { s with heap := hh', toks := tk' } s₂ → LoopStepU h₀ env.locals wr own (J (i + 1)) { s with heap := hh', toks := tk' } .next s₂ := by
    rintro ⟨h', tk, m', news', e, F', N', ho, hm⟩
    exact ⟨rfl, h', tk, m', news', e, F', fun p hp => N' p (swapApp hp), ho, hm⟩
  cases f with
  | ret v => exact .ret p
  | brk => exact .brk p
  | next => exact .next (fin p)
  | cont => exact .cont (fin p)

theorem iterRange {r L : Addr} {b₀ : Int} {t₀ u₀ v₀ : Tok} {n : Nat} {m₀ : Str → Option Value} {news : Led} (J : Nat → (Str → Option Value) → Led → Prop)
    (hL : env.locals = L) (hh : A.handled = none) (hr : IsRange s.heap r 0 b₀ 1 t₀ u₀ v₀) (hb : b₀ = (n : Int)) (hn : n ≤ 1000) (F : Fr h₀ L s.heap m₀) (N : News h₀ L s.heap news) (hj : J 0 m₀ news)
    (turn : ∀ i t m₁ news₁ h tk own I, i < n → J i m₁ news₁ → (∀ p ∈ news, p.1 ≠ I) → (∀ p ∈ news₁, p.1 ≠ I) → (∀ p ∈ own, p.1 = I) → Fr h₀ L h (fun y => if y = x then some (.int (i : Int) t) else m₁ y) → News h₀ L h (news₁ ++ own) →
      wpAny (model prog w) A (execs body env) (XPost h₀ L (J (i + 1)) own [I] { s with heap := h, toks := tk } Q) E { s with heap := h, toks := tk })
    (done : ∀ m₁ news₁ h tk, J n m₁ news₁ → Fr h₀ L h m₁ → News h₀ L h news₁ → Q .next { s with heap := h, toks := tk }) :
    wpAny (model prog w) A (pyIter (.ref r)) (fun it s₂ => LoopAtV prog w A h₀ env x body Q E it s₂) E s := by
  subst hb hL
  have hsz : Builtin.Range.rangeSize 0 (n : Int) 1 = (n : Int) := by rw [rangeSize_one]; split <;> omega
  refine wpAny_pyIter_range hr (small_one (by decide) (by decide) (by omega) (by omega)) ?_
  have hfr : ∀ p ∈ news, p.1 ≠ s.heap.objs.size := fun p hp => Nat.ne_of_lt (Heap.lt_size (N p hp).1)
  refine loopJ J (Walks.range hh _ 0 1 n).bound ?_ ?_ ?_ (by show IsRangeIter _ _ _ _ _; rw [hsz]; simpa using Heap.get?_push_size _ rfl) (F.push _) (fun p hp => ⟨Heap.get?_push_of_some _ (N p hp).1, (N p hp).2⟩) hj ?_ ?_
  · intro hm
    exact absurd F.ns.lt ((List.mem_singleton.mp hm) ▸ Nat.lt_irrefl _)
  · intro b hb
    rw [List.mem_singleton.mp hb]
    exact next_is_new F
  · intro p hp hI
    exact hfr p hp (List.mem_singleton.mp hI)
  · rintro i v m₁ news₁ h tk own hi ⟨_, t, rfl⟩ hJ hoff hown F₁ N₁
    have e1 : (0 : Int) + (i : Int) * 1 = (i : Int) := by omega
    rw [e1] at F₁
    exact turn i t m₁ news₁ h tk own _ hi hJ hfr (fun p hp e => hoff p hp (List.mem_singleton.mpr e)) (fun p hp => List.mem_singleton.mp (hown p hp)) F₁ N₁
  · exact done
end

section
variable {prog : Program} {w : World} {A : Around} {E : Value → Shared → Prop} {s : Shared} {h₀ : Heap} {L : Addr} {news : Led}
theorem item_strs {value slice : PySem.Expr} {l : Addr} {vs : List Value} {n : Nat} {k : Int} {u : Tok} {Q : Value → Shared → Prop} (P : Str → Prop) (N : News h₀ L s.heap news) (hm : (l, listOf vs.toArray n) ∈ news) (h0 : 0 ≤ k) (h1 : k < vs.length) (h2 : vs.length ≤ 64)
    (hall : ∀ v ∈ vs, ∃ x t, v = .str x t ∧ P x) (h : ∀ x t, P x → Q (.str x t) s)
    (hs : subscripted slice false (.ref l) (.int k u) = operate [.ref l, .int k u] (getItem (.ref l) (.int k u)) := by with_unfolding_all rfl) :
    wpAny (model prog w) A (subscriptTail value slice (.ref l) (.int k u)) Q E s := by
  have hk : k.toNat < vs.length := by omega
  obtain ⟨x, t, e, hp⟩ := hall _ (List.getElem_mem hk)
  refine item_litK (vs := vs) (PySem.IsL.isList (n := n) (N _ hm).1) h0 (by omega) (List.getElem?_eq_getElem hk) ?_ hs
  rw [e]
  exact h x t hp
end

theorem wfb_snoc2 (c : Nat) : ∀ (l : List Nat), wfb l = true → wfb (l ++ [92, c]) = true
  | [], _ => by simp [wfb]
  | [d], h => by
    have hd : d ≠ 92 := by simpa [wfb] using h
    simp [wfb, hd]
  | d :: e :: r, h => by
    simp only [List.cons_append, wfb] at h ⊢
    split
    · rename_i q; rw [if_pos q] at h; exact wfb_snoc2 c r h
    · rename_i q; rw [if_neg q] at h; exact wfb_snoc2 c (e :: r) h
theorem wfb_snoc1 (c : Nat) (hc : c ≠ 92) : ∀ (l : List Nat), wfb l = true → wfb (l ++ [c]) = true
  | [], _ => by simp [wfb, hc]
  | [d], h => by
    have hd : d ≠ 92 := by simpa [wfb] using h
    simp [wfb, hd, hc]
  | d :: e :: r, h => by
    simp only [List.cons_append, wfb] at h ⊢
    split
    · rename_i q; rw [if_pos q] at h; exact wfb_snoc1 c hc r h
    · rename_i q; rw [if_neg q] at h; exact wfb_snoc1 c hc (e :: r) h

theorem wfS2 {b x : Str} (hx : x.length = 1) (hb : wfb b.cps.toList = true) : wfb (b ++ Str.ofString "\\" ++ x).cps.toList = true := by
  obtain ⟨⟨l⟩⟩ := x
  match l, hx with
  | [c], _ =>
    have e : (b ++ Str.ofString "\\" ++ (⟨⟨[c]⟩⟩ : Str)).cps.toList = b.cps.toList ++ [92, c] := by
      rw [Str.cps_append, Str.cps_append, Array.toList_append, Array.toList_append, List.append_assoc]
      rfl
    rw [e]
    exact wfb_snoc2 c _ hb
theorem wfS1 {b x : Str} (hx : ∃ c, c ≠ 92 ∧ x.cps = #[c]) (hb : wfb b.cps.toList = true) : wfb (b ++ x).cps.toList = true := by
  obtain ⟨c, hc, e⟩ := hx
  rw [Str.cps_append, Array.toList_append, e]
  exact wfb_snoc1 c hc _ hb

theorem xend1 {g h : Heap} {L I sa : Addr} {m : Str → Option Value} {J : (Str → Option Value) → Led → Prop} {own rest tail : Led} {o : Obj} {s₁ : Shared} {Q : Flow → Shared → Prop} {tk : Nat}
    (F : Fr g L h m) (N : News g L h ((sa, o) :: rest)) (hs : ∀ p ∈ tail ++ own, p ∈ (sa, o) :: rest) (h1 : sa ≠ I) (h2 : ∀ p ∈ tail, p.1 ≠ I) (hJ : J m ((sa, o) :: tail)) :
    XPost g L J own [I] s₁ Q .next { s₁ with heap := h, toks := tk } := by
  refine ⟨h, tk, m, (sa, o) :: tail, rfl, F, fun p hp => N p ?_, fun p hp he => ?_, hJ⟩
  · rcases List.mem_cons.mp hp with hp | hp
    · exact hp ▸ .head _
    · exact hs p hp
  · have he := List.mem_singleton.mp he
    rcases List.mem_cons.mp hp with hp | hp
    · exact h1 (by rw [hp] at he; exact he)
    · exact h2 p hp he

theorem xendG {g h : Heap} {L I : Addr} {m : Str → Option Value} {J : (Str → Option Value) → Led → Prop} {own led news' : Led} {s₁ : Shared} {Q : Flow → Shared → Prop} {tk : Nat}
    (F : Fr g L h m) (N : News g L h led) (hs : ∀ p ∈ news' ++ own, p ∈ led) (h2 : ∀ p ∈ news', p.1 ≠ I) (hJ : J m news') :
    XPost g L J own [I] s₁ Q .next { s₁ with heap := h, toks := tk } :=
  ⟨h, tk, m, news', rfl, F, fun p hp => N p (hs p hp), fun p hp he => h2 p hp (List.mem_singleton.mp he), hJ⟩
end Mine

/- part 3 -/
namespace Mine
open PySem PySem.W PySem.Spec PySem.Calls PyProof.Rows
theorem begins3 : True := by
  w_top off
  exact trivial
/-- each backslash has a sign behind it, and every sign is a real one -/
abbrev Wf (b : Str) : Prop := wfb b.cps.toList = true ∧ ∀ c ∈ b.cps.toList, c < 1114112
theorem item_lt {y : Str} {i : Int} {B : Nat} (hB : 0 < B) (h : ∀ c ∈ y.cps.toList, c < B) : ∀ c ∈ (Txt.item y i).cps.toList, c < B := by
  intro c hc
  have e : c = (Txt.charAt y i).getD 0 := by simpa [Txt.item] using hc
  cases hq : Txt.charAt y i with
  | none => rw [e, hq]; exact hB
  | some d =>
    rw [e, hq]
    refine h d ?_
    unfold Txt.charAt at hq
    obtain ⟨k, _, h2⟩ := Option.bind_eq_some_iff.mp hq
    exact Array.mem_toList_iff.mpr (Array.mem_of_getElem? h2)
theorem cpsApp {a b : Str} {B : Nat} (ha : ∀ c ∈ a.cps.toList, c < B) (hb : ∀ c ∈ b.cps.toList, c < B) : ∀ c ∈ (a ++ b).cps.toList, c < B := by
  intro c hc
  rw [Str.cps_append, Array.toList_append] at hc
  exact (List.mem_append.mp hc).elim (ha c) (hb c)
theorem wfS2a {b x : Str} (hx : x.length = 1) (ha : ∀ c ∈ x.cps.toList, c < 1114112) (hb : Wf b) : Wf (b ++ Str.ofString "\\" ++ x) :=
  ⟨wfS2 hx hb.1, cpsApp (cpsApp hb.2 (by decide)) ha⟩
theorem wfS1a {b x : Str} (hx : ∃ c, (c ≠ 92 ∧ c < 1114112) ∧ x.cps = #[c]) (hb : Wf b) : Wf (b ++ x) := by
  obtain ⟨c, hc, e⟩ := hx
  exact ⟨wfS1 ⟨c, hc.1, e⟩ hb.1, cpsApp hb.2 (by rw [e]; intro d hd; simp at hd; rw [hd]; exact hc.2)⟩
section
theorem rot1 {h₀ h : Heap} {L : Addr} {e a b : Addr × Obj} {r : Led} (N : News h₀ L h (e :: a :: b :: r)) : News h₀ L h (a :: b :: e :: r) := fun p hp => N p (by
  simp only [List.mem_cons] at hp ⊢
  rcases hp with h | h | h | h <;> simp [h])
local macro_rules | `(tactic| k_all) => `(tactic| first | assumption | (refine' List.forall_mem_cons.mpr ⟨?a, ?b⟩; (case a => first | assumption | exact Ne.symm (by assumption)); (case b => assumption)))
local macro_rules | `(tactic| walk_at "exec For Name Call cons nil") => `(tactic| refine Stop.of ?_)
local macro_rules | `(tactic| walk_at "call ref") => `(tactic| ((with_reducible show wpAny _ _ (call (Value.ref 51) [Value.ref _, Value.int _ _]) _ _ _); (rename Fr _ _ _ _ => F1); (rename News _ _ _ _ => N1); (rename Below _ _ _ _ => B1); (rename Frag.In _ _ => X1); (rename Top _ _ _ _ _ _ => T1); (first | (with_unfolding_all refine' next_spec B1 F1 X1 N1 T1 rfl ?hI ?hlen ?i0 ?i1 ?x0 ?x1 ?m0 ?m1 ?hne ?hne2 ?dd ?uu ?_ ⟨rfl, rfl⟩) | (with_unfolding_all refine' next_spec B1 F1 X1 (rot1 N1) T1 rfl ?hI ?hlen ?i0 ?i1 ?x0 ?x1 ?m0 ?m1 ?hne ?hne2 ?dd ?uu ?_ ⟨rfl, rfl⟩)); (case hI => assumption); (case hlen => omega); (case i0 => omega); (case i1 => omega); (case x0 => omega); (case x1 => omega); (case m0 => omega); (case m1 => omega); (case hne => k_all); (case hne2 => assumption); (case dd => ktr_room); (case uu => ktr_units); clear F1 N1; intro r' j' y' t' t1' t2' h' tk' F' N' j0' j1' y0' y1' r0' r1'; (try dsimp only)))
local macro_rules | `(tactic| walk_at "pyIter ref") => `(tactic| ((with_reducible show wpAny _ _ (pyIter (Value.ref _)) (fun it s₂ => LoopAtV _ _ _ _ _ _ _ _ _ it s₂) _ _); refine Stop.of ?_))

local macro_rules | `(tactic| walk_at "subscriptTail") => `(tactic| ((with_reducible show wpAny _ _ (subscriptTail _ _ (Value.ref _) (Value.int _ _)) _ _ _); (rename News _ _ _ _ => N1); k_dflt (refine' item_strs (fun x => x.length = 1 ∧ ∃ c, (c ≠ 92 ∧ c < 1114112) ∧ x.cps = #[c]) N1 ?k1 ?k2 ?k3 ?k4 ?k5 ?k6 ?k7; (case k1 => k_mem); (case k2 => omega); (case k3 => simp only [List.length_cons, List.length_nil]; omega); (case k4 => exact Nat.le_of_ble_eq_true rfl); (case k5 => (intro v hv; simp only [List.mem_cons, List.not_mem_nil, or_false] at hv; rcases hv with h | h | h | h | h | h <;> subst h <;> exact ⟨_, _, rfl, by decide, _, by decide, rfl⟩)); (case k7 => with_unfolding_all rfl)); intro x' t' hx'; obtain ⟨hx1', hx2'⟩ := hx'; (try dsimp only)))

theorem body_spec {w : World} {p : Program} {loose : List Str} {mean : ExcName → Option Value} {mg mb : Str → Option Value}
    {dp un : Nat} {gd : Option (List Code)} {cn : Str} {cs : Scope} {a : Addr} {ccd : Value} {cl : List (Str × Addr)} {outer : List Env} {A₀ : Around} {base h₀ : Heap} {L : Addr} {m : Str → Option Value} {s : Shared} {Q E : Value → Shared → Prop}
    {sa sl : Addr} {vs : List Value} {ns : List Int} {i x : Int} {q : Str} {t1 t2 tq : Tok} {n n2 : Nat} {news : List (Addr × Obj)}
    (B : Below A₀ base outer h₀) (F : Fr h₀ L s.heap m) (X : (Hd.heap_39 w.params).In h₀) (N : News h₀ L s.heap ((sa, listOf #[.ref sl, .int i t1, .int x t2] n) :: (sl, listOf vs.toArray n2) :: news))
    (T : Top p loose mean mg mb h₀) (hk : cs.kind = .function) (hI : IntsAre vs ns) (hlen : ns.length ≤ 64) (hi0 : 0 ≤ i) (hi1 : i ≤ ns.length)
    (hx0 : 0 ≤ x) (hx1 : x < 2147483647) (hq : q.length ≤ 3) (hne : ∀ q ∈ news, q.1 ≠ sa) (hne2 : sl ≠ sa)
    (hd : dp + 2 < recursionLimit) (hu : un + 16 < cLine)
    (ret : ∀ (b : Str) (j y : Int) (t t1' t2' : Tok) h' tk', Fr h₀ L h' m → News h₀ L h' ((sa, listOf #[.ref sl, .int j t1', .int y t2'] n) :: (sl, listOf vs.toArray n2) :: news) → 0 ≤ j → j ≤ ns.length → 0 ≤ y → y < 2147483647 → b.length ≤ 16 → Wf b → Q (.str b t) { s with heap := h', toks := tk' })
    (hpin : PySem.Challenge.rw_fh0024_01 = PySem.Challenge.rw_fh0024_01 ∧ Hd.heap_39 = Hd.heap_39) :
    wpAny (model PG w) (ktrTop dp un gd cn cs L a ccd cl outer) (call (.ref 58) [.ref sa, .str q tq]) Q E s := by
  revert hpin
  k_fill
  intro _
  refine wpAny_call ?_
  k_dflt ktr_enter
  k_steps
  refine Stop.mk ?_
  rename Fr _ _ _ _ => F1
  with_unfolding_all refine' For_invVF F1 ?k1 ?k2 ?_
  case k1 => exact rfl
  case k2 => exact rfl
  k_steps
  refine Stop.mk ?_
  rename IsRange _ _ _ _ _ _ _ _ => hR1
  rename Fr _ _ _ _ => F1
  rename News _ _ _ _ => N1
  rename_i r₁ j₁ y₁ _ _ _ _ _ _ _ hj0 hj1 hy0 hy1 hr0 hr1 _ _ _ _ _ _
  obtain ⟨rn, rfl⟩ := Int.eq_ofNat_of_zero_le hr0
  with_unfolding_all refine' iterRange (fun k m l => ∃ (b : Str) (t : Tok) (j y : Int) (t1 t2 : Tok), m (Str.ofString "body") = some (.str b t) ∧ m (Str.ofString "state") = some (.ref sa) ∧ m (Str.ofString "quotes") = some (.str q tq) ∧
    l = (sa, listOf #[.ref sl, .int j t1, .int y t2] n) :: (sl, listOf vs.toArray n2) :: news ∧ 0 ≤ j ∧ j ≤ ns.length ∧ 0 ≤ y ∧ y < 2147483647 ∧ b.length ≤ 2 * k ∧ Wf b) rfl rfl hR1 rfl ?hn F1 N1 ?hj ?turn ?done
  case hn => omega
  case hj => exact ⟨_, _, _, _, _, _, rfl, rfl, rfl, rfl, hj0, hj1, hy0, hy1, by decide, by decide⟩
  case turn =>
    clear F1 N1 hR1
    rintro k t m₁ news₁ h tk own I hk ⟨b, tb, j, y, t1, t2, e1, e2, e3, rfl, hj0, hj1, hy0, hy1, hbl, hbw⟩ hI1 hI2 hI3 F1 N1
    have F2 := frPut (frPut (frPut F1 (x := Str.ofString "body") (v := .str b tb) (by exact e1)) (x := Str.ofString "state") (v := .ref sa) (by exact e2)) (x := Str.ofString "quotes") (v := .str q tq) (by exact e3)
    generalize (fun y => if y = Str.ofString "_" then some (Value.int (k : Int) t) else m₁ y) = m₂ at F2
    clear F1 e1 e2 e3
    simp only [List.cons_append] at N1
    have hne3 : ∀ q ∈ news ++ own, q.1 ≠ sa := by
      intro q hq
      rcases List.mem_append.mp hq with h | h
      · exact hne q h
      · rw [hI3 q h]; exact (hI1 _ (.head _)).symm
    k_steps
    all_goals
      rename Fr _ _ _ _ => F3
      rename News _ _ _ _ => N3
      refine xend1 (tail := (sl, listOf vs.toArray n2) :: news) F3 N3 ?nm (hI1 _ (.head _)) (fun p hp => hI1 p (.tail _ hp)) ⟨_, _, _, _, _, _, rfl, rfl, rfl, rfl, ?_, ?_, ?_, ?_, ?ln, ?wf⟩
      case nm =>
        intro p hp
        simp only [List.mem_append, List.mem_cons] at hp ⊢
        rcases hp with (h | h) | h <;> simp [h]
      case ln =>
        have hc : (Str.ofString "\\").length = 1 := by decide
        have hz : (Str.ofString "0").length = 1 := by decide
        omega
      case wf =>
        first
        | exact wfS2a (by assumption) (item_lt (by decide) (by decide +kernel)) hbw
        | exact wfS1a (by assumption) hbw
        | exact wfS1a ⟨48, by decide, rfl⟩ hbw
      all_goals assumption
  case done =>
    clear F1 N1 hR1
    rintro m₁ news₁ h tk ⟨b, tb, j, y, t1, t2, e1, e2, e3, rfl, hj0, hj1, hy0, hy1, hbl, hbw⟩ F1 N1
    have F2 := frPut F1 (x := Str.ofString "body") (v := .str b tb) (by exact e1)
    clear F1 e1 e2 e3
    k_steps
    rename_i kF kN _ _
    exact ret _ _ _ _ _ _ _ _ kF kN (by assumption) (by assumption) (by assumption) (by assumption) (by omega) (by assumption)
end
end Mine

/- part 4 -/
namespace Mine
open PySem PySem.W PySem.Spec PySem.Calls PyProof.Rows
theorem begins4 : True := by
  w_top off
  exact trivial

def valid (c : Nat) : Bool := [10, 92, 39, 34, 97, 98, 102, 110, 114, 116, 118, 48, 49, 50, 51, 52, 53, 54, 55, 120, 78, 117, 85].contains c
def adv (rc : Int × Int) (c : Nat) : Int × Int := if c = 10 then (rc.1 + 1, 0) else (rc.1, rc.2 + 1)
def dueL : List Nat → Int × Int → List ((Int × Int) × Nat)
  | [], _ => []
  | [_], _ => []
  | c :: d :: r, rc => if c = 92 then (if valid d then [] else [(rc, d)]) ++ dueL r (adv (adv rc c) d) else dueL (d :: r) (adv rc c)

abbrev tupO (vs : List Value) : Obj := { cls := .type "tuple", data := .seq vs.toArray }
def msg (d : Nat) : Str := Str.ofString "W605 invalid escape sequence '\\" ++ ⟨#[d]⟩ ++ Str.ofString "'"
def OneIn (tl : Led) (v : Value) (d : (Int × Int) × Nat) : Prop :=
  ∃ (a b : Addr) (t1 t2 t3 : Tok), v = .ref a ∧ (a, tupO [.ref b, .str (msg d.2) t3]) ∈ tl ∧ (b, tupO [.int d.1.1 t1, .int d.1.2 t2]) ∈ tl
inductive DueIn (tl : Led) : List Value → List ((Int × Int) × Nat) → Prop
  | nil : DueIn tl [] []
  | cons {v vs d ds} : OneIn tl v d → DueIn tl vs ds → DueIn tl (v :: vs) (d :: ds)
theorem OneIn.mono {tl tl' : Led} {v d} (h : OneIn tl v d) (hs : ∀ p ∈ tl, p ∈ tl') : OneIn tl' v d := by
  obtain ⟨a, b, t1, t2, t3, e, h1, h2⟩ := h
  exact ⟨a, b, t1, t2, t3, e, hs _ h1, hs _ h2⟩
theorem DueIn.mono {tl tl' : Led} {vs ds} (h : DueIn tl vs ds) (hs : ∀ p ∈ tl, p ∈ tl') : DueIn tl' vs ds := by
  induction h with
  | nil => exact .nil
  | cons h1 _ ih => exact .cons (h1.mono hs) ih
theorem DueIn.append {tl : Led} {vs ds us es} (h : DueIn tl vs ds) (h' : DueIn tl us es) : DueIn tl (vs ++ us) (ds ++ es) := by
  induction h with
  | nil => exact h'
  | cons h1 _ ih => exact .cons h1 ih
theorem DueIn.length {tl : Led} {vs ds} (h : DueIn tl vs ds) : vs.length = ds.length := by
  induction h with
  | nil => rfl
  | cons h1 _ ih => simp [ih]
def Tups (tl : Led) : Prop := ∀ p ∈ tl, p.2.cls = .type "tuple"

section
variable {prog : Program} {w : World} {A : Around} {E : Value → Shared → Prop} {s : Shared} {env : Env} {h₀ : Heap} {x : Str} {body : List Stmt} {Q : Flow → Shared → Prop}
theorem iterStr {xt : Str} {tx : Tok} {L : Addr} {m₀ : Str → Option Value} {news : Led} (J : Nat → (Str → Option Value) → Led → Prop)
    (hL : env.locals = L) (hh : A.handled = none) (F : Fr h₀ L s.heap m₀) (N : News h₀ L s.heap news) (hj : J 0 m₀ news)
    (turn : ∀ i c t m₁ news₁ h tk own I, xt.cps[i]? = some c → J i m₁ news₁ → (∀ p ∈ news, p.1 ≠ I) → (∀ p ∈ news₁, p.1 ≠ I) → (∀ p ∈ own, p.1 = I) → Fr h₀ L h (fun y => if y = x then some (.str ⟨#[c]⟩ t) else m₁ y) → News h₀ L h (news₁ ++ own) →
      wpAny (model prog w) A (execs body env) (XPost h₀ L (J (i + 1)) own [I] { s with heap := h, toks := tk } Q) E { s with heap := h, toks := tk })
    (done : ∀ m₁ news₁ h tk, J xt.cps.size m₁ news₁ → Fr h₀ L h m₁ → News h₀ L h news₁ → Q .next { s with heap := h, toks := tk }) :
    wpAny (model prog w) A (pyIter (.str xt tx)) (fun it s₂ => LoopAtV prog w A h₀ env x body Q E it s₂) E s := by
  subst hL
  refine wpAny_pyIter_str fun o St hW hst => ?_
  have hfr : ∀ p ∈ news, p.1 ≠ s.heap.objs.size := fun p hp => Nat.ne_of_lt (Heap.lt_size (N p hp).1)
  refine loopJ J (hW A hh) ?_ ?_ ?_ hst (F.push _) (fun p hp => ⟨Heap.get?_push_of_some _ (N p hp).1, (N p hp).2⟩) hj ?_ ?_
  · intro hm
    exact absurd F.ns.lt ((List.mem_singleton.mp hm) ▸ Nat.lt_irrefl _)
  · intro b hb
    rw [List.mem_singleton.mp hb]
    exact next_is_new F
  · intro p hp hI
    exact hfr p hp (List.mem_singleton.mp hI)
  · rintro i v m₁ news₁ h tk own hi ⟨c, t, hc, rfl⟩ hJ hoff hown F₁ N₁
    exact turn i c t m₁ news₁ h tk own _ hc hJ hfr (fun p hp e => hoff p hp (List.mem_singleton.mpr e)) (fun p hp => List.mem_singleton.mp (hown p hp)) F₁ N₁
  · exact done

theorem strItem {value slice : PySem.Expr} {y : Str} {ty tk : Tok} {i : Int} {c : Nat} {Q : Value → Shared → Prop} (h0 : 0 ≤ i) (hc : y.cps[i.toNat]? = some c) (hl : y.length ≤ 16777216)
    (h : Q (.str ⟨#[c]⟩ s.toks) { s with toks := s.toks + 1 })
    (hs : subscripted slice false (.str y ty) (.int i tk) = operate [.str y ty, .int i tk] (getItem (.str y ty) (.int i tk)) := by with_unfolding_all rfl)
    (ht : ∀ r, letTemporaryGo value (.str y ty) r = pure () := by intro _; with_unfolding_all rfl) :
    wpAny (model prog w) A (subscriptTail value slice (.str y ty) (.int i tk)) Q E s := by
  have hlt : i.toNat < y.cps.size := (Array.getElem?_eq_some_iff.mp hc).1
  have hi : i < (y.length : Int) := by show i < (y.cps.size : Int); omega
  have e : Txt.item y i = ⟨#[c]⟩ := by
    rw [item_meets ⟨h0, hi⟩]
    simp [Array.getD, hlt, (Array.getElem?_eq_some_iff.mp hc).2]
  exact KXi.item rfl (by omega) hi hl (fun _ => by rw [e]; exact h) hs ht
end

theorem slice1 {x : Str} {k cc : Nat} (hc : x.cps[k]? = some cc) : Txt.slice x (some (k : Int)) (some ((k : Int) + 1)) = ⟨[cc].toArray⟩ := by
  have hk : k < x.cps.size := (Array.getElem?_eq_some_iff.mp hc).1
  have h1 := eq_of_beq (slice_closes (x := x) (i := (k : Int)) (j := (k : Int) + 1) ⟨by omega, by omega, by rw [Array.length_toList]; omega⟩)
  rw [h1]
  have e : ((k : Int) + 1 - (k : Int)).toNat = 1 := by omega
  rw [e]
  have hl : x.cps.toList.drop k = cc :: x.cps.toList.drop (k + 1) := by
    rw [List.drop_eq_getElem_cons (by simpa using hk)]
    congr 1
    simpa using (Array.getElem?_eq_some_iff.mp hc).2
  show (⟨((x.cps.toList.drop k).take 1).toArray⟩ : Str) = _
  rw [hl]; rfl
theorem slice2 {x : Str} {k cc d : Nat} (hc : x.cps[k]? = some cc) (hd : x.cps[k + 1]? = some d) : Txt.slice x (some (k : Int)) (some ((k : Int) + 2)) = ⟨[cc, d].toArray⟩ := by
  have hk : k + 1 < x.cps.size := (Array.getElem?_eq_some_iff.mp hd).1
  have h1 := eq_of_beq (slice_closes (x := x) (i := (k : Int)) (j := (k : Int) + 2) ⟨by omega, by omega, by rw [Array.length_toList]; omega⟩)
  rw [h1]
  have e : ((k : Int) + 2 - (k : Int)).toNat = 2 := by omega
  rw [e]
  have hl : x.cps.toList.drop k = cc :: x.cps.toList.drop (k + 1) := by
    rw [List.drop_eq_getElem_cons (by simp; omega)]
    congr 1
    simpa using (Array.getElem?_eq_some_iff.mp hc).2
  have hl2 : x.cps.toList.drop (k + 1) = d :: x.cps.toList.drop (k + 1 + 1) := by
    rw [List.drop_eq_getElem_cons (by simpa using hk)]
    congr 1
    simpa using (Array.getElem?_eq_some_iff.mp hd).2
  show (⟨((x.cps.toList.drop k).take 2).toArray⟩ : Str) = _
  rw [hl, hl2]; rfl
theorem drop_at {x : Str} {k cc : Nat} (hc : x.cps[k]? = some cc) : x.cps.toList.drop k = cc :: x.cps.toList.drop (k + 1) := by
  have hk : k < x.cps.size := (Array.getElem?_eq_some_iff.mp hc).1
  rw [List.drop_eq_getElem_cons (by simpa using hk)]
  congr 1
  simpa using (Array.getElem?_eq_some_iff.mp hc).2
theorem occ_valid (d : Nat) : (Builtin.Str.occurrences (Str.ofString "\n\\'\"abfnrtv01234567xNuU") ⟨#[d]⟩ 0 (Str.ofString "\n\\'\"abfnrtv01234567xNuU").length 1).isEmpty = !valid d := by
  have h := StrLaws.found_one (Str.ofString "\n\\'\"abfnrtv01234567xNuU") d
  have e : (Str.ofString "\n\\'\"abfnrtv01234567xNuU").cps.toList = [10, 92, 39, 34, 97, 98, 102, 110, 114, 116, 118, 48, 49, 50, 51, 52, 53, 54, 55, 120, 78, 117, 85] := by decide +kernel
  rw [e] at h
  have h2 : valid d = decide (d ∈ [10, 92, 39, 34, 97, 98, 102, 110, 114, 116, 118, 48, 49, 50, 51, 52, 53, 54, 55, 120, 78, 117, 85]) := by
    unfold valid
    rw [Bool.eq_iff_iff, decide_eq_true_eq, List.contains_iff_mem]
  rw [h2, ← h, Bool.not_not]
theorem wfb_92 {r : List Nat} (h : wfb (92 :: r) = true) : ∃ d r', r = d :: r' ∧ wfb r' = true := by
  cases r with
  | nil => simp [wfb] at h
  | cons d r' => exact ⟨d, r', rfl, by simpa [wfb] using h⟩
theorem wfb_ne {c : Nat} {r : List Nat} (hc : c ≠ 92) (h : wfb (c :: r) = true) : wfb r = true := by
  cases r with
  | nil => rfl
  | cons d r' => simpa [wfb, hc] using h
theorem dueL_ne {c : Nat} {r : List Nat} {rc} (hc : c ≠ 92) : dueL (c :: r) rc = dueL r (adv rc c) := by
  cases r with
  | nil => rfl
  | cons d r' => simp [dueL, hc]
theorem dueL_92 {d : Nat} {r : List Nat} {rc} : dueL (92 :: d :: r) rc = (if valid d then [] else [(rc, d)]) ++ dueL r (adv (adv rc 92) d) := by
  simp [dueL]

theorem due_put {g h : Heap} {L D1 D2 D : Addr} {us : List Value} {n : Nat} {tl news : Led} {t3 tr tc : Tok} {rc : Int × Int} {d : Nat} {ds : List ((Int × Int) × Nat)}
    (N3 : News g L h ((D2, tupO [.ref D1, .str (msg d) t3]) :: (D1, tupO [.int rc.1 tr, .int rc.2 tc]) :: (D, listOf (us.toArray.push (.ref D2)) (n + 1)) :: (tl ++ news))) (htl : Tups tl) (hdi : DueIn tl us ds) :
    ∃ (us' : List Value) (n' : Nat) (tl' : Led), News g L h ((D, listOf us'.toArray n') :: (tl' ++ news)) ∧ Tups tl' ∧ DueIn tl' us' (ds ++ [(rc, d)]) ∧ us'.length = us.length + 1 := by
  refine ⟨us ++ [.ref D2], n + 1, (D2, tupO [.ref D1, .str (msg d) t3]) :: (D1, tupO [.int rc.1 tr, .int rc.2 tc]) :: tl, fun p hp => N3 p ?_, ?_, ?_, by simp⟩
  · simp only [List.mem_cons, List.cons_append, List.push_toArray] at hp ⊢
    rcases hp with h | h | h | h
    · exact .inr (.inr (.inl h))
    · exact .inl h
    · exact .inr (.inl h)
    · exact .inr (.inr (.inr h))
  · intro p hp
    rcases List.mem_cons.mp hp with h | hp
    · rw [h]
    · rcases List.mem_cons.mp hp with h | hp
      · rw [h]
      · exact htl p hp
  · exact (hdi.mono fun p hp => .tail _ (.tail _ hp)).append (.cons ⟨_, _, _, _, _, rfl, .head _, .tail _ (.head _)⟩ .nil)

section
local macro_rules | `(tactic| k_all) => `(tactic| first | assumption | (refine' List.forall_mem_cons.mpr ⟨?a, ?b⟩; (case a => first | assumption | exact Ne.symm (by assumption)); (case b => assumption)))
local macro_rules | `(tactic| walk_at "exec For Name Subscript cons nil") => `(tactic| refine Stop.of ?_)
local macro_rules | `(tactic| walk_at "pyIter str") => `(tactic| ((with_reducible show wpAny _ _ (pyIter (Value.str _ _)) (fun it s₂ => LoopAtV _ _ _ _ _ _ _ _ _ it s₂) _ _); refine Stop.of ?_))
local macro_rules | `(tactic| walk_at "exec While Compare cons nil") => `(tactic| refine Stop.of ?_)

local macro_rules | `(tactic| walk_at "ite") => `(tactic| (refine ite_neg (by assumption) ?_))
local macro_rules | `(tactic| walk_at "subscriptTail Name Name str int") => `(tactic| ((with_reducible show wpAny _ _ (subscriptTail _ _ (Value.str _ _) (Value.int _ _)) _ _ _); k_dflt (refine' strItem ?k1 ?k2 ?k3 ?_ ?k5 ?k6; (case k1 => omega); (case k2 => with_unfolding_all assumption); (case k3 => omega); (case k5 => with_unfolding_all rfl); (case k6 => (intro _; with_unfolding_all rfl))); (try dsimp only)))
local macro_rules | `(tactic| walk_at "subscriptTail Name BinOp str int") => `(tactic| ((with_reducible show wpAny _ _ (subscriptTail _ _ (Value.str _ _) (Value.int _ _)) _ _ _); k_dflt (refine' strItem ?k1 ?k2 ?k3 ?_ ?k5 ?k6; (case k1 => omega); (case k2 => with_unfolding_all assumption); (case k3 => omega); (case k5 => with_unfolding_all rfl); (case k6 => (intro _; with_unfolding_all rfl))); (try dsimp only)))

theorem due_spec {w : World} {p : Program} {loose : List Str} {mean : ExcName → Option Value} {mg mb : Str → Option Value}
    {dp un : Nat} {gd : Option (List Code)} {cn : Str} {cs : Scope} {a : Addr} {ccd : Value} {cl : List (Str × Addr)} {outer : List Env} {A₀ : Around} {base h₀ : Heap} {L : Addr} {m : Str → Option Value} {s : Shared} {Q E : Value → Shared → Prop}
    {x : Str} {r c : Int} {t1 t2 t3 : Tok} {news : List (Addr × Obj)}
    (B : Below A₀ base outer h₀) (F : Fr h₀ L s.heap m) (X : (Hd.heap_39 w.params).In h₀) (N : News h₀ L s.heap news)
    (T : Top p loose mean mg mb h₀) (hk : cs.kind = .function) (hx : x.length ≤ 64) (hw : wfb x.cps.toList = true)
    (hd : dp + 2 < recursionLimit) (hu : un + 16 < cLine)
    (ret : ∀ (D : Addr) (us : List Value) (n : Nat) (tl : Led) h' tk', Fr h₀ L h' m → News h₀ L h' ((D, listOf us.toArray n) :: (tl ++ news)) → Tups tl → DueIn tl us (dueL x.cps.toList (r, c)) → (∀ q ∈ news, q.1 ≠ D) → Q (.ref D) { s with heap := h', toks := tk' })
    (hpin : PySem.Challenge.rw_fh0024_01 = PySem.Challenge.rw_fh0024_01 ∧ Hd.heap_39 = Hd.heap_39) :
    wpAny (model PG w) (ktrTop dp un gd cn cs L a ccd cl outer) (call (.ref 65) [.str x t1, .int r t2, .int c t3]) Q E s := by
  revert hpin
  k_fill
  intro _
  refine wpAny_call ?_
  k_dflt ktr_enter
  k_steps
  refine Stop.mk ?_
  rename Fr _ _ _ _ => F1
  rename News _ _ _ _ => N1
  rename_i D _ lD _ _ _ _ _ _
  have N2 : News _ _ _ ((D, listOf ([] : List Value).toArray 0) :: ([] ++ news)) := fun p hp => N1 p (by
    rcases List.mem_cons.mp hp with h | h
    · exact .tail _ (h ▸ .head _)
    · exact .tail _ (.tail _ h))
  have hDn : ∀ q ∈ news, q.1 ≠ D := fun q hq => Nat.ne_of_lt (lD q hq)
  clear N1
  with_unfolding_all refine' While_inv2 (n₀ := x.length) (fun μ m l => ∃ (k : Nat) (rc : Int × Int) (us : List Value) (n : Nat) (tl : Led) (tk tr tc : Tok) (ds : List ((Int × Int) × Nat)), μ = x.length - k ∧
    m (Str.ofString "due") = some (.ref D) ∧ m (Str.ofString "k") = some (.int k tk) ∧ m (Str.ofString "row") = some (.int rc.1 tr) ∧ m (Str.ofString "column") = some (.int rc.2 tc) ∧ m (Str.ofString "text") = some (.str x t1) ∧
    l = (D, listOf us.toArray n) :: (tl ++ news) ∧ Tups tl ∧ k ≤ x.length ∧ wfb (x.cps.toList.drop k) = true ∧ DueIn tl us ds ∧ ds ++ dueL (x.cps.toList.drop k) rc = dueL x.cps.toList (r, c) ∧ us.length ≤ k) F1 N2 ?hj ?turn
  case hj => exact ⟨0, (r, c), [], 0, [], _, _, _, [], rfl, rfl, rfl, rfl, rfl, rfl, rfl, (fun _ h => nomatch h), Nat.zero_le _, hw, DueIn.nil, rfl, Nat.le_refl _⟩
  case turn =>
    clear F1 N2
    rintro μ m₁ news₁ h tk F1 N1 ⟨k, rc, us, n, tl, tkk, tr, tc, ds, rfl, e1, e2, e3, e4, e5, rfl, htl, hkl, hwk, hdi, hds, hul⟩
    have F2 := frPut (frPut (frPut (frPut (frPut F1 (x := Str.ofString "due") (v := .ref D) (by exact e1)) (x := Str.ofString "k") (v := .int k tkk) (by exact e2)) (x := Str.ofString "row") (v := .int rc.1 tr) (by exact e3)) (x := Str.ofString "column") (v := .int rc.2 tc) (by exact e4)) (x := Str.ofString "text") (v := .str x t1) (by exact e5)
    have hne : ∀ p ∈ tl ++ news, p.1 ≠ D := by
      intro p hp
      rcases List.mem_append.mp hp with h | h
      · intro e
        have h1 := (N1 p (.tail _ hp)).1
        have h2 := (N1 _ (.head _)).1
        rw [e, h2] at h1
        have h3 := htl p h
        rw [← Option.some.inj h1] at h3
        exact absurd (Value.type.inj h3) (by decide)
      · exact hDn p h
    clear F1 e1 e2 e3 e4 e5
    rcases Nat.lt_or_ge k x.length with hlt | hge
    · have hks : k < x.cps.size := hlt
      have hc : x.cps[k]? = some x.cps[k] := Array.getElem?_eq_getElem hks
      generalize x.cps[k] = cc at hc
      have hAll : ∃ xs : List Nat, (cc = 92 ∧ ∃ d, xs = [92, d] ∧ x.cps[k + 1]? = some d) ∨ (cc ≠ 92 ∧ xs = [cc]) := by
        by_cases h92 : cc = 92
        · rw [drop_at hc, h92] at hwk
          obtain ⟨d, r', hr', _⟩ := wfb_92 hwk
          refine ⟨[92, d], .inl ⟨h92, d, rfl, ?_⟩⟩
          have h1 : (x.cps.toList.drop (k + 1))[0]? = some d := by rw [hr']; rfl
          simpa using h1
        · exact ⟨[cc], .inr ⟨h92, rfl⟩⟩
      obtain ⟨xs, hxs⟩ := hAll
      rcases hxs with ⟨rfl, d, hxs, hd1⟩ | ⟨h92, hxs⟩
      focus
        have hsl : Txt.slice x (some (k : Int)) (some ((k : Int) + 2)) = ⟨xs.toArray⟩ := by rw [hxs]; exact slice2 hc hd1
        have hlen : xs.length = 2 := by rw [hxs]; rfl
        rw [drop_at hc, drop_at hd1] at hwk hds
        rw [dueL_92] at hds
        have hk2 : k + 1 < x.cps.size := (Array.getElem?_eq_some_iff.mp hd1).1
        have hwk' : wfb (x.cps.toList.drop (k + xs.length)) = true := by rw [hlen]; simpa [wfb] using hwk
        have hkl' : k + xs.length ≤ x.length := by rw [hlen]; exact hk2
        have hj : (k : Int) + 2 = ((k + xs.length : Nat) : Int) := by rw [hlen]; omega
        k_steps
        all_goals (refine Stop.mk ?_; rename News _ _ _ _ => N3; rename Fr _ _ _ _ => F3)
        focus
          rename_i _ hv _ D1 _ l1 _ _ _ _ _ _ D2 _ l2 _
          have hnv : valid d = false := by rw [occ_valid] at hv; simpa using hv
          obtain ⟨us', n', tl', N4, htl', hdi', hul'⟩ := due_put N3 htl hdi
          have hds' : (ds ++ [(rc, d)]) ++ dueL (x.cps.toList.drop (k + xs.length)) (xs.foldl adv rc) = dueL x.cps.toList (r, c) := by
            rw [hnv] at hds
            rw [hlen, hxs, List.append_assoc]
            exact hds
          generalize ds ++ [(rc, d)] = ds' at hdi' hds'
          have hul' : us'.length ≤ k + xs.length := by omega
          clear N3 l1 l2 hv
        rotate_left
        focus
          rename_i _ hv
          have hnv : valid d = true := by rw [occ_valid] at hv; simpa using hv
          have hds' : ds ++ dueL (x.cps.toList.drop (k + xs.length)) (xs.foldl adv rc) = dueL x.cps.toList (r, c) := by
            rw [hnv] at hds
            rw [hlen, hxs]
            exact hds
          clear hv
          obtain ⟨us', n', tl', ds', N4, htl', hdi', hds', hul'⟩ : ∃ (us' : List Value) (n' : Nat) (tl' : Led) (ds' : List ((Int × Int) × Nat)), News _ _ _ ((D, listOf us'.toArray n') :: (tl' ++ news)) ∧ Tups tl' ∧ DueIn tl' us' ds' ∧
              ds' ++ dueL (x.cps.toList.drop (k + xs.length)) (xs.foldl adv rc) = dueL x.cps.toList (r, c) ∧ us'.length ≤ k + xs.length := ⟨us, n, tl, ds, N3, htl, hdi, hds', by omega⟩
          clear N3
      rotate_left 2
      focus
        have hsl : Txt.slice x (some (k : Int)) (some ((k : Int) + 1)) = ⟨xs.toArray⟩ := by rw [hxs]; exact slice1 hc
        have hlen : xs.length = 1 := by rw [hxs]; rfl
        rw [drop_at hc] at hwk hds
        rw [dueL_ne h92] at hds
        have hb : ¬ (((⟨#[cc]⟩ : Str) == Str.ofString "\\") = true) := fun e => h92 (List.head_eq_of_cons_eq (congrArg (fun z => z.cps.toList) ((eq_of_beq e).trans (by decide : Str.ofString "\\" = ⟨#[92]⟩))))
        have hds' : ds ++ dueL (x.cps.toList.drop (k + xs.length)) (xs.foldl adv rc) = dueL x.cps.toList (r, c) := by
          rw [hlen, hxs]
          exact hds
        have hwk' : wfb (x.cps.toList.drop (k + xs.length)) = true := by rw [hlen]; exact wfb_ne h92 hwk
        have hkl' : k + xs.length ≤ x.length := by rw [hlen]; exact hks
        have hj : (k : Int) + 1 = ((k + xs.length : Nat) : Int) := by rw [hlen]; omega
        k_steps
        refine Stop.mk ?_
        rename News _ _ _ _ => N3
        rename Fr _ _ _ _ => F3
        obtain ⟨us', n', tl', ds', N4, htl', hdi', hds', hul'⟩ : ∃ (us' : List Value) (n' : Nat) (tl' : Led) (ds' : List ((Int × Int) × Nat)), News _ _ _ ((D, listOf us'.toArray n') :: (tl' ++ news)) ∧ Tups tl' ∧ DueIn tl' us' ds' ∧
            ds' ++ dueL (x.cps.toList.drop (k + xs.length)) (xs.foldl adv rc) = dueL x.cps.toList (r, c) ∧ us'.length ≤ k + xs.length := ⟨us, n, tl, ds, N3, htl, hdi, hds', by omega⟩
        clear N3
      all_goals
        with_unfolding_all refine' For_invVF F3 ?k1 ?k2 ?_
        case k1 => exact rfl
        case k2 => exact rfl
        k_steps
        refine Stop.mk ?_
        rename News _ _ _ _ => N5
        rename Fr _ _ _ _ => F5
        rw [hsl]
        with_unfolding_all refine' iterStr (xt := ⟨xs.toArray⟩) (fun i m l => l = (D, listOf us'.toArray n') :: (tl' ++ news) ∧ m (Str.ofString "due") = some (.ref D) ∧ m (Str.ofString "k") = some (.int k tkk) ∧ m (Str.ofString "text") = some (.str x t1) ∧
          ∃ tr tc, m (Str.ofString "row") = some (.int ((xs.take i).foldl adv rc).1 tr) ∧ m (Str.ofString "column") = some (.int ((xs.take i).foldl adv rc).2 tc)) rfl rfl F5 N5 ?ij ?iturn ?idone
        case ij => exact ⟨rfl, rfl, rfl, rfl, _, _, rfl, rfl⟩
        case iturn =>
          clear F5 N5
          rintro i cc' t m₁ news₁ h tk own I hi ⟨rfl, e1, e2, e3, tr', tc', e4, e5⟩ hI1 hI2 hI3 F1 N1
          have F2 := frPut (frPut F1 (x := Str.ofString "row") (v := .int ((xs.take i).foldl adv rc).1 tr') (by exact e4)) (x := Str.ofString "column") (v := .int ((xs.take i).foldl adv rc).2 tc') (by exact e5)
          have hx1 : xs[i]? = some cc' := by simpa using hi
          have htk : xs.take (i + 1) = xs.take i ++ [cc'] := by rw [List.take_add_one, hx1]; rfl
          have hfo : (xs.take (i + 1)).foldl adv rc = adv ((xs.take i).foldl adv rc) cc' := by rw [htk, List.foldl_append]; rfl
          clear F1 e4 e5
          generalize (xs.take i).foldl adv rc = rc' at *
          have hin : ∀ p ∈ ((D, listOf us'.toArray n') :: (tl' ++ news)) ++ own, p ∈ ((D, listOf us'.toArray n') :: (tl' ++ news)) ++ own := fun _ h => h
          by_cases h10 : cc' = 10
          · subst h10
            k_steps
            rename News _ _ _ _ => N7
            rename Fr _ _ _ _ => F7
            exact xendG (news' := (D, listOf us'.toArray n') :: (tl' ++ news)) F7 N7 (fun p hp => .tail _ hp) hI2 ⟨rfl, by exact e1, by exact e2, by exact e3, _, _, by rw [hfo]; rfl, by rw [hfo]; rfl⟩
          · have hb : ¬ (((⟨#[cc']⟩ : Str) == Str.ofString "\n") = true) := fun e => h10 (List.head_eq_of_cons_eq (congrArg (fun z => z.cps.toList) ((eq_of_beq e).trans (by decide : Str.ofString "\n" = ⟨#[10]⟩))))
            have hav : adv rc' cc' = (rc'.1, rc'.2 + 1) := if_neg h10
            k_steps
            rename News _ _ _ _ => N7
            rename Fr _ _ _ _ => F7
            exact xendG (news' := (D, listOf us'.toArray n') :: (tl' ++ news)) F7 N7 (fun p hp => .tail _ hp) hI2 ⟨rfl, by exact e1, by exact e2, by exact e3, _, _, by rw [hfo, hav]; rfl, by rw [hfo, hav]; rfl⟩
        case idone =>
          clear F5 N5
          have hsz : (⟨xs.toArray⟩ : Str).cps.size = xs.length := by simp
          rw [hsz]
          rintro m₁ news₁ h tk ⟨rfl, e1, e2, e3, tr', tc', e4, e5⟩ F1 N1
          rw [List.take_length] at e4 e5
          have F2 := frPut (frPut F1 (x := Str.ofString "text") (v := .str x t1) (by exact e3)) (x := Str.ofString "k") (v := .int k tkk) (by exact e2)
          clear F1
          k_steps
          rename News _ _ _ _ => N7
          rename Fr _ _ _ _ => F7
          refine ⟨_, _, _, _, x.length - (k + xs.length), rfl, F7, N7, by omega, k + xs.length, xs.foldl adv rc, us', n', tl', _, _, _, ds', rfl, by exact e1, by rw [← hj]; rfl, by exact e4, by exact e5, rfl, rfl, htl', hkl', hwk', hdi', hds', hul'⟩
    · have hke : k = x.length := Nat.le_antisymm hkl hge
      k_steps
      rename_i kF kN _ _
      have hdd : ds = dueL x.cps.toList (r, c) := by
        rw [hke] at hds
        have e0 : x.cps.toList.drop x.length = [] := List.drop_of_length_le (by simp [Str.length])
        rw [e0] at hds
        simpa [dueL] using hds
      exact ret D us n tl _ _ kF kN htl (hdd ▸ hdi) hDn
end
end Mine

/- part 5 -/
namespace Mine
open PySem PySem.W PySem.Spec PySem.Calls PyProof.Rows
theorem begins5 : True := by
  w_top off
  exact trivial

section
variable {M : Model} {A : Around} {R : GenEnd} {Y : Protocol} {n : Nat} {s₀ : Shared} {c : Code} {fs : List Frame} {s : Shared} {env : Env}
  {K : Flow → Sem Fin} {H : Value → Sem Fin} {gd : Bool → Bool} {lv : List Value → List Value}

theorem sgWrap {α : Type} {m : Sem α} {K : α → Sem Fin} {H : Value → Sem Fin} {gd lv}
    (h : wpAny M (A.over c fs) m (fun a s' => Seg M A R Y n s₀ c (K a) fs s') (fun _ _ => False) s) : Seg M A R Y n s₀ c (m.wrap K H gd lv) fs s :=
  seg_wrap (wpAny_mono h (fun _ _ x => x) fun _ _ x => x.elim)
theorem sgBind {α β : Type} {m : Sem α} {K : α → Sem β} {K' : β → Sem Fin} {H' : Value → Sem Fin} {gd lv}
    (h : wpAny M (A.over c fs) m (fun a s' => Seg M A R Y n s₀ c ((K a).wrap K' H' gd lv) fs s') (fun _ _ => False) s) : Seg M A R Y n s₀ c ((m >>= K).wrap K' H' gd lv) fs s :=
  seg_bind_wrap (wpAny_mono h (fun _ _ x => x) fun _ _ x => x.elim)

theorem sgIf {test : Expr} {body orelse : List Stmt} {pos : Pos}
    (h : wpAny M (A.over c fs) (isTrue test env (eval test env)) (fun b s' => if b = true then Seg M A R Y n s₀ c ((execs body env).wrap K H gd lv) fs s' else Seg M A R Y n s₀ c ((execs orelse env).wrap K H gd lv) fs s') (fun _ _ => False) s) :
    Seg M A R Y n s₀ c ((exec (.If test body orelse pos) env).wrap K H gd lv) fs s := by
  rw [exec_If]
  refine sgBind (wpAny_standAt (sgBind (wpAny_mono h (fun b s' hb => ?_) fun _ _ x => x)))
  cases b with
  | true => rw [if_pos rfl] at hb ⊢; exact hb
  | false => rw [if_neg Bool.false_ne_true] at hb ⊢; exact hb

def loopK (c : Code) (f : Flow) : Sem Fin := match f with
  | .next | .cont => .pure (.again c)
  | .brk => .pure (.done .next)
  | .ret v => .pure (.done (.ret v))
def loopH (env : Env) (e : Value) : Sem Fin := (do noteFrame e env; theTreesLotGoes e : Sem Unit).wrap (fun _ => .raise e) .raise id id
/-- what a loop's code goes back to -/
def backTo1 (env : Env) (K : Flow → Sem Fin) (H : Value → Sem Fin) (gd : Bool → Bool) (lv : List Value → List Value) (c : Code) (p : Pos) : Frame :=
  .ret (fun r => ((match r with | .ok f => (.pure f : Sem Flow) | .error e => .raise e).onRaise fun (x : Value) => do
        if (← field x 1) == Value.none then unsupported "frame.own-activation:exception-without-traceback"
        setFlight x env.frame).wrap K H gd lv) none (gd false) (lv []) c p []

theorem sgWhile {test : Expr} {body orelse : List Stmt} {pos : Pos}
    (h : ∀ p, Seg M A R Y n s₀ (.whileLoop test body orelse env) (M.den (.whileLoop test body orelse env)) (backTo1 env K H gd lv c p :: fs) s) :
    Seg M A R Y n s₀ c ((exec (.While test body orelse pos) env).wrap K H gd lv) fs s := seg_While h
theorem sgFor {target iter : Expr} {body orelse : List Stmt} {pos : Pos}
    (h : wpAny M (A.over c fs) (eval iter env) (fun x s₁ => wpAny M (A.over c fs) (pyIter x) (fun it s₂ =>
      ∀ p, Seg M A R Y n s₀ (.forLoop target it body orelse env) (M.den (.forLoop target it body orelse env)) (backTo1 env K H gd lv c p :: fs) s₂) (fun _ _ => False) s₁) (fun _ _ => False) s)
    (hs : ∀ x, foldedSetIterable iter env x = pure x := by intro _; rfl) :
    Seg M A R Y n s₀ c ((exec (.For target iter body orelse pos) env).wrap K H gd lv) fs s := by
  rw [exec_For]
  refine sgBind (wpAny_standAt (sgBind (wpAny_mono h (fun x s₁ h₁ => ?_) fun _ _ x => x)))
  rw [hs x]
  refine sgBind (wpAny_pure (sgBind (wpAny_standAt (sgBind (wpAny_holding (wpAny_mono h₁ (fun it s₂ h₂ => ?_) fun _ _ x => x))))))
  exact seg_call h₂
theorem sgBack {f : Flow} {c' : Code} {p : Pos} (h : Seg M A R Y n s₀ c (K f) fs s) : Seg M A R Y n s₀ c' (.pure (.done f)) (backTo1 env K H gd lv c p :: fs) s :=
  seg_leaf (.ok f) h
end

section
variable {prog : Program} {w : World} {A : Around} {R : GenEnd} {Y : Protocol} {n : Nat} {s₀ : Shared} {fs : List Frame} {s : Shared} {env : Env}
theorem sgForLoop {target : Expr} {it : Value} {body : List Stmt} {K : Flow → Sem Fin} {H : Value → Sem Fin} {gd lv} {c : Code} {p : Pos}
    (h : wpAny (model prog w) (A.over (.forLoop target it body [] env) (backTo1 env K H gd lv c p :: fs)) (pyNext it) (fun r s₁ => match r with
      | none => Seg (model prog w) A R Y n s₀ c (K .next) fs s₁
      | some v => wpAny (model prog w) (A.over (.forLoop target it body [] env) (backTo1 env K H gd lv c p :: fs)) (letOwnedTupleGo target it v) (fun _ s₂ => wpAny (model prog w) (A.over (.forLoop target it body [] env) (backTo1 env K H gd lv c p :: fs)) (assign target env v) (fun _ s₃ =>
          Seg (model prog w) A R Y n s₀ (.forLoop target it body [] env) ((execs body env).wrap (loopK (.forLoop target it body [] env)) (loopH env) id id) (backTo1 env K H gd lv c p :: fs) s₃) (fun _ _ => False) s₂) (fun _ _ => False) s₁) (fun _ _ => False) s) :
    Seg (model prog w) A R Y n s₀ (.forLoop target it body [] env) ((model prog w).den (.forLoop target it body [] env)) (backTo1 env K H gd lv c p :: fs) s := by
  show Seg _ A R Y n s₀ _ ((forTurn target it body [] env).onRaise (fun x => do noteFrame x env; theTreesLotGoes x)) _ s
  rw [Sem.onRaise_eq_wrap]
  unfold forTurn
  refine sgBind (wpAny_standAt (sgBind (wpAny_onRaise (wpAny_mono h (fun r s₁ h₁ => ?_) fun _ _ x => x.elim))))
  cases r with
  | none => exact seg_again rfl (sgBack h₁)
  | some v =>
    refine sgBind (wpAny_mono h₁ (fun _ s₂ h₂ => sgBind (wpAny_mono h₂ (fun _ s₃ h₃ => ?_) fun _ _ x => x)) fun _ _ x => x)
    rw [Sem.bind_eq_wrap', Sem.wrap_wrap]
    rw [Sem.wrap_congr (execs body env) _ _ (K' := loopK (.forLoop target it body [] env)) (H' := loopH env)
        (fun f => by cases f <;> rfl)
        (fun e => by show (do noteFrame e env; theTreesLotGoes e : Sem Unit).bind (fun _ => .raise e) = loopH env e; rw [Sem.bind_eq_wrap]; rfl)]
    exact h₃
end
end Mine

/- part 6 -/
namespace Mine
open PySem PySem.W PySem.Spec PySem.Calls PyProof.Rows
theorem begins6 : True := by
  w_top off
  exact trivial

abbrev Due := (Int × Int) × Nat
def YsAre (hb h : Heap) (ys : List Value) (ds : List Due) : Prop := ∃ tl : Led, (∀ p ∈ tl, h.get? p.1 = some p.2 ∧ hb.get? p.1 = none) ∧ Tups tl ∧ DueIn tl ys ds
def Kept (hb h : Heap) : Prop := ∀ b o, hb.get? b = some o → h.get? b = some o

/-- what is told at a yield, and what is asked of whoever wakes it -/
def GY (S I : Addr) (hb : Heap) (ds : List Due) : Protocol := fun n s₀ v s kap =>
  ∃ (ys : List Value) (c : Nat), s₀.heap.get? S = some (listOf ys.toArray c) ∧ s.heap.get? S = some (listOf ys.toArray c) ∧ (∀ o, s₀.heap.get? I = some o → s.heap.get? I = some o) ∧ Kept hb s.heap ∧
    (∃ h' tk', s = { s₀ with heap := h', toks := tk' }) ∧ n + 1 + ys.length = ds.length ∧
    ∀ (s'' : Shared) (c'' : Nat), s''.heap.get? S = some (listOf (ys ++ [v]).toArray c'') → (∀ b o, b ≠ S → s.heap.get? b = some o → s''.heap.get? b = some o) → kap (.send .none) s''
def GP (S I : Addr) (hb : Heap) (ds : List Due) (n : Nat) (s₀ s₁ : Shared) : Prop :=
  n = 0 ∧ (∃ (ys : List Value) (c : Nat), s₀.heap.get? S = some (listOf ys.toArray c) ∧ s₁.heap.get? S = some (listOf ys.toArray c) ∧ YsAre hb s₁.heap ys ds) ∧ Kept hb s₁.heap ∧ ∃ h' tk', s₁ = { s₀ with heap := h', toks := tk' }
abbrev GR (S I : Addr) (hb : Heap) (ds : List Due) : GenEnd := fun n s₀ r s₁ => r = .ok (.ret .none) ∧ GP S I hb ds n s₀ s₁

theorem pushedS {h : Heap} {S : Addr} {ys : List Value} {c : Nat} {v : Value} (hS : h.get? S = some (listOf ys.toArray c)) : ∃ c2, (h.update S (Obj.mapSeq (·.push v))).get? S = some (listOf (ys ++ [v]).toArray c2) :=
  ⟨_, by rw [← List.push_toArray]; exact PySem.IsL.update (n := c) hS (·.push v)⟩
theorem setGen_gens2 (s : Shared) (g : Nat) (x y : GenState) : ((s.setGen g x).setGen g y).gens = (s.setGen g y).gens := by
  simp [Shared.setGen]
theorem setGen_get {s : Shared} {g : Nat} {gs x : GenState} (h : s.gens[g]? = some gs) : (s.setGen g x).gens[g]? = some x := setGen_self h

section
variable {prog : Program} {w : World} {A : Around} {R : Result → Shared → Prop} {I S : Addr} {g : Nat} {res : Value} {hb : Heap} {ds : List Due}
theorem consume (hh : A.handled = none) (hroom : A.depth < recursionLimit) (hbl : hb.NoLimit) (hSI : S ≠ I) (hSb : hb.get? S = none) (hds : ds.length ≤ 1000) :
    ∀ (n : Nat) (s : Shared) (ys : List Value) (c : Nat) (gs : GenState), n + ys.length = ds.length → s.heap.IsGen I g → Kept hb s.heap → s.heap.get? S = some (listOf ys.toArray c) → s.gens[g]? = some gs →
      gs.Goes (model prog w) A.in1.in1 (GR S I hb ds) (GY S I hb ds) n (.send .none) (s.setGen g .running) →
      (∀ s' ys c, s'.heap.get? S = some (listOf ys.toArray c) → YsAre hb s'.heap ys ds → Kept hb s'.heap → s'.drawn = s.drawn → s'.os = s.os → s'.gens = (s.setGen g .finished).gens → R (.ok (.ret res)) s') →
      codeAny (model prog w) A (.builtin "list.extend.loop" ⟨[.ref S, .ref I, res], []⟩) R s := by
  intro n
  induction n with
  | zero =>
    intro s ys c gs hn hg hk hS hgs hgo hR
    refine codeAny_builtin F.entry_extend_loop ?_
    rw [Around.under_plainId F.plain_extend_loop _]
    show wpAny _ A.in1 (pyNext (.ref I) >>= _) _ _ s
    refine wpAny_bind (wpAny_pyNext_gen (P := GP S I hb ds) (Y := GY S I hb ds) hh (hbl.keeps hk) hroom hg hgs hgo (fun v s₁ gs' hv => ?_) (fun s₁ hp h' hk' => ?_))
    · obtain ⟨ys', c', _, hS', _, _, _, _, hkap⟩ := hv
      obtain ⟨c2, h1⟩ := pushedS (v := v) hS'
      exact (hkap { s₁ with heap := s₁.heap.update S (Obj.mapSeq (·.push v)) } c2 h1 fun b o hb e => (Heap.get?_update_other _ _ (Ne.symm hb)).trans e).elim
    · obtain ⟨_, ⟨ys', c', _, hS', hY⟩, hk₁, h₁, tk₁, rfl⟩ := hp
      refine wpAny_pure (hR _ ys' c' (hk' _ _ hS') ?_ (fun b o e => hk' b o (hk₁ b o e)) rfl rfl (setGen_gens2 s g .running .finished))
      obtain ⟨tl, h1, h2, h3⟩ := hY
      exact ⟨tl, fun p hp => ⟨hk' _ _ (h1 p hp).1, (h1 p hp).2⟩, h2, h3⟩
  | succ n ih =>
    intro s ys c gs hn hg hk hS hgs hgo hR
    refine codeAny_builtin F.entry_extend_loop ?_
    rw [Around.under_plainId F.plain_extend_loop _]
    show wpAny _ A.in1 (pyNext (.ref I) >>= _) _ _ s
    refine wpAny_bind (wpAny_pyNext_gen (P := GP S I hb ds) (Y := GY S I hb ds) hh (hbl.keeps hk) hroom hg hgs hgo (fun v s₁ gs' hv => ?_) (fun s₁ hp h' hk' => ?_))
    · obtain ⟨ys', c', hS0, hS', hI', hk₁, ⟨h₁, tk₁, rfl⟩, hn', hkap⟩ := hv
      have hS0' : s.heap.get? S = some (listOf ys'.toArray c') := hS0
      rw [hS] at hS0'
      have hyy : ys = ys' := by
        have := congrArg (fun o : Obj => o.data) (Option.some.inj hS0')
        have h2 := (Data.seq.inj this).1
        simpa using congrArg Array.toList h2
      subst hyy
      have hlen : ys.length ≤ 1000 := by omega
      obtain ⟨c2, h1⟩ := pushedS (v := v) hS'
      have hother : ∀ b o, b ≠ S → h₁.get? b = some o → (h₁.update S (Obj.mapSeq (·.push v))).get? b = some o := fun b o hb e => (Heap.get?_update_other _ _ (Ne.symm hb)).trans e
      show wpAny _ A.in1 (updateSeq S (·.push v) >>= _) _ _ _
      refine wpAny_bind ?_
      refine wpAny_updateSeq hS' rfl (wpAny_pure ⟨plainId_quiet F.plain_extend_loop _, ih _ (ys ++ [v]) c2 gs' (by simp at hn' ⊢; omega) ?_ ?_ ?_ ?_ ?_ ?_⟩) (by simp; rw [sizeLine_eq]; omega) (by simp; rw [sizeLine_eq]; omega)
      · obtain ⟨o, nm, qn, ho, r⟩ := hg
        exact ⟨o, nm, qn, hother I o (Ne.symm hSI) (hI' o ho), r⟩
      · exact fun b o e => hother b o (fun q => by rw [q, hSb] at e; cases e) (hk₁ b o e)
      · exact h1
      · exact setGen_get (gs := .running) (setGen_get hgs)
      · exact hkap _ c2 h1 hother
      · intro s' ys'' c'' a1 a2 a3 a4 a5 a6
        refine hR s' ys'' c'' a1 a2 a3 a4 a5 (a6.trans ?_)
        simp [Shared.setGen]
    · exact absurd hp.1 (Nat.succ_ne_zero n)
end

section
variable {prog : Program} {w : World} {A : Around} {E : Value → Shared → Prop} {s : Shared} {I : Addr} {g : Nat} {hb : Heap} {ds : List Due} {gs : GenState}
theorem initList {R : Result → Shared → Prop} {S : Addr} (hh : A.handled = none) (hroom : A.depth < recursionLimit) (hbl : hb.NoLimit) (hSI : S ≠ I) (hSb : hb.get? S = none) (hds : ds.length ≤ 1000)
    (hg : s.heap.IsGen I g) (hk : Kept hb s.heap) (hgs : s.gens[g]? = some gs) (hS : s.heap.get? S = some (listOf ([] : List Value).toArray 0))
    (hgo : ∀ (s'' : Shared) (c : Nat), s''.heap.get? S = some (listOf ([] : List Value).toArray c) → (∀ b o, b ≠ S → s.heap.get? b = some o → s''.heap.get? b = some o) → gs.Goes (model prog w) A.in1.in1 (GR S I hb ds) (GY S I hb ds) ds.length (.send .none) s'')
    (hR : ∀ s' ys c, s'.heap.get? S = some (listOf ys.toArray c) → YsAre hb s'.heap ys ds → Kept hb s'.heap → s'.drawn = s.drawn → s'.os = s.os → s'.gens = (s.setGen g .finished).gens → R (.ok (.ret .none)) s') :
    wpAny (model prog w) A.in1 (Builtin.«list.__init__» ⟨[.ref S, .ref I], []⟩)
      (fun fin s' => match fin with | .done f => R (.ok f) s' | .again c' => c'.quiet = true ∧ codeAny (model prog w) A c' R s') (fun e s' => R (.error e) s') s := by
  show wpAny _ A.in1 (do let old ← Builtin.List.listItems (.ref S); Builtin.List.listUpdate (.ref S) (fun _ => #[]); letGo old.toList.reverse; Builtin.List.listExtendWith (.ref S) (.ref I) .none) _ _ s
  refine wpAny_bind ?_
  unfold Builtin.List.listItems
  refine wpAny_bind (wpAny_seqItems hS rfl (wpAny_pure ?_))
  show wpAny _ A.in1 (updateSeq S (fun _ => #[]) >>= fun _ => letGo (#[] : Array Value).toList.reverse >>= fun _ => Builtin.List.listExtendWith (.ref S) (.ref I) .none) _ _ s
  refine wpAny_bind (wpAny_updateSeq hS rfl ?_)
  have oth : ∀ (f : Obj → Obj) (h : Heap) b o, b ≠ S → h.get? b = some o → (h.update S f).get? b = some o := fun f h b o hb e => (Heap.get?_update_other _ _ (Ne.symm hb)).trans e
  have hS₂ := Heap.get?_update_self (Obj.mapSeq (fun _ => (#[] : Array Value))) hS rfl
  refine wpAny_bind (wpAny_letGo ?_)
  have hg₂ : (s.heap.update S (Obj.mapSeq (fun _ => (#[] : Array Value)))).IsGen I g := by
    obtain ⟨o, nm, qn, ho, r⟩ := hg
    exact ⟨o, nm, qn, oth _ _ I o (Ne.symm hSI) ho, r⟩
  unfold Builtin.List.listExtendWith
  refine wpAny_bind (wpAny_typeOf hg₂.typeIs ?_)
  have h1 : Builtin.List.listSameRef (.ref S) (.ref I) = false := by simp [Builtin.List.listSameRef, hSI]
  have h2 : (Value.type "generator" == Value.type "list") = false := by decide
  have h3 : (Value.type "generator" == Value.type "tuple") = false := by decide
  simp only [h1, h2, h3, Bool.or_false, Bool.false_eq_true, if_false]
  refine wpAny_bind (wpAny_pyIter_gen hg₂ ?_)
  refine wpAny_bind (wpAny_holding ?_)
  unfold Builtin.List.listLengthHint
  refine wpAny_bind (wpAny_specialOf hg₂.typeIs F.gen_no_len ?_)
  show wpAny _ A.in1 (specialOf (Value.ref I) (Str.ofString "__length_hint__") >>= _) _ _ _
  refine wpAny_bind (wpAny_specialOf hg₂.typeIs F.gen_no_hint ?_)
  refine wpAny_pure ?_
  show wpAny _ A.in1 (rule "list.extend.makes-room" >>= fun _ => Builtin.List.listTouch (.ref S) >>= fun _ =>
    again (.builtin "list.extend.loop" ⟨[.ref S, .ref I, .none], []⟩)) _ _ _
  refine wpAny_bind (wpAny_rule ?_)
  refine wpAny_bind ?_
  show wpAny _ A.in1 (updateSeq S (·.push .none) >>= fun _ => updateSeq S (·.pop)) _ _ _
  refine wpAny_bind (wpAny_updateSeq hS₂ rfl ?_)
  have hS₃ := Heap.get?_update_self (Obj.mapSeq (·.push Value.none)) hS₂ rfl
  refine wpAny_updateSeq (hz := by seq_fits) hS₃ rfl ?_
  have hS₄ := Heap.get?_update_self (Obj.mapSeq (·.pop)) hS₃ rfl
  have keep : ∀ b o, b ≠ S → s.heap.get? b = some o → (((s.heap.update S (Obj.mapSeq (fun _ => (#[] : Array Value)))).update S (Obj.mapSeq (·.push Value.none))).update S (Obj.mapSeq (·.pop))).get? b = some o :=
    fun b o hb e => oth _ _ b o hb (oth _ _ b o hb (oth _ _ b o hb e))
  have hno : ∀ b o, hb.get? b = some o → b ≠ S := fun b o e q => by rw [q, hSb] at e; cases e
  refine wpAny_pure ⟨plainId_quiet F.plain_extend_loop _, consume hh hroom hbl hSI hSb hds ds.length _ [] _ gs (by simp) ?_ (fun b o e => keep b o (hno b o e) (hk b o e)) hS₄ hgs (hgo _ _ hS₄ keep) fun s' ys c a1 a2 a3 a4 a5 a6 => ?_⟩
  · obtain ⟨o, nm, qn, ho, r⟩ := hg
    exact ⟨o, nm, qn, keep I o (Ne.symm hSI) ho, r⟩
  · exact hR s' ys c a1 a2 a3 a4 a5 a6

theorem callList {Q : Value → Shared → Prop} (hh : A.handled = none) (hroom : A.depth < recursionLimit) (hbl : hb.NoLimit) (hds : ds.length ≤ 1000)
    (hg : s.heap.IsGen I g) (hk : Kept hb s.heap) (hgs : s.gens[g]? = some gs)
    (hgo : ∀ (s'' : Shared) (c : Nat), s''.heap.get? s.heap.objs.size = some (listOf ([] : List Value).toArray c) → (∀ b o, s.heap.get? b = some o → s''.heap.get? b = some o) → gs.Goes (model prog w) A.in1.in1.in1 (GR s.heap.objs.size I hb ds) (GY s.heap.objs.size I hb ds) ds.length (.send .none) s'')
    (hQ : ∀ s' ys c, s'.heap.get? s.heap.objs.size = some (listOf ys.toArray c) → YsAre hb s'.heap ys ds → Kept hb s'.heap → s'.drawn = s.drawn → s'.os = s.os → s'.gens = (s.setGen g .finished).gens → Q (.ref s.heap.objs.size) s') :
    wpAny (model prog w) A (call (.type "list") [.ref I]) Q E s := by
  have hIs : I < s.heap.objs.size := by obtain ⟨o, nm, qn, ho, _⟩ := hg; exact Heap.lt_size ho
  refine callType_codes (Q₁ := fun obj s₁ => obj = .ref s.heap.objs.size ∧ s₁ = { s with heap := s.heap.push { cls := .type "list", data := .seq #[] } }) F.called_list (F.typeCall_list_1 _) F.entry_list_init
    (code_list_new _ ⟨rfl, rfl⟩) fun obj s₁ h₁ => ?_
  obtain ⟨rfl, rfl⟩ := h₁
  have hS : (s.heap.push { cls := .type "list", data := .seq #[] }).get? s.heap.objs.size = some (listOf ([] : List Value).toArray 0) := Heap.get?_push_size _ rfl
  refine ⟨⟨_, hS, rfl⟩, F.args_list_init_2 _ _, initList (S := s.heap.objs.size) (hb := hb) (ds := ds) (g := g) (gs := gs) hh hroom hbl (Ne.symm (Nat.ne_of_lt hIs)) ?_ hds (hg.push _) (fun b o e => Heap.get?_push_of_some _ (hk b o e)) hgs hS ?_ ?_⟩
  · cases q : hb.get? s.heap.objs.size with
    | none => rfl
    | some o => exact absurd (Heap.lt_size (hk _ _ q)) (Nat.lt_irrefl _)
  · intro s'' c h1 h2
    exact hgo s'' c h1 fun b o e => h2 b o (Nat.ne_of_lt (Heap.lt_size e)) (Heap.get?_push_of_some _ e)
  · intro s' ys c a1 a2 a3 a4 a5 a6
    exact ⟨rfl, hQ s' ys c a1 a2 a3 a4 a5 a6⟩
end
end Mine

/- part 7 -/
namespace Mine
open PySem PySem.W PySem.Spec PySem.Calls PyProof.Rows PySem.Builtin PySem.Builtin.Str
theorem begins7 : True := by
  w_top off
  exact trivial

theorem takeAt {x : Str} {c p a : Nat} (hp : p ≤ x.length) : (a + (⟨#[c]⟩ : Str).length ≤ p ∧ subAt x ⟨#[c]⟩ a = true) ↔ (x.cps.toList.take p)[a]? = some c := by
  have h1 := StrLaws.subAt_one x c a
  have e1 : (⟨#[c]⟩ : Str).length = 1 := rfl
  rw [e1] at h1 ⊢
  rw [List.getElem?_take]
  constructor
  · rintro ⟨h, hs⟩
    rw [if_pos (by omega)]
    exact h1.mp ⟨by omega, hs⟩
  · intro h
    split at h
    · rename_i hlt
      exact ⟨by omega, (h1.mpr h).2⟩
    · cases h

theorem occC (x : Str) (c p : Nat) (hp : p ≤ x.length) (limit : Nat) : ∀ (k a : Nat) (arr : Array Nat) (free : Nat), free ≤ a → arr.size + k ≤ limit →
    (forIn (List.range' a k) (arr, free) (StrLaws.occBody x ⟨#[c]⟩ p limit)).run.fst.size = arr.size + (((x.cps.toList.take p).drop a).take k).count c
  | 0, a, arr, free, _, _ => by simp
  | k + 1, a, arr, free, hf, hl => by
    have hr : List.range' a (k + 1) = a :: List.range' (a + 1) k := rfl
    rw [hr, List.forIn_cons]
    unfold StrLaws.occBody
    by_cases hc : (x.cps.toList.take p)[a]? = some c
    · have h2 := (takeAt (c := c) hp).mpr hc
      rw [if_pos ⟨⟨⟨by show arr.size < limit; omega, hf⟩, h2.1⟩, h2.2⟩]
      have ih := occC x c p hp limit k (a + 1) (arr.push a) (a + (⟨#[c]⟩ : Str).length) (Nat.le_refl _) (by rw [Array.size_push]; omega)
      have hlt := (List.getElem?_eq_some_iff.mp hc).1
      have hd : (x.cps.toList.take p).drop a = c :: (x.cps.toList.take p).drop (a + 1) := by
        rw [List.drop_eq_getElem_cons hlt]
        congr 1
        exact (List.getElem?_eq_some_iff.mp hc).2
      rw [hd, List.take_succ_cons, List.count_cons_self]
      refine Eq.trans ih ?_
      rw [Array.size_push]; omega
    · rw [if_neg (fun h => hc ((takeAt hp).mp ⟨h.1.2, h.2⟩))]
      have ih := occC x c p hp limit k (a + 1) arr free (by omega) (by omega)
      refine Eq.trans ih ?_
      rcases Nat.lt_or_ge a (x.cps.toList.take p).length with hlt | hge
      · rw [List.drop_eq_getElem_cons hlt, List.take_succ_cons, List.count_cons_of_ne]
        intro he
        exact hc (by rw [List.getElem?_eq_getElem hlt, he])
      · rw [List.drop_of_length_le hge, List.drop_of_length_le (by omega)]; simp

def lastIn (c : Nat) : List Nat → Nat → Option Nat → Option Nat
  | [], _, st => st
  | d :: r, a, st => lastIn c r (a + 1) (if d = c then some a else st)

theorem lastC (x : Str) (c p : Nat) (hp : p ≤ x.length) : ∀ (k a : Nat) (st : Option Nat),
    (forIn (List.range' a k) st (StrLaws.lastBody x ⟨#[c]⟩ p)).run = lastIn c (((x.cps.toList.take p).drop a).take k) a st
  | 0, a, st => by simp [lastIn]
  | k + 1, a, st => by
    have hr : List.range' a (k + 1) = a :: List.range' (a + 1) k := rfl
    rw [hr, List.forIn_cons]
    unfold StrLaws.lastBody
    rcases Nat.lt_or_ge a (x.cps.toList.take p).length with hlt | hge
    · have hd : (x.cps.toList.take p).drop a = (x.cps.toList.take p)[a] :: (x.cps.toList.take p).drop (a + 1) := List.drop_eq_getElem_cons hlt
      rw [hd, List.take_succ_cons]
      unfold lastIn
      by_cases hc : (x.cps.toList.take p)[a] = c
      · rw [if_pos ((takeAt hp).mpr (by rw [List.getElem?_eq_getElem hlt, hc])), if_pos hc]
        exact lastC x c p hp k (a + 1) (some a)
      · rw [if_neg (fun h => hc (by have := (takeAt hp).mp h; rw [List.getElem?_eq_getElem hlt] at this; exact Option.some.inj this)), if_neg hc]
        exact lastC x c p hp k (a + 1) st
    · have hn : (x.cps.toList.take p)[a]? = none := List.getElem?_eq_none hge
      rw [if_neg (fun h => by have := (takeAt hp).mp h; rw [hn] at this; cases this)]
      refine Eq.trans (lastC x c p hp k (a + 1) st) ?_
      rw [List.drop_of_length_le hge, List.drop_of_length_le (by omega)]
      simp [lastIn]

theorem posJoint (r0 c0 : Int) : ∀ (L : List Nat) (a : Nat) (st : Option Nat) (cn : Nat) (rc : Int × Int), rc.1 = r0 + cn → (cn = 0 ↔ st = none) → (st = none → rc.2 = c0 + a) → (∀ j, st = some j → rc.2 = (a : Int) - j - 1) →
    (L.foldl adv rc).1 = r0 + (cn + L.count 10 : Nat) ∧ (cn + L.count 10 = 0 ↔ lastIn 10 L a st = none) ∧ (lastIn 10 L a st = none → (L.foldl adv rc).2 = c0 + (a + L.length : Nat)) ∧ (∀ j, lastIn 10 L a st = some j → (L.foldl adv rc).2 = ((a + L.length : Nat) : Int) - j - 1)
  | [], a, st, cn, rc, h1, h2, h3, h4 => by simpa [lastIn] using ⟨h1, h2, h3, h4⟩
  | d :: r, a, st, cn, rc, h1, h2, h3, h4 => by
    by_cases hd : d = 10
    · subst hd
      have ih := posJoint r0 c0 r (a + 1) (some a) (cn + 1) (adv rc 10) (by simp [adv, h1]; omega) (by simp) (by simp) (by intro j hj; cases hj; simp [adv]; omega)
      simp only [List.foldl_cons, lastIn, if_pos, List.count_cons_self, List.length_cons]
      refine ⟨by rw [ih.1]; omega, ?_, ?_, ?_⟩
      · have h := ih.2.1
        constructor
        · intro h0; omega
        · intro h0; have := h.mpr h0; omega
      · intro h0; have := ih.2.2.1 h0; rw [this]; omega
      · intro j hj; have := ih.2.2.2 j hj; rw [this]; omega
    · have ih := posJoint r0 c0 r (a + 1) st cn (adv rc d) (by simp [adv, hd, h1]) h2 (by intro h; simp [adv, hd, h3 h]; omega) (by intro j hj; simp [adv, hd, h4 j hj]; omega)
      simp only [List.foldl_cons, lastIn, if_neg hd, List.length_cons, List.count_cons_of_ne hd]
      refine ⟨ih.1, ih.2.1, ?_, ?_⟩
      · intro h0; have := ih.2.2.1 h0; rw [this]; omega
      · intro j hj; have := ih.2.2.2 j hj; rw [this]; omega

def posn (x : Str) (p : Nat) (rc : Int × Int) : Int × Int := (x.cps.toList.take p).foldl adv rc

theorem posn_spec (x : Str) (p : Nat) (hp : p ≤ x.length) (rc : Int × Int) :
    (posn x p rc).1 = rc.1 + ((occurrences x ⟨#[10]⟩ 0 p (x.length + 1)).length : Nat) ∧
    ((occurrences x ⟨#[10]⟩ 0 p (x.length + 1)).length = 0 → (posn x p rc).2 = rc.2 + p) ∧
    ((occurrences x ⟨#[10]⟩ 0 p (x.length + 1)).length ≠ 0 → ∃ j : Nat, lastOccurrence x ⟨#[10]⟩ 0 p = some j ∧ (posn x p rc).2 = (p : Int) - j - 1) := by
  have e1 : (occurrences x ⟨#[10]⟩ 0 p (x.length + 1)).length = (x.cps.toList.take p).count 10 := by
    rw [StrLaws.occ_eq, Array.length_toList]
    have h := occC x 10 p hp (x.length + 1) (p + 1 - 0) 0 #[] 0 (Nat.le_refl _) (by simp; omega)
    rw [h]
    simp
    rw [List.take_take]
    congr 2
    omega
  have e2 : lastOccurrence x ⟨#[10]⟩ 0 p = lastIn 10 (x.cps.toList.take p) 0 none := by
    rw [StrLaws.last_eq, lastC x 10 p hp]
    simp
    congr 1
    rw [List.take_take]
    congr 1
    omega
  have hl : (x.cps.toList.take p).length = p := by rw [List.length_take, Array.length_toList]; exact Nat.min_eq_left hp
  have key := posJoint rc.1 rc.2 (x.cps.toList.take p) 0 none 0 rc (by simp) (by simp) (by simp) (by simp)
  rw [hl] at key
  simp only [Nat.zero_add] at key
  rw [e1, e2]
  refine ⟨key.1, fun h => key.2.2.1 (key.2.1.mp h), fun h => ?_⟩
  cases hq : lastIn 10 (x.cps.toList.take p) 0 none with
  | none => exact absurd (key.2.1.mpr hq) h
  | some j => exact ⟨j, rfl, key.2.2.2 j hq⟩

theorem posn_succ {x : Str} {k cc : Nat} {rc : Int × Int} (hc : x.cps[k]? = some cc) : posn x (k + 1) rc = adv (posn x k rc) cc := by
  unfold posn
  have h : x.cps.toList[k]? = some cc := by simpa using hc
  rw [List.take_add_one, h, List.foldl_append]
  rfl

theorem skipTo (x : Str) (rc : Int × Int) : ∀ (m k : Nat), (∀ v, k ≤ v → v < k + m → x.cps.getD v 0 ≠ 92) → k + m ≤ x.length → wfb (x.cps.toList.drop k) = true →
    wfb (x.cps.toList.drop (k + m)) = true ∧ dueL (x.cps.toList.drop k) (posn x k rc) = dueL (x.cps.toList.drop (k + m)) (posn x (k + m) rc)
  | 0, k, _, _, hw => ⟨hw, rfl⟩
  | m + 1, k, hn, hk, hw => by
    have hks : k < x.cps.size := by have : k < x.length := by omega
                                    exact this
    have hc : x.cps[k]? = some x.cps[k] := Array.getElem?_eq_getElem hks
    have hne : x.cps[k] ≠ 92 := by
      have := hn k (Nat.le_refl _) (by omega)
      simpa [Array.getD, hks] using this
    rw [drop_at hc] at hw ⊢
    rw [dueL_ne hne, ← posn_succ hc]
    have ih := skipTo x rc m (k + 1) (fun v h1 h2 => hn v (by omega) (by omega)) (by omega) (wfb_ne hne hw)
    have e : k + 1 + m = k + (m + 1) := by omega
    rw [e] at ih
    exact ih

theorem fromIdx {n k : Nat} (h : k ≤ n) : fromIndex n (k : Int) = k := by
  unfold fromIndex
  rw [if_neg (by omega)]
  omega

theorem nextBs (x : Str) (k : Nat) (hk : k ≤ x.length) (hw : wfb (x.cps.toList.drop k) = true) (rc : Int × Int) :
    (Txt.find3 x (Str.ofString "\\") (k : Int) = -1 ∧ dueL (x.cps.toList.drop k) (posn x k rc) = []) ∨
    ∃ p d : Nat, Txt.find3 x (Str.ofString "\\") (k : Int) = (p : Int) ∧ k ≤ p ∧ x.cps[p]? = some 92 ∧ x.cps[p + 1]? = some d ∧ p + 2 ≤ x.length ∧ wfb (x.cps.toList.drop (p + 2)) = true ∧
      dueL (x.cps.toList.drop k) (posn x k rc) = (if valid d then [] else [(posn x p rc, d)]) ++ dueL (x.cps.toList.drop (p + 2)) (posn x (p + 2) rc) := by
  have eb : Str.ofString "\\" = ⟨#[92]⟩ := by decide
  rw [eb]
  have h := StrLaws.find3_spec x 92 (k : Int)
  rw [fromIdx hk] at h
  rcases h with ⟨h1, hn⟩ | ⟨p, h1, hkp, hpl, hp, hn⟩
  · left
    refine ⟨h1, ?_⟩
    have h2 := (skipTo x rc (x.length - k) k (fun v a b => hn v a (by omega)) (by omega) hw).2
    rw [h2]
    have e0 : x.cps.toList.drop (k + (x.length - k)) = [] := List.drop_of_length_le (by rw [Array.length_toList]; show x.length ≤ _; omega)
    rw [e0]; rfl
  · right
    obtain ⟨h3, h4⟩ := skipTo x rc (p - k) k (fun v a b => hn v a (by omega)) (by omega) hw
    have e : k + (p - k) = p := by omega
    rw [e] at h3 h4
    have hps : p < x.cps.size := hpl
    have hc : x.cps[p]? = some 92 := by
      rw [Array.getElem?_eq_getElem hps]
      have : x.cps.getD p 0 = 92 := hp
      simp [Array.getD, hps] at this
      rw [this]
    rw [drop_at hc] at h3
    obtain ⟨d, r', hr', hw'⟩ := wfb_92 h3
    have hd1 : x.cps[p + 1]? = some d := by
      have h5 : (x.cps.toList.drop (p + 1))[0]? = some d := by rw [hr']; rfl
      simpa using h5
    have hr2 : r' = x.cps.toList.drop (p + 2) := by
      have := drop_at hd1
      rw [hr'] at this
      exact (List.cons.inj this).2
    subst hr2
    have hp2 : p + 1 < x.cps.size := (Array.getElem?_eq_some_iff.mp hd1).1
    refine ⟨p, d, h1, hkp, hc, hd1, hp2, hw', ?_⟩
    rw [h4, drop_at hc, hr', dueL_92, posn_succ hd1, posn_succ hc]
end Mine

/- part 8 -/
namespace Mine
open PySem PySem.W PySem.Spec PySem.Calls PyProof.Rows PySem.Builtin PySem.Builtin.Str
theorem begins8 : True := by
  w_top off
  exact trivial
theorem gives_count4 (x y : Str) (i j : Int) (t u v r : Tok) : Gives («str.count» ⟨[.str x t, .str y u, .int i v, .int j r], []⟩) (.int (occurrences x y (fromIndex x.length i) (min (fromIndex x.length j) x.length) (x.length + 1)).length) := by
  show Gives (retInt (occurrences x y (fromIndex x.length i) (min (fromIndex x.length j) x.length) (x.length + 1)).length) _
  exact .of_eq rfl
theorem gives_rfind4 (x y : Str) (i j : Int) (t u v r : Tok) : Gives («str.rfind» ⟨[.str x t, .str y u, .int i v, .int j r], []⟩) (.int (match lastOccurrence x y (fromIndex x.length i) (min (fromIndex x.length j) x.length) with | some i => (i : Int) | none => -1)) := by
  show Gives (match lastOccurrence x y (fromIndex x.length i) (min (fromIndex x.length j) x.length) with | some i => retInt i | none => (do rule "str.rfind.not-found"; retInt (-1))) _
  cases lastOccurrence x y (fromIndex x.length i) (min (fromIndex x.length j) x.length) with
  | none => exact .rule (.of_eq rfl)
  | some i => exact .of_eq rfl
section
variable {prog : Program} {w : World} {A : Around} {E : Value → Shared → Prop} {s : Shared} {x : Str} {t u v r : Tok} {Q : Value → Shared → Prop}
theorem count4 {p cn : Nat} {j : Int} (hj : j = (p : Int)) (hp : p ≤ x.length) (hc : (occurrences x ⟨#[10]⟩ 0 p (x.length + 1)).length = cn) (hq : Q (.int (cn : Int) s.toks) { s with toks := s.toks + 1 }) :
    wpAny (model prog w) A (call (.builtin "str.count") [.str x t, .str (Str.ofString "\n") u, .int 0 v, .int j r]) Q E s := by
  subst hj
  have h := gives_count4 x (Str.ofString "\n") 0 (p : Int) t u v r
  have e1 : fromIndex x.length 0 = 0 := rfl
  have e2 : min (fromIndex x.length (p : Int)) x.length = p := by rw [fromIdx hp]; omega
  have e3 : Str.ofString "\n" = ⟨#[10]⟩ := by decide
  rw [e1, e2, e3, hc] at h
  rw [e3]
  exact call_gives F.slot_str_count (typeIs_str _ _ _) F.entry_str_count (F.args_str_count_4 _ _ _ _) h hq
theorem rfind4 {p : Nat} {j : Int} (hj : j = (p : Int)) (hp : p ≤ x.length) {k : Nat} (hk : lastOccurrence x ⟨#[10]⟩ 0 p = some k) (hq : Q (.int (k : Int) s.toks) { s with toks := s.toks + 1 }) :
    wpAny (model prog w) A (call (.builtin "str.rfind") [.str x t, .str (Str.ofString "\n") u, .int 0 v, .int j r]) Q E s := by
  subst hj
  have h := gives_rfind4 x (Str.ofString "\n") 0 (p : Int) t u v r
  have e1 : fromIndex x.length 0 = 0 := rfl
  have e2 : min (fromIndex x.length (p : Int)) x.length = p := by rw [fromIdx hp]; omega
  have e3 : Str.ofString "\n" = ⟨#[10]⟩ := by decide
  rw [e1, e2, e3, hk] at h
  rw [e3]
  exact call_gives F.slot_str_rfind (typeIs_str _ _ _) F.entry_str_rfind (F.args_str_rfind_4 _ _ _ _) h hq
end
end Mine

/- part 9 -/
namespace Mine
open PySem PySem.W PySem.Spec PySem.Calls PyProof.Rows PySem.Builtin PySem.Builtin.Str
theorem begins9 : True := by
  w_top off
  exact trivial
def fBody (i : Nat) : List Stmt := match PG.main.body[i]? with
  | some (.FunctionDef _ _ b _ _ _ _ _ _ _) => b
  | _ => []
def fScope (i : Nat) : Scope := match PG.main.body[i]? with
  | some (.FunctionDef _ _ _ _ _ _ sc _ _ _) => sc
  | _ => default
abbrev envG (C : Addr) : Env := envOf (Str.ofString "python_3000_invalid_escape_sequence") (fScope 5) C 44 (.ref 43)
def forBody : Stmt → List Stmt
  | .For _ _ b _ _ => b
  | _ => []
def forTarget : Stmt → Expr
  | .For t _ _ _ _ => t
  | e => .Name "" default
def ifBody : Stmt → List Stmt
  | .If _ b _ _ => b
  | _ => []
def whileTest : Stmt → Expr
  | .While t _ _ _ => t
  | _ => .Name "" default
def whileBody : Stmt → List Stmt
  | .While _ b _ _ => b
  | _ => []
def gFor : Stmt := (fBody 5).getD 2 (.Pass default)
/-- the while loop in the generator -/
def gWhile : Stmt := (ifBody ((ifBody ((forBody gFor).getD 1 (.Pass default))).getD 0 (.Pass default))).getD 2 (.Pass default)

section
variable {prog : Program} {w : World} {A : Around} {R : GenEnd} {Y : Protocol} {n : Nat} {s₀ : Shared} {fs : List Frame} {s : Shared} {env : Env}
theorem sgWhileLoop {test : Expr} {body : List Stmt} {K : Flow → Sem Fin} {H : Value → Sem Fin} {gd lv} {c : Code} {p : Pos}
    (h : wpAny (model prog w) (A.over (.whileLoop test body [] env) (backTo1 env K H gd lv c p :: fs)) (isTrue test env (eval test env)) (fun b s' =>
        if b = true then
          Seg (model prog w) A R Y n s₀ (.whileLoop test body [] env) ((execs body env).wrap (loopK (.whileLoop test body [] env)) (loopH env) id id) (backTo1 env K H gd lv c p :: fs) s'
        else Seg (model prog w) A R Y n s₀ c (K .next) fs s')
      (fun _ _ => False) s) :
    Seg (model prog w) A R Y n s₀ (.whileLoop test body [] env) ((model prog w).den (.whileLoop test body [] env)) (backTo1 env K H gd lv c p :: fs) s := by
  refine seg_whileLoop (wpAny_mono h (fun b s' hb => ?_) fun _ _ x => x.elim)
  cases b with
  | true =>
    rw [if_pos rfl] at hb ⊢
    exact (Sem.wrap_congr (execs body env) id id (K := loopK (.whileLoop test body [] env)) (H := loopH env) (fun f => by cases f <;> rfl) (fun e => rfl)) ▸ hb
  | false =>
    rw [if_neg Bool.false_ne_true] at hb ⊢
    exact seg_execs_nil (sgBack hb)
end

section
variable {M : Model} {A : Around} {R : GenEnd} {Y : Protocol} {n : Nat} {s₀ : Shared} {c : Code} {fs : List Frame} {s : Shared} {env : Env}
  {K : Flow → Sem Fin} {H : Value → Sem Fin} {gd : Bool → Bool} {lv : List Value → List Value}
theorem sgYield {e : Expr} {ypos pos : Pos} (hfs : splitAtGen fs = none) (hgd : gd false = false) (hfg : fs.any Frame.guarded = false)
    (h : wpAny M (A.over c fs) (eval e env) (fun v s' => ∀ kap : Resume → Shared → Prop, (∀ s'', Seg M A R Y n s'' c (K .next) fs s'' → kap (.send .none) s'') → Y n s₀ v s' kap) (fun _ _ => False) s)
    (hco : env.scope.isCoroutine = false := by rfl) (hi : interactive env = false := by rfl) :
    Seg M A R Y (n + 1) s₀ c ((exec (.Expr (.Yield (some e) ypos) pos) env).wrap K H gd lv) fs s :=
  seg_Expr_Yield hfs hgd hfg (wpAny_mono h (fun v s' hv kap hk => hv kap fun s'' hs => hk .none s'' hs) fun _ _ x => x.elim) hco hi
end

section
variable {w : World} {p : Program} {loose : List Str} {mean : ExcName → Option Value} {mg mb : Str → Option Value} {A : Around} {hb : Heap} {C S I : Addr} {oI : Obj} {ds : List Due}
variable {K : Flow → Sem Fin} {H : Value → Sem Fin} {fs : List Frame} {cc : Code} {pp : Pos}

theorem yield_put {g h : Heap} {L D1 D2 S pl It I : Addr} {ys : List Value} {c : Nat} {oP oT oI : Obj} {tl : Led} {t3 tr tc : Tok} {rc : Int × Int} {d : Nat} {dn : List Due}
    (N3 : News g L h ((D2, tupO [.ref D1, .str (msg d) t3]) :: (D1, tupO [.int rc.1 tr, .int rc.2 tc]) :: (pl, oP) :: (It, oT) :: (I, oI) :: (S, listOf ys.toArray c) :: tl)) (htl : Tups tl) (hdi : DueIn tl ys dn) :
    ∃ tl' : Led, News g L h ((pl, oP) :: (It, oT) :: (I, oI) :: (S, listOf ys.toArray c) :: tl') ∧ Tups tl' ∧ DueIn tl' (ys ++ [.ref D2]) (dn ++ [(rc, d)]) := by
  refine ⟨(D2, tupO [.ref D1, .str (msg d) t3]) :: (D1, tupO [.int rc.1 tr, .int rc.2 tc]) :: tl, fun p hp => N3 p ?_, ?_, ?_⟩
  · simp only [List.mem_cons] at hp ⊢
    rcases hp with h | h | h | h | h | h | h <;> simp [h]
  · intro p hp
    rcases List.mem_cons.mp hp with h | hp
    · rw [h]
    · rcases List.mem_cons.mp hp with h | hp
      · rw [h]
      · exact htl p hp
  · exact (hdi.mono fun p hp => .tail _ (.tail _ hp)).append (.cons ⟨_, _, _, _, _, rfl, .head _, .tail _ (.head _)⟩ .nil)
theorem woken {hb h h'' : Heap} {C S pl It I : Addr} {m : Str → Option Value} {ys : List Value} {v : Value} {c c'' : Nat} {oP oT oI : Obj} {tl : Led} (F : Fr hb C h m)
    (N : News hb C h ((pl, oP) :: (It, oT) :: (I, oI) :: (S, listOf ys.toArray c) :: tl)) (htl : Tups tl) (hPS : pl ≠ S) (hTS : It ≠ S) (hIS : I ≠ S)
    (hS : h''.get? S = some (listOf (ys ++ [v]).toArray c'')) (ho : ∀ b o, b ≠ S → h.get? b = some o → h''.get? b = some o) :
    Fr hb C h'' m ∧ News hb C h'' ((pl, oP) :: (It, oT) :: (I, oI) :: (S, listOf (ys ++ [v]).toArray c'') :: tl) := by
  have hm : (S, listOf ys.toArray c) ∈ ((pl, oP) :: (It, oT) :: (I, oI) :: (S, listOf ys.toArray c) :: tl : Led) := .tail _ (.tail _ (.tail _ (.head _)))
  have hs := N _ hm
  refine ⟨⟨F.ns.at' fun o e => ho C o (Ne.symm hs.2.1) e, fun b o e => ho b o (fun q => by rw [q, hs.2.2] at e; cases e) (F.keep b o e), F.above⟩, ?_⟩
  have step : ∀ q ∈ ((pl, oP) :: (It, oT) :: (I, oI) :: (S, listOf ys.toArray c) :: tl : Led), q.1 ≠ S → h''.get? q.1 = some q.2 ∧ q.1 ≠ C ∧ hb.get? q.1 = none := fun q hq hne => ⟨ho _ _ hne (N q hq).1, (N q hq).2⟩
  intro q hq
  rcases List.mem_cons.mp hq with h1 | hq
  · rw [h1]; exact step (pl, oP) (.head _) hPS
  rcases List.mem_cons.mp hq with h1 | hq
  · rw [h1]; exact step (It, oT) (.tail _ (.head _)) hTS
  rcases List.mem_cons.mp hq with h1 | hq
  · rw [h1]; exact step (I, oI) (.tail _ (.tail _ (.head _))) hIS
  rcases List.mem_cons.mp hq with h1 | hq
  · rw [h1]; exact ⟨hS, hs.2⟩
  · refine step q (.tail _ (.tail _ (.tail _ (.tail _ hq)))) fun e => ?_
    have h1 := (N q (.tail _ (.tail _ (.tail _ (.tail _ hq))))).1
    rw [e, hs.1] at h1
    have h3 := htl q hq
    rw [← Option.some.inj h1] at h3
    exact absurd (Value.type.inj h3) (by decide)
def escs : List Nat := [10, 92, 39, 34, 97, 98, 102, 110, 114, 116, 118, 48, 49, 50, 51, 52, 53, 54, 55, 120, 78, 117, 85]
theorem any_one (d : Nat) : ∀ l : List Nat, (l.map fun c => (⟨#[c]⟩ : Str)).any (· == ⟨#[d]⟩) = l.contains d
  | [] => rfl
  | c :: r => by
    rw [List.map_cons, List.any_cons, any_one d r, List.contains_cons]
    congr 1
    rw [Bool.eq_iff_iff, beq_iff_eq, beq_iff_eq]
    constructor
    · intro e; exact ((List.cons.inj (congrArg (fun z => z.cps.toList) e)).1).symm
    · intro e; rw [e]
theorem notin_valid {w : World} {A : Around} {E : Value → Shared → Prop} {s : Shared} {K : Frag} {hb : Heap} {C a : Addr} {m : Str → Option Value} {l : List Value} {n d : Nat} {t : Tok} {dd : Option Addr} {sl : Array (Option Value)} {Q : Value → Shared → Prop} (F : Fr hb C s.heap m) (X : K.In hb) (hl : K.lookup a = some ⟨.type "tuple", dd, .seq l.toArray n, sl⟩)
    (hi : StrsAre l (escs.map fun c => (⟨#[c]⟩ : Str))) (h : Q (.bool (!valid d)) s) : wpAny (model PG w) A (compareOp .NotIn (.str ⟨#[d]⟩ t) (.ref a)) Q E s := by
  refine notin_tuple_strs (tupK (X.keeps F.keep) hl) (by simpa using hi) ?_
  rw [any_one]
  exact h
local macro_rules | `(tactic| walk_at "compareOp NotIn") => `(tactic| (k_here; (with_reducible show wpAny _ _ (compareOp CmpOp.NotIn (Value.str _ _) (Value.ref 37)) _ _ _); k_dflt (refine' notin_valid ?F ?X ?l ?i ?_; (case F => k_asm); (case X => k_asm); (case l => k_is); (case i => with_unfolding_all (repeat (first | exact StrsAre.nil | refine StrsAre.cons _ _ ?_))))))
local macro_rules | `(tactic| walk_at "subscriptTail Name Name str int") => `(tactic| ((with_reducible show wpAny _ _ (subscriptTail _ _ (Value.str _ _) (Value.int _ _)) _ _ _); k_dflt (refine' strItem ?k1 ?k2 ?k3 ?_ ?k5 ?k6; (case k1 => omega); (case k2 => with_unfolding_all assumption); (case k3 => omega); (case k5 => with_unfolding_all rfl); (case k6 => (intro _; with_unfolding_all rfl))); (try dsimp only)))
local macro_rules | `(tactic| walk_at "call builtin:str.count") => `(tactic| (k_dflt (refine' count4 (p := ?p) ?j ?k ?c ?_; (case c => assumption); (case j => omega); (case k => omega))))
local macro_rules | `(tactic| walk_at "call builtin:str.rfind") => `(tactic| (k_dflt (refine' rfind4 (p := ?p) ?j ?k ?c ?_; (case c => assumption); (case j => omega); (case k => omega))))
abbrev WG (w : World) (A : Around) (hb : Heap) (C S I : Addr) (oI : Obj) (ds : List Due) (K : Flow → Sem Fin) (H : Value → Sem Fin) (fs : List Frame) (cc : Code) (pp : Pos) (x : Str) (tx t1 t2 t3 : Tok) (rc : Int × Int) (pl It : Addr) (oP oT : Obj) (rem : Nat) (fuel : Nat) : Prop :=
  ∀ (k : Nat) (s₀ s : Shared) (m : Str → Option Value) (ys : List Value) (dn : List Due) (tl : Led) (c : Nat) (tf : Tok),
      x.length + 1 - k ≤ fuel → k ≤ x.length → wfb (x.cps.toList.drop k) = true →
      m (Str.ofString "prefixes") = some (.ref pl) → m (Str.ofString "token_type") = some (.int 3 t3) → m (Str.ofString "text") = some (.str x tx) → m (Str.ofString "start_line") = some (.int rc.1 t1) → m (Str.ofString "start_col") = some (.int rc.2 t2) →
      m (Str.ofString "pos") = some (.int (Txt.find3 x (Str.ofString "\\") (k : Int)) tf) →
      Fr hb C s.heap m → News hb C s.heap ((pl, oP) :: (It, oT) :: (I, oI) :: (S, listOf ys.toArray c) :: tl) → Tups tl → DueIn tl ys dn →
      dn.length + (dueL (x.cps.toList.drop k) (posn x k rc)).length + rem = ds.length → (∃ rest, ds = dn ++ dueL (x.cps.toList.drop k) (posn x k rc) ++ rest) →
      s₀.heap.get? S = some (listOf ys.toArray c) → (∀ o, s₀.heap.get? I = some o → o = oI) → (∃ h' tk', s = { s₀ with heap := h', toks := tk' }) →
      Seg (model PG w) A (GR S I hb ds) (GY S I hb ds) ((dueL (x.cps.toList.drop k) (posn x k rc)).length + rem) s₀ (.whileLoop (whileTest gWhile) (whileBody gWhile) [] (envG C))
        ((model PG w).den (.whileLoop (whileTest gWhile) (whileBody gWhile) [] (envG C))) (backTo1 (envG C) K H id id cc pp :: fs) s

theorem genTail {x : Str} {tx t1 t2 t3 : Tok} {rc : Int × Int} {pl It : Addr} {oP oT : Obj} {rem fuel : Nat} (hx : x.length ≤ 64)
    (X : (Hd.heap_39 w.params).In hb) (T : Top p loose mean mg mb hb)
    (hpin : PySem.Challenge.rw_fh0024_01 = PySem.Challenge.rw_fh0024_01 ∧ Hd.heap_39 = Hd.heap_39)
    (ih : WG w A hb C S I oI ds K H fs cc pp x tx t1 t2 t3 rc pl It oP oT rem fuel)
    {q : Nat} {s₀ s : Shared} {m : Str → Option Value} {ys : List Value} {dn : List Due} {tl : Led} {c : Nat} {tf : Tok} (hfu : x.length + 1 - (q + 2) ≤ fuel) (hq2 : q + 2 ≤ x.length) (hw : wfb (x.cps.toList.drop (q + 2)) = true)
    (e1 : m (Str.ofString "prefixes") = some (.ref pl)) (e2 : m (Str.ofString "token_type") = some (.int 3 t3)) (e3 : m (Str.ofString "text") = some (.str x tx)) (e4 : m (Str.ofString "start_line") = some (.int rc.1 t1)) (e5 : m (Str.ofString "start_col") = some (.int rc.2 t2))
    (e6 : m (Str.ofString "pos") = some (.int ((q : Int) + 1) tf))
    (F : Fr hb C s.heap m) (N : News hb C s.heap ((pl, oP) :: (It, oT) :: (I, oI) :: (S, listOf ys.toArray c) :: tl)) (htl : Tups tl) (hdi : DueIn tl ys dn)
    (hn : dn.length + (dueL (x.cps.toList.drop (q + 2)) (posn x (q + 2) rc)).length + rem = ds.length) (hr : ∃ rest, ds = dn ++ dueL (x.cps.toList.drop (q + 2)) (posn x (q + 2) rc) ++ rest)
    (hS : s₀.heap.get? S = some (listOf ys.toArray c)) (hI : ∀ o, s₀.heap.get? I = some o → o = oI) (hs : ∃ h' tk', s = { s₀ with heap := h', toks := tk' }) :
    Seg (model PG w) A (GR S I hb ds) (GY S I hb ds) ((dueL (x.cps.toList.drop (q + 2)) (posn x (q + 2) rc)).length + rem) s₀ (.whileLoop (whileTest gWhile) (whileBody gWhile) [] (envG C))
        ((execs ((whileBody gWhile).drop 2) (envG C)).wrap (loopK (.whileLoop (whileTest gWhile) (whileBody gWhile) [] (envG C))) (loopH (envG C)) id id) (backTo1 (envG C) K H id id cc pp :: fs) s := by
  revert hpin
  k_fill
  intro _
  have F2 := frPut (frPut (frPut (frPut (frPut (frPut F (by exact e1)) (x := Str.ofString "token_type") (v := .int 3 t3) (by exact e2)) (x := Str.ofString "text") (v := .str x tx) (by exact e3)) (x := Str.ofString "start_line") (v := .int rc.1 t1) (by exact e4)) (x := Str.ofString "start_col") (v := .int rc.2 t2) (by exact e5)) (x := Str.ofString "pos") (v := .int ((q : Int) + 1) tf) (by exact e6)
  with_unfolding_all show Seg _ _ _ _ _ _ _ (Sem.wrap _ _ _ _ (execs (_ :: []) (envOf (Str.ofString "python_3000_invalid_escape_sequence") (Scope.mk _ _ _ _ _) C 44 (.ref 43)))) _ _
  refine seg_execs_cons (sgWrap ?_)
  k_steps
  dsimp only
  rename Fr _ _ _ _ => F8
  rename News _ _ _ _ => N8
  refine seg_execs_nil ?_
  have hq : (q : Int) + 1 + 1 = ((q + 2 : Nat) : Int) := by omega
  rw [hq] at F8
  refine seg_again rfl (ih (q + 2) s₀ _ _ ys dn tl c _ hfu hq2 hw (by rfl) (by rfl) (by rfl) (by rfl) (by rfl) (by rfl) F8 N8 htl hdi hn hr hS hI ?_)
  obtain ⟨ha, ta, hse⟩ := hs
  subst hse
  exact ⟨_, _, rfl⟩

theorem genWhile {x : Str} {tx t1 t2 t3 : Tok} {rc : Int × Int} {pl It : Addr} {oP oT : Obj} {rem : Nat} (hh : A.handled = none) (hx : x.length ≤ 64)
    (X : (Hd.heap_39 w.params).In hb) (T : Top p loose mean mg mb hb) (hfs : splitAtGen fs = none) (hfg : fs.any Frame.guarded = false) (hPS : pl ≠ S) (hTS : It ≠ S) (hIS : I ≠ S)
    (hpin : PySem.Challenge.rw_fh0024_01 = PySem.Challenge.rw_fh0024_01 ∧ Hd.heap_39 = Hd.heap_39)
    (hend : ∀ (s₀ s : Shared) (m : Str → Option Value) (ys : List Value) (dn : List Due) (tl : Led) (c : Nat),
      m (Str.ofString "prefixes") = some (.ref pl) → m (Str.ofString "token_type") = some (.int 3 t3) → m (Str.ofString "tokens") = m (Str.ofString "tokens") →
      Fr hb C s.heap m → News hb C s.heap ((pl, oP) :: (It, oT) :: (I, oI) :: (S, listOf ys.toArray c) :: tl) → Tups tl → DueIn tl ys dn → dn.length + rem = ds.length → (∃ rest, ds = dn ++ rest) →
      s₀.heap.get? S = some (listOf ys.toArray c) → (∀ o, s₀.heap.get? I = some o → o = oI) → (∃ h' tk', s = { s₀ with heap := h', toks := tk' }) →
      Seg (model PG w) A (GR S I hb ds) (GY S I hb ds) rem s₀ cc (K .next) fs s) :
    ∀ (fuel : Nat), WG w A hb C S I oI ds K H fs cc pp x tx t1 t2 t3 rc pl It oP oT rem fuel := by
  revert hpin
  k_fill
  intro _
  intro fuel
  induction fuel with
  | zero => intro k; intros; omega
  | succ fuel ih =>
    intro k s₀ s m ys dn tl c tf hfu hk hw e1 e2 e3 e4 e5 e6 F N htl hdi hn hr hS hI hs
    have F2 := frPut (frPut (frPut (frPut (frPut (frPut F (by exact e1)) (x := Str.ofString "token_type") (v := .int 3 t3) (by exact e2)) (x := Str.ofString "text") (v := .str x tx) (by exact e3)) (x := Str.ofString "start_line") (v := .int rc.1 t1) (by exact e4)) (x := Str.ofString "start_col") (v := .int rc.2 t2) (by exact e5)) (x := Str.ofString "pos") (v := .int (Txt.find3 x (Str.ofString "\\") (k : Int)) tf) (by exact e6)
    refine sgWhileLoop ?_
    with_unfolding_all show wpAny _ _ (PySem.isTrue (Expr.Compare _ _ _ _) (envOf (Str.ofString "python_3000_invalid_escape_sequence") (Scope.mk _ _ _ _ _) C 44 (.ref 43)) _) _ _ s
    rcases nextBs x k hk hw rc with ⟨hf, hd⟩ | ⟨q, d, hf, hkq, hcq, hcd, hq2, hwq, hd⟩
    · rw [hf] at F2
      k_steps
      rw [hd]
      simp only [List.length_nil, Nat.zero_add]
      rw [hd] at hn hr
      refine hend s₀ _ m ys dn tl c e1 e2 rfl F N htl hdi (by simpa using hn) (by simpa using hr) hS hI ?_
      obtain ⟨h', tk', rfl⟩ := hs
      exact ⟨h', _, rfl⟩
    · rw [hf] at F2
      k_steps
      with_unfolding_all show Seg _ _ _ _ _ _ _ (Sem.wrap _ _ _ _ (execs (_ :: _ :: _ :: []) (envOf (Str.ofString "python_3000_invalid_escape_sequence") (Scope.mk _ _ _ _ _) C 44 (.ref 43)))) _ _
      refine seg_execs_cons (sgWrap ?_)
      k_steps
      dsimp only
      refine seg_execs_cons (sgIf ?_)
      k_steps
      focus
        rename_i hv
        rw [hv] at hd
        simp only [if_true, List.nil_append] at hd
        rw [hd] at hn hr ⊢
        refine seg_execs_nil ?_
        rename Fr _ _ _ _ => F8
        rename News _ _ _ _ => N8
        refine genTail hx X T ⟨rfl, rfl⟩ ih (q := q) (by omega) hq2 hwq (by rfl) (by rfl) (by rfl) (by rfl) (by rfl) (by rfl) F8 N8 htl hdi hn hr hS hI ?_
        obtain ⟨ha, ta, hse⟩ := hs
        subst hse
        exact ⟨_, _, rfl⟩
      focus
        rename_i hv
        have hv : valid d = false := by simpa using hv
        rw [hv] at hd
        simp only [Bool.false_eq_true, if_false, List.singleton_append] at hd
        rw [hd] at hn hr ⊢
        have hpos := posn_spec x (q + 1) (by omega) rc
        generalize hcn : (occurrences x ⟨#[10]⟩ 0 (q + 1) (x.length + 1)).length = cn at hpos
        refine seg_execs_cons (sgWrap ?_)
        k_steps
        dsimp only
        refine seg_execs_cons (sgWrap ?_)
        have hsp : splitAtGen (backTo1 (envG C) K H id id cc pp :: fs) = none := by simp [splitAtGen, backTo1, hfs]
        have hsg : (backTo1 (envG C) K H id id cc pp :: fs).any Frame.guarded = false := by rw [List.any_cons, hfg]; rfl
        have hidx : ((posn x q rc, d) :: dueL (x.cps.toList.drop (q + 2)) (posn x (q + 2) rc)).length + rem = ((dueL (x.cps.toList.drop (q + 2)) (posn x (q + 2) rc)).length + rem) + 1 := by rw [List.length_cons]; omega
        rw [hidx]
        rcases Nat.eq_zero_or_pos cn with h0 | h0
        focus
          have hcol : rc.2 + ((q : Int) + 1) = (posn x (q + 1) rc).2 := by rw [hpos.2.1 h0]; omega
          k_steps
          all_goals (try (exfalso; omega))
          rename Fr _ _ _ _ => F5
          rw [hcol] at F5
        rotate_left
        focus
          obtain ⟨j, hj, hj2⟩ := hpos.2.2 (by omega)
          have hcol : ((q : Int) + 1) - (j : Int) - 1 = (posn x (q + 1) rc).2 := by rw [hj2]; omega
          k_steps
          all_goals (try (exfalso; omega))
          rename Fr _ _ _ _ => F5
          rw [hcol] at F5
        all_goals
          dsimp only
          refine seg_execs_cons (sgYield hsp rfl hsg ?_)
          k_steps
          rename News _ _ _ _ => N7
          rename Fr _ _ _ _ => F7
          rename_i kap hkap
          have hq0 := posn_succ (rc := rc) hcq
          have hq1 : rc.1 + (cn : Int) = (posn x q rc).1 := by rw [← hpos.1, hq0]; rfl
          have hq2' : (posn x (q + 1) rc).2 - 1 = (posn x q rc).2 := by rw [hq0]; simp [adv]
          rw [hq1, hq2'] at N7
          obtain ⟨tl8, N8, htl8, hdi8⟩ := yield_put N7 htl hdi
          have hlen := hdi.length
          rw [List.length_cons] at hn
          refine ⟨ys, c, hS, (N8 _ (.tail _ (.tail _ (.tail _ (.head _))))).1, fun o ho => ?_, F7.keep, ?_, by omega, fun s'' c'' hS'' hoth => hkap s'' ?_⟩
          · rw [hI o ho]; exact (N8 _ (.tail _ (.tail _ (.head _)))).1
          · obtain ⟨ha, ta, hse⟩ := hs
            subst hse
            exact ⟨_, _, rfl⟩
          · obtain ⟨F8, N9⟩ := woken F7 N8 htl8 hPS hTS hIS hS'' hoth
            refine seg_execs_nil ?_
            have hlen2 := hdi8.length
            refine genTail hx X T ⟨rfl, rfl⟩ ih (q := q) (by omega) hq2 hwq (by rfl) (by rfl) (by rfl) (by rfl) (by rfl) (by rfl) F8 N9 htl8 hdi8 (by simp; omega) ?_ hS'' ?_ ⟨_, _, rfl⟩
            · obtain ⟨rest, hrest⟩ := hr
              exact ⟨rest, by rw [hrest]; simp⟩
            · intro o ho
              have := (N9 _ (.tail _ (.tail _ (.head _)))).1
              rw [ho] at this
              exact Option.some.inj this
end
end Mine

/- part 10 -/
namespace Mine
open PySem PySem.W PySem.Spec PySem.Calls PyProof.Rows PySem.Builtin PySem.Builtin.Str
theorem begins10 : True := by
  w_top off
  exact trivial
abbrev Tk := Option (Str × (Int × Int) × Bool)
def dueOf : Tk → List Due
  | none => []
  | some (x, rc, raw) => if raw then [] else dueL x.cps.toList rc
structure TextOk (x : Str) (raw : Bool) : Prop where
  len : x.length ≤ 64
  pos : 1 ≤ x.length
  wf : wfb x.cps.toList = true
  asc : ∀ c ∈ x.cps.toList, c < 1114112
  has : (occurrences x (Txt.item x (-1)) 0 x.length 1).isEmpty = false
  pre : (occurrences (Txt.lower (Txt.slice x none (some (Txt.find x (Txt.item x (-1)))))) (Str.ofString "r") 0 (Txt.lower (Txt.slice x none (some (Txt.find x (Txt.item x (-1)))))).length 1).isEmpty = !raw
def TokAt (hb : Heap) (v : Value) : Tk → Prop
  | none => ∃ (a b e : Addr) (t1 t2 t3 : Tok), v = .ref a ∧ hb.get? a = some (tupO [.int 1 t1, .str (Str.ofString "x") t2, .ref b, .ref e, .str (Str.ofString "") t3])
  | some (x, rc, raw) => TextOk x raw ∧ ∃ (a b e : Addr) (t1 t2 t3 t4 t5 : Tok), v = .ref a ∧ hb.get? a = some (tupO [.int 3 t1, .str x t2, .ref b, .ref e, .str (Str.ofString "") t3]) ∧ hb.get? b = some (tupO [.int rc.1 t4, .int rc.2 t5])
inductive ToksAt (hb : Heap) : List Value → List Tk → Prop
  | nil : ToksAt hb [] []
  | cons {v vs t ts} : TokAt hb v t → ToksAt hb vs ts → ToksAt hb (v :: vs) (t :: ts)
abbrev FC (C It : Addr) : Code := .forLoop (forTarget gFor) (.ref It) (forBody gFor) [] (envG C)

abbrev FG (w : World) (A : Around) (hb : Heap) (C S I : Addr) (oI : Obj) (ds : List Due) (K : Flow → Sem Fin) (H : Value → Sem Fin) (cF : Code) (pF : Pos) (ta pl It : Addr) (tks : List Tk) (i : Nat) : Prop :=
  ∀ (s₀ s : Shared) (m : Str → Option Value) (ys : List Value) (dn : List Due) (tl : Led) (c np : Nat) (oT : Obj),
    oT.cls = .type "list_iterator" → oT.data = .fields #[.ref ta, .int (i : Int) 0] → m (Str.ofString "prefixes") = some (.ref pl) →
    Fr hb C s.heap m → News hb C s.heap ((pl, listOf ([] : List Value).toArray np) :: (It, oT) :: (I, oI) :: (S, listOf ys.toArray c) :: tl) → Tups tl → DueIn tl ys dn → ds = dn ++ tks.flatMap dueOf →
    s₀.heap.get? S = some (listOf ys.toArray c) → (∀ o, s₀.heap.get? I = some o → o = oI) → (∃ h' tk', s = { s₀ with heap := h', toks := tk' }) →
    Seg (model PG w) A (GR S I hb ds) (GY S I hb ds) (tks.flatMap dueOf).length s₀ (FC C It) ((model PG w).den (FC C It)) [backTo1 (envG C) K H id id cF pF] s

section
variable {w : World} {p : Program} {loose : List Str} {mean : ExcName → Option Value} {mg mb : Str → Option Value} {A : Around} {hb : Heap} {C S I : Addr} {oI : Obj} {ds : List Due}
variable {K : Flow → Sem Fin} {H : Value → Sem Fin} {cF : Code} {pF : Pos}

theorem offP {hb h : Heap} {C pl It I S : Addr} {ys vs : List Value} {c np : Nat} {oT oI : Obj} {tl : Led} (N : News hb C h ((pl, listOf vs.toArray np) :: (It, oT) :: (I, oI) :: (S, listOf ys.toArray c) :: tl)) (htl : Tups tl) (n1 : It ≠ pl) (n2 : I ≠ pl) (n3 : S ≠ pl) :
    ∀ p ∈ ((It, oT) :: (I, oI) :: (S, listOf ys.toArray c) :: tl : Led), p.1 ≠ pl := by
  intro q hq
  rcases List.mem_cons.mp hq with h | hq'
  · rw [h]; exact n1
  rcases List.mem_cons.mp hq' with h | hq'
  · rw [h]; exact n2
  rcases List.mem_cons.mp hq' with h | hq'
  · rw [h]; exact n3
  · intro e
    have h1 := (N q (.tail _ hq)).1
    rw [e, (N _ (.head _)).1] at h1
    have h3 := htl q hq'
    rw [← Option.some.inj h1] at h3
    exact absurd (Value.type.inj h3) (by decide)
local macro_rules | `(tactic| k_all) => `(tactic| assumption)
theorem genEnd {ta pl It : Addr} {tks : List Tk} {i : Nat} {t3 : Tok}
    (X : (Hd.heap_39 w.params).In hb) (T : Top p loose mean mg mb hb)
    (hpin : PySem.Challenge.rw_fh0024_01 = PySem.Challenge.rw_fh0024_01 ∧ Hd.heap_39 = Hd.heap_39)
    (ih : FG w A hb C S I oI ds K H cF pF ta pl It tks i)
    {s₀ s : Shared} {m : Str → Option Value} {ys : List Value} {dn : List Due} {tl : Led} {c np : Nat} {oT : Obj} {lm : Str} {tm : Tok}
    (hc : oT.cls = .type "list_iterator") (hd : oT.data = .fields #[.ref ta, .int (i : Int) 0])
    (e1 : m (Str.ofString "prefixes") = some (.ref pl)) (e2 : m (Str.ofString "token_type") = some (.int 3 t3))
    (F : Fr hb C s.heap m) (N : News hb C s.heap ((pl, listOf [.str lm tm].toArray np) :: (It, oT) :: (I, oI) :: (S, listOf ys.toArray c) :: tl)) (htl : Tups tl) (hdi : DueIn tl ys dn)
    (hr : ds = dn ++ tks.flatMap dueOf)
    (hS : s₀.heap.get? S = some (listOf ys.toArray c)) (hI : ∀ o, s₀.heap.get? I = some o → o = oI) (hs : ∃ h' tk', s = { s₀ with heap := h', toks := tk' })
    (n1 : It ≠ pl) (n2 : I ≠ pl) (n3 : S ≠ pl) :
    Seg (model PG w) A (GR S I hb ds) (GY S I hb ds) (tks.flatMap dueOf).length s₀ (FC C It)
        ((execs ((forBody gFor).drop 2) (envG C)).wrap (loopK (FC C It)) (loopH (envG C)) id id) [backTo1 (envG C) K H id id cF pF] s := by
  revert hpin
  k_fill
  intro _
  have F2 := frPut (frPut F (by exact e1)) (x := Str.ofString "token_type") (v := .int 3 t3) (by exact e2)
  with_unfolding_all show Seg _ _ _ _ _ _ _ (Sem.wrap _ _ _ _ (execs (_ :: []) (envOf (Str.ofString "python_3000_invalid_escape_sequence") (Scope.mk _ _ _ _ _) C 44 (.ref 43)))) _ _
  refine seg_execs_cons (sgIf ?_)
  k_steps
  have hall := offP N htl n1 n2 n3
  refine seg_execs_cons (sgWrap ?_)
  k_steps
  dsimp only
  refine seg_execs_nil ?_
  refine seg_execs_nil ?_
  rename Fr _ _ _ _ => F8
  rename News _ _ _ _ => N8
  refine seg_again rfl (ih s₀ _ _ ys dn tl c _ oT hc hd (by rfl) F8 N8 htl hdi hr hS hI ?_)
  obtain ⟨ha, ta, hse⟩ := hs
  subst hse
  exact ⟨_, _, rfl⟩

theorem toksAt_get {hb : Heap} : ∀ {vs : List Value} {ts : List Tk}, ToksAt hb vs ts → ∀ {t ts'}, ts = t :: ts' → ∃ v vs', vs = v :: vs' ∧ TokAt hb v t ∧ ToksAt hb vs' ts'
  | _, _, .cons h1 h2, _, _, e => by
    cases e
    exact ⟨_, _, rfl, h1, h2⟩
theorem letGo {M : Model} {A : Around} {E : Value → Shared → Prop} {s : Shared} {es : List PySem.Expr} {k : Nat} {pos : Pos} {r a : Addr} {oT : Obj} {vs : Array Value} {Q : Unit → Shared → Prop} (ho : s.heap.get? r = some oT) (hc : oT.cls = .type "list_iterator") (hd : oT.data = .fields vs) (h : Q () s) :
    wpAny M A (letOwnedTupleGo (.Tuple es k pos) (.ref r) (.ref a)) Q E s := by
  obtain ⟨c, d, dt, sl⟩ := oT
  dsimp only at hc hd
  subst hc hd
  unfold letOwnedTupleGo
  refine wpAny_bind (wpAny_load ho ?_)
  dsimp only
  rw [if_neg (by simp)]
  exact wpAny_pure h
theorem pastIt {hb h h' : Heap} {C pl It I S ta : Addr} {m : Str → Option Value} {vs : List Value} {ys : List Value} {c np i : Nat} {oT oI : Obj} {tl : Led} (F : Fr hb C h m)
    (N : News hb C h ((pl, listOf vs.toArray np) :: (It, oT) :: (I, oI) :: (S, listOf ys.toArray c) :: tl)) (htl : Tups tl) (hc : oT.cls = .type "list_iterator") (n1 : It ≠ pl) (hTS : It ≠ S) (hTI : I ≠ It)
    (hs : Heap.SameBut It h h') (hit : h'.IsListIter It ta i) :
    ∃ oT' : Obj, oT'.cls = .type "list_iterator" ∧ oT'.data = .fields #[.ref ta, .int (i : Int) 0] ∧ Fr hb C h' m ∧ News hb C h' ((pl, listOf vs.toArray np) :: (It, oT') :: (I, oI) :: (S, listOf ys.toArray c) :: tl) := by
  obtain ⟨o, ho, hoc, hod⟩ := hit
  have hz := N (It, oT) (.tail _ (.head _))
  refine ⟨o, hoc, hod, F.change hs hz.2.1 hz.2.2, ?_⟩
  have step : ∀ q ∈ ((pl, listOf vs.toArray np) :: (It, oT) :: (I, oI) :: (S, listOf ys.toArray c) :: tl : Led), q.1 ≠ It → h'.get? q.1 = some q.2 ∧ q.1 ≠ C ∧ hb.get? q.1 = none :=
    fun q hq hne => ⟨hs.extBut _ _ hne (N q hq).1, (N q hq).2⟩
  intro q hq
  rcases List.mem_cons.mp hq with h1 | hq
  · rw [h1]; exact step (pl, _) (.head _) (Ne.symm n1)
  rcases List.mem_cons.mp hq with h1 | hq
  · rw [h1]; exact ⟨ho, hz.2⟩
  rcases List.mem_cons.mp hq with h1 | hq
  · rw [h1]; exact step (I, oI) (.tail _ (.tail _ (.head _))) hTI
  rcases List.mem_cons.mp hq with h1 | hq
  · rw [h1]; exact step (S, _) (.tail _ (.tail _ (.tail _ (.head _)))) (Ne.symm hTS)
  · refine step q (.tail _ (.tail _ (.tail _ (.tail _ hq)))) fun e => ?_
    have h1 := (N q (.tail _ (.tail _ (.tail _ (.tail _ hq))))).1
    rw [e, hz.1] at h1
    have h3 := htl q hq
    rw [← Option.some.inj h1, hc] at h3
    exact absurd (Value.type.inj h3) (by decide)

theorem genFor {ta pl It : Addr} {items : List Value} {n0 : Nat} (hh : A.handled = none)
    (X : (Hd.heap_39 w.params).In hb) (T : Top p loose mean mg mb hb)
    (hpin : PySem.Challenge.rw_fh0024_01 = PySem.Challenge.rw_fh0024_01 ∧ Hd.heap_39 = Hd.heap_39)
    (hta : hb.get? ta = some (listOf items.toArray n0)) (n1 : It ≠ pl) (n2 : I ≠ pl) (n3 : S ≠ pl) (hTS : It ≠ S) (hIS : I ≠ S) (hTI : I ≠ It)
    (hend : ∀ (s₀ s : Shared) (m : Str → Option Value) (ys : List Value) (tl : Led) (c : Nat), Fr hb C s.heap m → News hb C s.heap ((I, oI) :: (S, listOf ys.toArray c) :: tl) → Tups tl → DueIn tl ys ds →
      s₀.heap.get? S = some (listOf ys.toArray c) → (∀ o, s₀.heap.get? I = some o → o = oI) → (∃ h' tk', s = { s₀ with heap := h', toks := tk' }) → Seg (model PG w) A (GR S I hb ds) (GY S I hb ds) 0 s₀ cF (K .next) [] s) :
    ∀ (tks : List Tk) (i : Nat), ToksAt hb (items.drop i) tks → FG w A hb C S I oI ds K H cF pF ta pl It tks i := by
  obtain ⟨hd0, dp0, fr0, gd0, un0⟩ := A
  subst hh
  revert hpin
  k_fill
  intro _
  intro tks
  induction tks with
  | nil =>
    intro i hI s₀ s m ys dn tl c np oT hc hd e1 F N htl hdi hr hS hI' hs
    have hnone : items.toArray[i]? = none := by
      generalize hq : items.drop i = l at hI
      cases hI
      simpa using (List.drop_eq_nil_iff.mp hq)
    have hit : s.heap.IsListIter It ta i := ⟨oT, (N _ (.tail _ (.head _))).1, hc, hd⟩
    have hl : s.heap.IsList ta items.toArray := ⟨_, F.keep _ _ hta, rfl, n0, rfl⟩
    refine sgForLoop (wpAny_pyNext_list_end rfl hit hl hnone fun h' he => ?_)
    have hz := N (It, oT) (.tail _ (.head _))
    have F' : Fr hb C h' m := ⟨F.ns.at' fun o e => he C o (Ne.symm hz.2.1) e, fun b o e => he b o (fun q => by rw [q, hz.2.2] at e; cases e) (F.keep b o e), F.above⟩
    have hr2 : ds = dn := by simpa using hr
    refine hend s₀ _ m ys tl c F' (fun q hq => ?_) htl (hr2 ▸ hdi) hS hI' ?_
    · have hm : q ∈ ((pl, listOf ([] : List Value).toArray np) :: (It, oT) :: (I, oI) :: (S, listOf ys.toArray c) :: tl : Led) := .tail _ (.tail _ hq)
      refine ⟨he _ _ (fun e => ?_) (N q hm).1, (N q hm).2⟩
      rcases List.mem_cons.mp hq with h | hq'
      · rw [h] at e; exact hTI e
      rcases List.mem_cons.mp hq' with h | hq'
      · rw [h] at e; exact hTS e.symm
      · have h1 := (N q hm).1
        rw [e, hz.1] at h1
        have h3 := htl q hq'
        rw [← Option.some.inj h1, hc] at h3
        exact absurd (Value.type.inj h3) (by decide)
    · obtain ⟨ha, ta, hse⟩ := hs
      subst hse
      exact ⟨_, _, rfl⟩
  | cons t ts ih =>
    intro i hI s₀ s m ys dn tl c np oT hc hd e1 F N htl hdi hr hS hI' hs
    obtain ⟨v, vs', hv, htk, hts⟩ := toksAt_get hI rfl
    have hx : items.toArray[i]? = some v := by
      have h1 : (items.drop i)[0]? = some v := by rw [hv]; rfl
      simpa using h1
    have hts' : ToksAt hb (items.drop (i + 1)) ts := by
      have : items.drop (i + 1) = vs' := by rw [← List.drop_drop, hv]; rfl
      rw [this]; exact hts
    have hit : s.heap.IsListIter It ta i := ⟨oT, (N _ (.tail _ (.head _))).1, hc, hd⟩
    have hl : s.heap.IsList ta items.toArray := ⟨_, F.keep _ _ hta, rfl, n0, rfl⟩
    refine sgForLoop (wpAny_pyNext_list_item hit hl hx fun h' hit' hs' => ?_)
    obtain ⟨oT', hc', hd', F1, N1⟩ := pastIt F N htl hc n1 hTS hTI hs' hit'
    have F2 := frPut F1 (by exact e1)
    clear F F1 N hit hl
    cases t with
    | none =>
      obtain ⟨a, b, e, t1, t2, t3, rfl, ha⟩ := htk
      have hTa : IsTup hb a #[.int 1 t1, .str (Str.ofString "x") t2, .ref b, .ref e, .str (Str.ofString "") t3] := ⟨_, ha, rfl, _, rfl⟩
      with_unfolding_all show wpAny _ _ (letOwnedTupleGo (Expr.Tuple _ _ _) _ _) _ _ _
      refine letGo (N1 _ (.tail _ (.head _))).1 hc' hd' ?_
      with_unfolding_all show wpAny _ _ (assign (Expr.Tuple _ _ _) (envOf (Str.ofString "python_3000_invalid_escape_sequence") (Scope.mk _ _ _ _ _) C 44 (.ref 43)) _) _ _ _
      k_steps
      have hfl : (none :: ts : List Tk).flatMap dueOf = ts.flatMap dueOf := by simp [dueOf]
      rw [hfl] at hr ⊢
      with_unfolding_all show Seg _ _ _ _ _ _ _ (Sem.wrap _ _ _ _ (execs (_ :: _ :: _ :: []) (envOf (Str.ofString "python_3000_invalid_escape_sequence") (Scope.mk _ _ _ _ _) C 44 (.ref 43)))) _ _
      refine seg_execs_cons (sgIf ?_)
      k_steps
      refine seg_execs_nil ?_
      dsimp only
      refine seg_execs_cons (sgIf ?_)
      k_steps
      refine seg_execs_nil ?_
      dsimp only
      refine seg_execs_cons (sgIf ?_)
      k_steps
      refine seg_execs_nil ?_
      dsimp only
      refine seg_execs_nil ?_
      rename Fr _ _ _ _ => F8
      rename News _ _ _ _ => N8
      refine seg_again rfl (ih (i + 1) hts' s₀ _ _ ys dn tl c np oT' hc' hd' (by rfl) F8 N8 htl hdi hr hS hI' ?_)
      obtain ⟨ha, ta, hse⟩ := hs
      subst hse
      exact ⟨_, _, rfl⟩
    | some q =>
      obtain ⟨x, rc, raw⟩ := q
      obtain ⟨hok, a, b, e, t1, t2, t3, t4, t5, rfl, ha, hbb⟩ := htk
      have hall := offP N1 htl n1 n2 n3
      have hTa : IsTup hb a #[.int 3 t1, .str x t2, .ref b, .ref e, .str (Str.ofString "") t3] := ⟨_, ha, rfl, _, rfl⟩
      have hTb : IsTup hb b #[.int rc.1 t4, .int rc.2 t5] := ⟨_, hbb, rfl, _, rfl⟩
      with_unfolding_all show wpAny _ _ (letOwnedTupleGo (Expr.Tuple _ _ _) _ _) _ _ _
      refine letGo (N1 _ (.tail _ (.head _))).1 hc' hd' ?_
      with_unfolding_all show wpAny _ _ (assign (Expr.Tuple _ _ _) (envOf (Str.ofString "python_3000_invalid_escape_sequence") (Scope.mk _ _ _ _ _) C 44 (.ref 43)) _) _ _ _
      k_steps
      obtain ⟨hxl, hx1, hxw, _, hhas, hraw⟩ := hok
      with_unfolding_all show Seg _ _ _ _ _ _ _ (Sem.wrap _ _ _ _ (execs (_ :: _ :: _ :: []) (envOf (Str.ofString "python_3000_invalid_escape_sequence") (Scope.mk _ _ _ _ _) C 44 (.ref 43)))) _ _
      refine seg_execs_cons (sgIf ?_)
      k_steps
      refine seg_execs_cons (sgWrap ?_)
      k_steps
      generalize Txt.lower (Txt.slice x none (some (Txt.find x (Txt.item x (-1))))) = lm at *
      try dsimp only
      refine seg_execs_nil ?_
      dsimp only
      refine seg_execs_cons (sgIf ?_)
      k_steps
      refine seg_execs_cons (sgIf ?_)
      k_steps
      focus
        rename_i hocc
        have hrw : raw = false := by rw [hocc] at hraw; simpa using hraw.symm
        subst hrw
        have hfl : (some (x, rc, false) :: ts : List Tk).flatMap dueOf = dueL x.cps.toList rc ++ ts.flatMap dueOf := by simp [dueOf]
        rw [hfl] at hr ⊢
        refine seg_execs_cons (sgWrap ?_)
        k_steps
        dsimp only
        refine seg_execs_cons (sgWrap ?_)
        k_steps
        dsimp only
        refine seg_execs_cons (sgWhile fun pp => ?_)
        rename Fr _ _ _ _ => F8
        rename News _ _ _ _ => N8
        have hfd : Txt.find x (Str.ofString "\\") = Txt.find3 x (Str.ofString "\\") ((0 : Nat) : Int) := find_is_find3 x (Str.ofString "\\")
        rw [hfd] at F8
        have hd0 : dueL x.cps.toList rc = dueL (x.cps.toList.drop 0) (posn x 0 rc) := rfl
        rw [hd0] at hr ⊢
        rw [List.length_append]
        have hdl := hdi.length
        refine genWhile (t1 := t4) (t2 := t5) (t3 := t1) (tx := t2) rfl hxl X T rfl rfl (Ne.symm n3) hTS hIS ⟨rfl, rfl⟩ ?_ (x.length + 1) 0 s₀ _ _ ys dn tl c _ (by omega) (Nat.zero_le _) hxw (by rfl) (by rfl) (by rfl) (by rfl) (by rfl) (by rfl) F8 N8 htl hdi (by rw [hr]; simp; omega) ⟨_, by rw [hr, List.append_assoc]⟩ hS hI' ?_
        · intro s₀ s m ys dn' tl c e1 e2 _ F N htl hdi hn hr' hS hI hs
          dsimp only
          refine seg_execs_nil ?_
          dsimp only
          refine seg_execs_nil ?_
          have hr2 : ds = dn' ++ ts.flatMap dueOf := by
            obtain ⟨rest, hrest⟩ := hr'
            rw [hrest] at hr ⊢
            rw [← List.append_assoc] at hr
            have h3 := congrArg List.length hrest
            simp only [List.length_append] at h3
            have h4 : dn'.length = (dn ++ dueL (x.cps.toList.drop 0) (posn x 0 rc)).length := by
              have h5 := congrArg List.length hr
              simp only [List.length_append] at h5 ⊢
              omega
            rw [(List.append_inj hr h4).2]
          exact genEnd X T ⟨rfl, rfl⟩ (ih (i + 1) hts') hc' hd' e1 e2 F N htl hdi hr2 hS hI hs n1 n2 n3
        · obtain ⟨ha, ta, hse⟩ := hs
          subst hse
          exact ⟨_, _, rfl⟩
      focus
        rename_i hocc
        have hrw : raw = true := by rw [hocc] at hraw; simpa using hraw.symm
        subst hrw
        have hfl : (some (x, rc, true) :: ts : List Tk).flatMap dueOf = ts.flatMap dueOf := by simp [dueOf]
        rw [hfl] at hr ⊢
        rename Fr _ _ _ _ => F8
        rename News _ _ _ _ => N8
        refine seg_execs_nil ?_
        dsimp only
        refine seg_execs_nil ?_
        refine genEnd X T ⟨rfl, rfl⟩ (ih (i + 1) hts') hc' hd' (by rfl) (by rfl) F8 N8 htl hdi hr hS hI' ?_ n1 n2 n3
        obtain ⟨ha, ta, hse⟩ := hs
        subst hse
        exact ⟨_, _, rfl⟩
end
end Mine

/- part 11 -/
namespace Mine
open PySem PySem.W PySem.Spec PySem.Calls PyProof.Rows PySem.Builtin PySem.Builtin.Str
theorem begins11 : True := by
  w_top off
  exact trivial
section
variable {w : World} {p : Program} {loose : List Str} {mean : ExcName → Option Value} {mg mb : Str → Option Value} {A : Around} {hb : Heap} {C S I ta : Addr} {oI : Obj} {ds : List Due} {m₀ : Str → Option Value}
local macro_rules | `(tactic| walk_at "pyIter ref") => `(tactic| refine Stop.of ?_)

theorem swap2 {hb h : Heap} {C : Addr} {a b : Addr × Obj} {l : Led} (N : News hb C h (a :: b :: l)) : News hb C h (b :: a :: l) := by
  intro q hq
  rcases List.mem_cons.mp hq with h | hq
  · rw [h]; exact N b (.tail _ (.head _))
  rcases List.mem_cons.mp hq with h | hq
  · rw [h]; exact N a (.head _)
  · exact N q (.tail _ (.tail _ hq))

theorem genSeg {silent : Bool} {items : List Value} {tks : List Tk} {n0 : Nat} {s : Shared} {c : Nat} (hh : A.handled = none)
    (X : (Hd.heap_39 w.params).In hb) (T : Top p loose mean mg mb hb)
    (F : Fr hb C s.heap m₀) (N : News hb C s.heap [(I, oI), (S, listOf ([] : List Value).toArray c)])
    (h1 : m₀ (Str.ofString "tokens") = some (.ref ta)) (h2 : m₀ (Str.ofString "noqa") = some (.bool silent))
    (hta : hb.get? ta = some (listOf items.toArray n0)) (htk : ToksAt hb items tks) (hIS : I ≠ S) (hds : ds = if silent then [] else tks.flatMap dueOf)
    (hpin : PySem.Challenge.rw_fh0024_01 = PySem.Challenge.rw_fh0024_01 ∧ Hd.heap_39 = Hd.heap_39) :
    Seg (model PG w) A (GR S I hb ds) (GY S I hb ds) ds.length s (.func (fBody 5) (envG C)) ((model PG w).den (.func (fBody 5) (envG C))) [] s := by
  obtain ⟨hd0, dp0, fr0, gd0, un0⟩ := A
  subst hh
  revert hpin
  k_fill
  intro _
  refine seg_func ?_
  with_unfolding_all show Seg _ _ _ _ _ s _ (Sem.wrap _ _ _ _ (execs (_ :: _ :: _ :: []) (envOf (Str.ofString "python_3000_invalid_escape_sequence") (Scope.mk _ _ _ _ _) C 44 (.ref 43)))) [] s
  have F2 := frPut (frPut F (x := Str.ofString "tokens") (v := .ref ta) (by exact h1)) (x := Str.ofString "noqa") (v := .bool silent) (by exact h2)
  clear F
  have hS0 := (N _ (.tail _ (.head _))).1
  have hI0 := (N _ (.head _)).1
  refine seg_execs_cons (sgIf ?_)
  cases silent with
  | true =>
    k_steps
    refine seg_execs_cons (sgWrap ?_)
    k_steps
    subst hds
    refine seg_end (.ok (.ret .none)) ⟨rfl, rfl, ⟨[], c, ?_, ?_, [], (fun _ h => nomatch h), (fun _ h => nomatch h), .nil⟩, F2.keep, ⟨_, _, rfl⟩⟩
    · exact hS0
    · exact hS0
  | false =>
    k_steps
    refine seg_execs_nil ?_
    dsimp only
    refine seg_execs_cons (sgWrap ?_)
    k_steps
    dsimp only
    refine seg_execs_cons (sgFor ?_)
    k_steps
    refine Stop.mk ?_
    rename Fr _ _ _ _ => F5
    rename News _ _ _ _ => N5
    rename_i pl _ hpl h5
    have hl : h5.IsList ta items.toArray := ⟨_, F5.keep _ _ hta, rfl, n0, rfl⟩
    refine wpAny_pyIter_list hl fun pp => ?_
    have hIt : ∀ q o, h5.get? q = some o → q ≠ h5.objs.size := fun q o e => Nat.ne_of_lt (Heap.lt_size e)
    have m1 := (N5 _ (.head _)).1
    have m2 := (N5 _ (.tail _ (.head _))).1
    have m3 := (N5 _ (.tail _ (.tail _ (.head _)))).1
    have N6 := News.push F5 N5 ({ cls := .type "list_iterator", data := .fields #[.ref ta, .int 0 0] } : Obj)
    have F6 := F5.push ({ cls := .type "list_iterator", data := .fields #[.ref ta, .int 0 0] } : Obj)
    have hpl1 : I < pl := hpl.1
    have hpl2 : S < pl := hpl.2
    subst hds
    refine genFor (pl := pl) (It := h5.objs.size) rfl X T ⟨rfl, rfl⟩ hta (Ne.symm (hIt _ _ m1)) (Nat.ne_of_lt hpl1) (Nat.ne_of_lt hpl2) (Ne.symm (hIt _ _ m3)) hIS (hIt _ _ m2) ?_ tks 0 htk s _ _ [] [] [] c _ ({ cls := .type "list_iterator", data := .fields #[.ref ta, .int 0 0] } : Obj) rfl rfl (by rfl) F6 (swap2 N6) (fun _ h => nomatch h) .nil (by simp) hS0 ?_ ⟨_, _, rfl⟩
    · intro s₀ s m ys tl c F N htl hdi hS hI hs
      refine seg_execs_nil ?_
      refine seg_end (.ok (.ret .none)) ⟨rfl, rfl, ⟨ys, c, hS, (N _ (.tail _ (.head _))).1, tl, (fun q hq => ⟨(N q (.tail _ (.tail _ hq))).1, (N q (.tail _ (.tail _ hq))).2.2⟩), htl, hdi⟩, F.keep, hs⟩
    · intro o ho
      rw [ho] at hI0
      exact Option.some.inj hI0
end
end Mine

/- part 12 -/
namespace Mine
open PySem PySem.W PySem.Spec PySem.Calls PyProof.Rows PySem.Builtin PySem.Builtin.Str
theorem begins12 : True := by
  w_top off
  exact trivial
section
variable {w : World} {p : Program} {loose : List Str} {mean : ExcName → Option Value} {mg mb : Str → Option Value} {A : Around} {h₀ : Heap} {L ta : Addr} {ds : List Due} {m : Str → Option Value} {E : Value → Shared → Prop} {s : Shared} {Q : Value → Shared → Prop}
abbrev genO (g tk : Nat) : Obj := { cls := .type "generator", data := .fields #[.int g 0, .str (Str.ofString "python_3000_invalid_escape_sequence") tk, .str (Str.ofString "python_3000_invalid_escape_sequence") (tk + 1)] }
theorem gen_code {R : Result → Shared → Prop} {K : Frag} {name qual : Str} {params : Arguments} {body : List Stmt} {scope : Scope} {dV kV doc pm cdv ct oc : Value} {an od : Option Addr} {osl : Array (Option Value)} {f : Addr} {args : Args} {binds : List (Str × Value)}
    (X : K.In s.heap) (hl : s.heap.NoLimit)
    (ho : K.lookup f = some ⟨oc, od, .func (fnOf name qual params body scope dV kV doc pm an cdv ct), osl⟩) (hcd : codeIn K cdv qual = true) (hroom : A.depth < recursionLimit)
    (hbind : BindsTo s (fnOf name qual params body scope dV kV doc pm an cdv ct) args binds) (hloc : ∀ y ∈ binds, scope.names.lookup y.1 = some .local)
    (h : ∀ (h₁ : Heap) (tk' : Nat), h₁.Ns s.heap.objs.size (fun y => binds.reverse.lookup y) → (∀ b o, s.heap.get? b = some o → h₁.get? b = some o) → s.heap.objs.size < h₁.objs.size →
      R (.ok (.ret (.ref h₁.objs.size))) { s with gens := s.gens.push (.fresh (.func body (envOf qual scope s.heap.objs.size f cdv))), toks := tk' + 1 + 1, heap := h₁.push { cls := .type "generator", data := .fields #[.int s.gens.size 0, .str name tk', .str qual (tk' + 1)] } })
    (hco : scope.isCoroutine = false) (hgen : scope.isGenerator = true) (hk : scope.kind = .function)
    (hcell : ∀ x ∈ scope.names, x.2 ≠ .cell) : codeAny (model PG w) A (.call (.ref f) args) R s := by
  refine codeAny_call_generator (fd := fnOf name qual params body scope dV kV doc pm an cdv ct) (body := body) hroom (X _ _ ho) rfl hco hgen rfl (codeRec_of X hcd) ?_
  refine hbind _ _ _ _ ?_
  refine wpAny_newFunctionEnv hcell hloc (fun h' hn hs => ?_) hk
  have hkeep : ∀ b o, s.heap.get? b = some o → h'.get? b = some o := fun b o e => (hs.2 b (Nat.ne_of_lt (Heap.lt_size e))).trans (Heap.get?_push_of_some _ e)
  exact ⟨hl.keeps hkeep, h h' _ hn hkeep hn.lt⟩

theorem gen_spec {news : Led} {silent : Bool} {items : List Value} {tks : List Tk} {n0 : Nat} {x : Str} {t : Tok} (F : Fr h₀ L s.heap m) (X : (Hd.heap_39 w.params).In h₀) (N : News h₀ L s.heap news) (T : Top p loose mean mg mb h₀)
    (hroom : A.depth < recursionLimit) (hta : s.heap.get? ta = some (listOf items.toArray n0)) (htk : ToksAt s.heap items tks) (hds : ds = if silent then [] else tks.flatMap dueOf)
    (ret : ∀ (I : Addr) (gs : GenState) (h' : Heap) (tk' : Nat), Fr h₀ L h' m → News h₀ L h' news → I < h'.objs.size → h'.IsGen I s.gens.size → Kept s.heap h' →
      (∀ (A' : Around) (s'' : Shared) (c : Nat), A'.handled = none → s''.heap.get? h'.objs.size = some (listOf ([] : List Value).toArray c) → (∀ b o, h'.get? b = some o → s''.heap.get? b = some o) →
        gs.Goes (model PG w) A' (GR h'.objs.size I s.heap ds) (GY h'.objs.size I s.heap ds) ds.length (.send .none) s'') →
      Q (.ref I) { s with heap := h', toks := tk', gens := s.gens.push gs })
    (hpin : PySem.Challenge.rw_fh0024_01 = PySem.Challenge.rw_fh0024_01 ∧ Hd.heap_39 = Hd.heap_39) :
    wpAny (model PG w) A (call (.ref 44) [.str x t, .ref ta, .bool silent]) Q E s := by
  have hpin2 := hpin
  revert hpin
  k_fill
  intro _
  have X1 := X.keeps F.keep
  have T1 := T.keeps F.keep
  refine wpAny_call ?_
  k_dflt (refine' gen_code X1 T1.nolimit ?k1 ?k2 hroom ?k4 ?k3 ?_ ?c1 ?c2 ?c3 ?c4)
  case k1 => k_dflt k_is
  case k2 => k_dflt k_is
  case k4 => k_dflt exact BindsTo.of_eq rfl
  case k3 => k_dflt exact locs rfl
  case c1 => exact rfl
  case c2 => exact rfl
  case c3 => exact rfl
  case c4 => decide
  intro h₁ tk' hn hkeep hlt
  have hI : (h₁.push (genO s.gens.size tk')).get? h₁.objs.size = _ := Heap.get?_push_size _ rfl
  refine ret _ _ _ _ (F.keeps fun b o e => Heap.get?_push_of_some _ (hkeep b o e)) (N.grown fun b o e => Heap.get?_push_of_some _ (hkeep b o e)) (Heap.lt_size hI) ⟨_, _, _, hI, rfl, rfl, rfl⟩ (fun b o e => Heap.get?_push_of_some _ (hkeep b o e)) ?_
  intro A' s'' c hA hS hk
  refine ⟨rfl, ?_⟩
  have up : ∀ b o, h₁.get? b = some o → s''.heap.get? b = some o := fun b o e => hk b o (Heap.get?_push_of_some _ e)
  have F' : Fr s.heap s.heap.objs.size s''.heap _ := ⟨hn.keeps up, fun b o e => up b o (hkeep b o e), Nat.le_refl _⟩
  have hI2 := hk _ _ hI
  have hsz : (h₁.push (genO s.gens.size tk')).objs.size = h₁.objs.size + 1 := Array.size_push ..
  have N' : News s.heap s.heap.objs.size s''.heap ((h₁.objs.size, genO s.gens.size tk') :: [((h₁.push (genO s.gens.size tk')).objs.size, listOf ([] : List Value).toArray c)]) := by
    intro q hq
    rcases List.mem_cons.mp hq with e | hq
    · rw [e]
      exact ⟨hI2, Nat.ne_of_gt hlt, Heap.get?_none_of_le (Nat.le_of_lt hlt)⟩
    · rcases List.mem_cons.mp hq with e | hq
      · rw [e]
        refine ⟨hS, ?_, Heap.get?_none_of_le ?_⟩
        · exact Nat.ne_of_gt (hsz ▸ Nat.lt_succ_of_lt hlt)
        · exact hsz ▸ Nat.le_of_lt (Nat.lt_succ_of_lt hlt)
      · exact nomatch hq
  refine genSeg (c := c) hA X1 T1 F' N' (by rfl) (by rfl) hta htk ?_ hds hpin2
  exact Nat.ne_of_lt (hsz ▸ Nat.lt_succ_self _)
end
end Mine

/- part 13 -/
namespace Mine
open PySem PySem.W PySem.Spec PySem.Calls PyProof.Rows PySem.Builtin PySem.Builtin.Str
theorem begins13 : True := by
  w_top off
  exact trivial
theorem wfb_append : ∀ (l r : List Nat), wfb l = true → wfb r = true → wfb (l ++ r) = true
  | [], r, _, h => h
  | [c], r, h, h2 => by
    have hc : c ≠ 92 := by simpa [wfb] using h
    cases r with
    | nil => simpa [wfb] using hc
    | cons d r => simpa [wfb, hc] using h2
  | c :: d :: l, r, h, h2 => by
    simp only [List.cons_append, wfb] at h ⊢
    split
    · rename_i q; rw [if_pos q] at h; exact wfb_append l r h h2
    · rename_i q; rw [if_neg q] at h; exact wfb_append (d :: l) r h h2
theorem wfb_plain : ∀ (l : List Nat), (∀ d ∈ l, d ≠ 92) → wfb l = true
  | [], _ => rfl
  | [c], h => by simpa [wfb] using h c (.head _)
  | c :: d :: l, h => by
    rw [wfb, if_neg (h c (.head _))]
    exact wfb_plain (d :: l) fun e he => h e (.tail _ he)
theorem findFirst {x : Str} {c n : Nat} {l r : List Nat} (hx : x.cps.toList = l ++ c :: r) (hl : ∀ d ∈ l, d ≠ c) (hn : l.length = n) : Txt.find x ⟨#[c]⟩ = (n : Int) := by
  have ht : x.cps.toList.take x.length = x.cps.toList := List.take_of_length_le (by simp [Str.length])
  have hat : ∀ i, StrLaws.At x ⟨#[c]⟩ x.length i ↔ x.cps.toList[i]? = some c := fun i => by
    have := takeAt (x := x) (c := c) (p := x.length) (a := i) (Nat.le_refl _)
    rw [ht] at this
    exact this
  have hc : x.cps.toList[n]? = some c := by rw [hx, List.getElem?_append_right (by omega), hn]; simp
  have hb : ∀ k, k < n → x.cps.toList[k]? ≠ some c := by
    intro k hk e
    rw [hx, List.getElem?_append_left (by omega)] at e
    exact hl _ (List.mem_of_getElem? e) rfl
  rcases find_whole x ⟨#[c]⟩ with ⟨_, h⟩ | ⟨i, h1, h2, h3⟩
  · exact absurd ((hat n).mpr hc) (h n)
  · rw [h1]
    have h4 := (hat i).mp h2
    rcases Nat.lt_trichotomy i n with h | h | h
    · exact absurd h4 (hb i h)
    · rw [h]
    · exact absurd ((hat n).mpr hc) (h3 n h)
theorem lastSign {x : Str} {c : Nat} {l : List Nat} (hx : x.cps.toList = l ++ [c]) : Txt.item x (-1) = ⟨#[c]⟩ := by
  have hlen : x.cps.size = l.length + 1 := by rw [← Array.length_toList, hx]; simp
  have hc : x.cps[l.length]? = some c := by
    have : x.cps.toList[l.length]? = some c := by rw [hx]; simp
    simpa using this
  unfold Txt.item Txt.charAt
  rw [StrLaws.at_neg (n := c) (by decide) (by show -((x.cps.size : Nat) : Int) ≤ -1; omega) (by
    have e : ((-1 : Int) + (x.length : Int)).toNat = l.length := by show ((-1 : Int) + ((x.cps.size : Nat) : Int)).toNat = l.length; omega
    rw [e]; exact hc)]
  rfl
def marksL : List Str := [Str.ofString "", Str.ofString "r", Str.ofString "b", Str.ofString "Rb", Str.ofString "u", Str.ofString "bR"]
def quotesL : List Str := [Str.ofString "'", Str.ofString "\"\"\"", Str.ofString "'''"]
def rawOf (x : Str) : Bool := [Str.ofString "r", Str.ofString "Rb", Str.ofString "bR"].any fun y => y == x

theorem textOkG {mark q b : Str} {c : Nat} {rest init : List Nat} (hm1 : mark.length ≤ 2) (hq3 : q.length ≤ 3) (hq1 : q.cps.toList = c :: rest) (hq2 : q.cps.toList = init ++ [c]) (hqa : ∀ d ∈ q.cps.toList, d ≠ 92) (hma : ∀ d ∈ mark.cps.toList, d ≠ 92) (hmc : ∀ d ∈ mark.cps.toList, d ≠ c) (hqb : ∀ d ∈ q.cps.toList, d < 1114112) (hmb : ∀ d ∈ mark.cps.toList, d < 1114112)
    (hraw : (occurrences (Txt.lower mark) (Str.ofString "r") 0 (Txt.lower mark).length 1).isEmpty = !rawOf mark)
    (hb : b.length ≤ 16) (hw : Wf b) : TextOk (mark ++ q ++ b ++ q) (rawOf mark) := by
  have e : (mark ++ q ++ b ++ q).cps.toList = mark.cps.toList ++ q.cps.toList ++ b.cps.toList ++ q.cps.toList := by
    simp only [Str.cps_append, Array.toList_append]
  have hlast : Txt.item (mark ++ q ++ b ++ q) (-1) = ⟨#[c]⟩ := lastSign (l := mark.cps.toList ++ q.cps.toList ++ b.cps.toList ++ init) (by rw [e, List.append_assoc _ init, ← hq2])
  have hfind : Txt.find (mark ++ q ++ b ++ q) ⟨#[c]⟩ = (mark.length : Int) := findFirst (l := mark.cps.toList) (r := rest ++ b.cps.toList ++ q.cps.toList) (by rw [e, hq1]; simp) hmc (by simp [Str.length])
  have hql : 1 ≤ q.length := by
    have h1 : q.length = q.cps.toList.length := by simp [Str.length]
    rw [h1, hq1]; simp
  have hl : (mark ++ q ++ b ++ q).length = mark.length + q.length + b.length + q.length := by simp only [Str.length_append]
  have hsl : Txt.slice (mark ++ q ++ b ++ q) none (some (mark.length : Int)) = mark := by
    have h1 := eq_of_beq (slice_closes_to (x := mark ++ q ++ b ++ q) (j := (mark.length : Int)) ⟨by omega, by rw [Array.length_toList]; show (mark.length : Int) ≤ ((mark ++ q ++ b ++ q).length : Int); omega⟩)
    rw [h1, e]
    have h2 : ((mark.length : Int) - 0).toNat = mark.cps.toList.length := by simp [Str.length]
    rw [h2]
    simp
  refine ⟨by omega, by omega, ?_, cpsApp (cpsApp (cpsApp hmb hqb) hw.2) hqb, ?_, ?_⟩
  · rw [e]
    exact wfb_append _ _ (wfb_append _ _ (wfb_append _ _ (wfb_plain _ hma) (wfb_plain _ hqa)) hw.1) (wfb_plain _ hqa)
  · rw [hlast]
    have h := StrLaws.found_one (mark ++ q ++ b ++ q) c
    have hc : c ∈ (mark ++ q ++ b ++ q).cps.toList := by rw [e, hq1]; simp
    rw [decide_eq_true hc] at h
    simpa using h
  · rw [hlast, hfind, hsl]
    exact hraw
theorem textOk {mark q b : Str} (hm : mark ∈ marksL) (hq : q ∈ quotesL) (hb : b.length ≤ 16) (hw : Wf b) : TextOk (mark ++ q ++ b ++ q) (rawOf mark) := by
  have key : ∀ m ∈ marksL, m.length ≤ 2 ∧ (∀ d ∈ m.cps.toList, d ≠ 92) ∧ (∀ d ∈ m.cps.toList, d ≠ 39 ∧ d ≠ 34) ∧ (∀ d ∈ m.cps.toList, d < 1114112) ∧ (occurrences (Txt.lower m) (Str.ofString "r") 0 (Txt.lower m).length 1).isEmpty = !rawOf m := by decide +kernel
  have kq : ∀ q ∈ quotesL, q.length ≤ 3 ∧ (∀ d ∈ q.cps.toList, d ≠ 92) ∧ (∀ d ∈ q.cps.toList, d < 1114112) ∧ ((q.cps.toList = 39 :: q.cps.toList.drop 1 ∧ q.cps.toList = q.cps.toList.dropLast ++ [39]) ∨ (q.cps.toList = 34 :: q.cps.toList.drop 1 ∧ q.cps.toList = q.cps.toList.dropLast ++ [34])) := by decide +kernel
  obtain ⟨a1, a2, a3, a5, a4⟩ := key mark hm
  obtain ⟨b1, b2, b5, b3⟩ := kq q hq
  rcases b3 with ⟨b3, b4⟩ | ⟨b3, b4⟩
  · exact textOkG a1 b1 b3 b4 b2 a2 (fun d hd => (a3 d hd).1) b5 a5 a4 hb hw
  · exact textOkG a1 b1 b3 b4 b2 a2 (fun d hd => (a3 d hd).2) b5 a5 a4 hb hw
end Mine

/- part 14 -/
namespace Mine
open PySem PySem.W PySem.Spec PySem.Calls PyProof.Rows PySem.Builtin PySem.Builtin.Str
theorem begins14 : True := by
  w_top off
  exact trivial
abbrev lawS : Str := Str.ofString "law"
def lFor : Stmt := (fBody 11).getD 2 (.Pass default)
def TokL (tl : Led) (v : Value) : Tk → Prop
  | none => ∃ (a b e : Addr) (t1 t2 t3 : Tok), v = .ref a ∧ (a, tupO [.int 1 t1, .str (Str.ofString "x") t2, .ref b, .ref e, .str (Str.ofString "") t3]) ∈ tl
  | some (x, rc, raw) => TextOk x raw ∧ ∃ (a b e : Addr) (t1 t2 t3 t4 t5 : Tok), v = .ref a ∧ (a, tupO [.int 3 t1, .str x t2, .ref b, .ref e, .str (Str.ofString "") t3]) ∈ tl ∧ (b, tupO [.int rc.1 t4, .int rc.2 t5]) ∈ tl
inductive ToksL (tl : Led) : List Value → List Tk → Prop
  | nil : ToksL tl [] []
  | cons {v vs t ts} : TokL tl v t → ToksL tl vs ts → ToksL tl (v :: vs) (t :: ts)
theorem TokL.mono {tl tl' : Led} {v t} (h : TokL tl v t) (hs : ∀ p ∈ tl, p ∈ tl') : TokL tl' v t := by
  cases t with
  | none =>
    obtain ⟨a, b, e, t1, t2, t3, h1, h2⟩ := h
    exact ⟨a, b, e, t1, t2, t3, h1, hs _ h2⟩
  | some q =>
    obtain ⟨h0, a, b, e, t1, t2, t3, t4, t5, h1, h2, h3⟩ := h
    exact ⟨h0, a, b, e, t1, t2, t3, t4, t5, h1, hs _ h2, hs _ h3⟩
theorem ToksL.mono {tl tl' : Led} {vs ts} (h : ToksL tl vs ts) (hs : ∀ p ∈ tl, p ∈ tl') : ToksL tl' vs ts := by
  induction h with
  | nil => exact .nil
  | cons h1 _ ih => exact .cons (h1.mono hs) ih
theorem ToksL.snoc {tl : Led} {vs ts v t} (h : ToksL tl vs ts) (h' : TokL tl v t) : ToksL tl (vs ++ [v]) (ts ++ [t]) := by
  induction h with
  | nil => exact .cons h' .nil
  | cons h1 _ ih => exact .cons h1 ih
theorem ToksL.at {tl : Led} {hb : Heap} {vs ts} (h : ToksL tl vs ts) (hg : ∀ p ∈ tl, hb.get? p.1 = some p.2) : ToksAt hb vs ts := by
  induction h with
  | nil => exact .nil
  | cons h1 _ ih =>
    refine .cons ?_ ih
    rename_i v vs t ts _
    cases t with
    | none =>
      obtain ⟨a, b, e, t1, t2, t3, h1, h2⟩ := h1
      exact ⟨a, b, e, t1, t2, t3, h1, hg _ h2⟩
    | some q =>
      obtain ⟨h0, a, b, e, t1, t2, t3, t4, t5, h1, h2, h3⟩ := h1
      exact ⟨h0, a, b, e, t1, t2, t3, t4, t5, h1, hg _ h2, hg _ h3⟩

def LJ (sa sl ta : Addr) (vs : List Value) (nn n n2 k : Nat) (m : Str → Option Value) (l : Led) : Prop :=
  ∃ (j y : Int) (t1 t2 : Tok) (toks due : List Value) (nt nd : Nat) (D : Addr) (tl : Led) (tks : List Tk) (row col : Int) (tr tc : Tok),
    m (Str.ofString "state") = some (.ref sa) ∧ m (Str.ofString "tokens") = some (.ref ta) ∧ m (Str.ofString "due") = some (.ref D) ∧ m (Str.ofString "row") = some (.int row tr) ∧ m (Str.ofString "column") = some (.int col tc) ∧
    l = (sa, listOf #[.ref sl, .int j t1, .int y t2] n) :: (sl, listOf vs.toArray n2) :: (ta, listOf toks.toArray nt) :: (D, listOf due.toArray nd) :: tl ∧
    0 ≤ j ∧ j ≤ nn ∧ 0 ≤ y ∧ y < 2147483647 ∧ Tups tl ∧ ToksL tl toks tks ∧ DueIn tl due (tks.flatMap dueOf) ∧ toks.length ≤ k + 1 ∧ due.length ≤ 64 * k ∧ D ≠ sa ∧ D ≠ ta ∧ D ≠ sl

theorem offTup {g h : Heap} {L b : Addr} {led tl : Led} {vs : Array Value} {c : Nat} (N : News g L h led) (htl : Tups tl) (hs : ∀ p ∈ tl, p ∈ led) (hb : (b, listOf vs c) ∈ led) : ∀ p ∈ tl, p.1 ≠ b := by
  intro p hp e
  have h1 := (N p (hs p hp)).1
  have h2 := (N _ hb).1
  rw [e, h2] at h1
  have h3 := htl p hp
  rw [← Option.some.inj h1] at h3
  exact absurd (Value.type.inj h3) (by decide)
theorem permDue {g h : Heap} {L : Addr} {e a b c d f k z : Addr × Obj} {tl r : Led} (N : News g L h (e :: (tl ++ (z :: a :: b :: c :: d :: f :: k :: r)))) : News g L h (a :: b :: f :: k :: e :: (tl ++ r)) := by
  intro q hq
  refine N q ?_
  simp only [List.mem_cons, List.mem_append] at hq ⊢
  rcases hq with h | h | h | h | h | h | h <;> simp [h]
theorem permNil {g h : Heap} {L : Addr} {e a b c d f k z : Addr × Obj} {r : Led} (N : News g L h (e :: z :: a :: b :: c :: d :: f :: k :: r)) : News g L h (a :: b :: f :: k :: e :: ([] ++ r)) := by
  intro q hq
  refine N q ?_
  simp only [List.mem_cons, List.nil_append] at hq ⊢
  rcases hq with h | h | h | h | h | h <;> simp [h]
theorem dueL_len : ∀ (l : List Nat) (rc : Int × Int), (dueL l rc).length ≤ l.length
  | [], _ => by simp [dueL]
  | [_], _ => by simp [dueL]
  | c :: d :: r, rc => by
    unfold dueL
    split
    · have h := dueL_len r (adv (adv rc c) d)
      rw [List.length_append]
      split <;> simp <;> omega
    · have h := dueL_len (d :: r) (adv rc c)
      simp only [List.length_cons] at h ⊢
      omega
theorem branchB {text mark : Str} (row col : Int) (h : TextOk text (rawOf mark)) (hr : rawOf mark = true) : ∃ (tl' : Led) (us' : List Value) (raw : Bool), tl' = [] ∧ us' = [] ∧ TextOk text raw ∧ DueIn tl' us' (dueOf (some (text, (row, col), raw))) ∧ us'.length ≤ 64 ∧ Tups tl' :=
  ⟨[], [], true, rfl, rfl, hr ▸ h, .nil, Nat.zero_le _, fun _ h => nomatch h⟩
theorem branchA {text mark : Str} {row col : Int} {tl' : Led} {us' : List Value} (h : TextOk text (rawOf mark)) (hr : rawOf mark = false) (hd : DueIn tl' us' (dueL text.cps.toList (row, col))) : ∃ raw, TextOk text raw ∧ DueIn tl' us' (dueOf (some (text, (row, col), raw))) ∧ us'.length ≤ 64 :=
  ⟨false, hr ▸ h, by simpa [dueOf] using hd, by rw [hd.length]; exact Nat.le_trans (dueL_len _ _) (by rw [Array.length_toList]; exact h.len)⟩
section
variable {prog : Program} {w : World} {A : Around} {E : Value → Shared → Prop} {s : Shared} {h₀ : Heap} {L a b : Addr} {m : Str → Option Value}
theorem appendTok {t0 t1 t2 rw a b d : Addr × Obj} {ta : Addr} {toks : List Value} {nt : Nat} {r : Led} {x : Value} {Q : Value → Shared → Prop} (F : Fr h₀ L s.heap m) (N : News h₀ L s.heap (t0 :: t1 :: t2 :: rw :: a :: b :: (ta, listOf toks.toArray nt) :: d :: r))
    (h0 : t0.2.cls = .type "tuple") (h1 : t1.2.cls = .type "tuple") (h2 : t2.2.cls = .type "tuple") (ha : a.1 ≠ ta) (hb : b.1 ≠ ta) (hd : d.1 ≠ ta) (hr : ∀ p ∈ r, p.1 ≠ ta) (hz : toks.length ≤ 1000)
    (h : ∀ h' c, Fr h₀ L h' m → News h₀ L h' (a :: b :: (ta, listOf (toks ++ [x]).toArray c) :: d :: t0 :: t1 :: t2 :: r) → Q .none { s with heap := h' }) :
    wpAny (model prog w) A (call (.builtin "list.append") [.ref ta, x]) Q E s := by
  have hta := N (ta, listOf toks.toArray nt) (.tail _ (.tail _ (.tail _ (.tail _ (.tail _ (.tail _ (.head _)))))))
  have off : ∀ p : Addr × Obj, s.heap.get? p.1 = some p.2 → p.2.cls = .type "tuple" → p.1 ≠ ta := by
    intro p h1 h2 e
    rw [e, hta.1] at h1
    rw [← Option.some.inj h1] at h2
    exact absurd (Value.type.inj h2) (by decide)
  refine wpAny_list_append_plain ⟨nt, hta.1⟩ (fun h' hl hs => ?_) (by rw [List.size_toArray, sizeLine_eq]; omega)
  obtain ⟨c, hget⟩ := hl
  rw [List.push_toArray] at hget
  have up : ∀ p : Addr × Obj, p ∈ (t0 :: t1 :: t2 :: rw :: a :: b :: (ta, listOf toks.toArray nt) :: d :: r) → p.1 ≠ ta → h'.get? p.1 = some p.2 ∧ p.1 ≠ L ∧ h₀.get? p.1 = none := by
    intro p hp hne
    exact ⟨(hs.2 p.1 hne).trans (N p hp).1, (N p hp).2⟩
  refine h h' c (F.change hs hta.2.1 hta.2.2) fun p hp => ?_
  rcases List.mem_cons.mp hp with e | hp
  · exact e ▸ up a (by simp) ha
  rcases List.mem_cons.mp hp with e | hp
  · exact e ▸ up b (by simp) hb
  rcases List.mem_cons.mp hp with e | hp
  · exact e ▸ ⟨hget, hta.2⟩
  rcases List.mem_cons.mp hp with e | hp
  · exact e ▸ up d (by simp) hd
  rcases List.mem_cons.mp hp with e | hp
  · exact e ▸ up t0 (by simp) (off t0 (N t0 (by simp)).1 h0)
  rcases List.mem_cons.mp hp with e | hp
  · exact e ▸ up t1 (by simp) (off t1 (N t1 (by simp)).1 h1)
  rcases List.mem_cons.mp hp with e | hp
  · exact e ▸ up t2 (by simp) (off t2 (N t2 (by simp)).1 h2)
  · exact up p (by simp [hp]) (hr p hp)
theorem turn_end {sa sl ta D2 a0 a1 a2 I : Addr} {tl tl' own : Led} {vs toks due us : List Value} {tks : List Tk} {nn n n2 k nt nd : Nat} {j y row col er ec : Int} {t1 t2 u1 u2 u3 u4 u5 u6 u7 : Tok} {x : Str} {raw : Bool} {oI : Obj} {h : Heap} {Q : Flow → Shared → Prop} {s₁ : Shared} {tk : Nat}
    (F : Fr h₀ L h m)
    (N : News h₀ L h ((sa, listOf #[.ref sl, .int j t1, .int y t2] n) :: (sl, listOf vs.toArray n2) :: (ta, listOf (toks ++ [Value.ref a0]).toArray nt) :: (D2, listOf (due ++ us).toArray nd) :: (a0, tupO [.int 3 u1, .str x u2, .ref a1, .ref a2, .str (Str.ofString "") u3]) :: (a1, tupO [.int row u4, .int col u5]) :: (a2, tupO [.int er u6, .int ec u7]) :: (tl' ++ (tl ++ own))))
    (e1 : m (Str.ofString "state") = some (.ref sa)) (e2 : m (Str.ofString "tokens") = some (.ref ta)) (e3 : m (Str.ofString "due") = some (.ref D2)) (e4 : ∃ r t, m (Str.ofString "row") = some (.int r t)) (e5 : ∃ c t, m (Str.ofString "column") = some (.int c t))
    (j0 : 0 ≤ j) (j1 : j ≤ nn) (y0 : 0 ≤ y) (y1 : y < 2147483647) (htl : Tups tl) (htl' : Tups tl') (htk : ToksL tl toks tks) (hdi : DueIn tl due (tks.flatMap dueOf)) (hdi' : DueIn tl' us (dueOf (some (x, (row, col), raw)))) (hTx : TextOk x raw)
    (hb1 : toks.length ≤ k + 1) (hb2 : due.length ≤ 64 * k) (hus : us.length ≤ 64) (l1 : sa < D2) (l2 : sl < D2) (l3 : ta < D2) (hI1 : (I, oI) ∈ own) (hI2 : oI.cls = .type "range_iterator") :
    XPost h₀ L (LJ sa sl ta vs nn n n2 (k + 1)) own [I] s₁ Q .next { s₁ with heap := h, toks := tk } := by
  have hin : (I, oI) ∈ ((sa, listOf #[.ref sl, .int j t1, .int y t2] n) :: (sl, listOf vs.toArray n2) :: (ta, listOf (toks ++ [Value.ref a0]).toArray nt) :: (D2, listOf (due ++ us).toArray nd) :: (a0, tupO [.int 3 u1, .str x u2, .ref a1, .ref a2, .str (Str.ofString "") u3]) :: (a1, tupO [.int row u4, .int col u5]) :: (a2, tupO [.int er u6, .int ec u7]) :: (tl' ++ (tl ++ own)) : Led) := by simp [hI1]
  have offI : ∀ p : Addr × Obj, p ∈ ((sa, listOf #[.ref sl, .int j t1, .int y t2] n) :: (sl, listOf vs.toArray n2) :: (ta, listOf (toks ++ [Value.ref a0]).toArray nt) :: (D2, listOf (due ++ us).toArray nd) :: (a0, tupO [.int 3 u1, .str x u2, .ref a1, .ref a2, .str (Str.ofString "") u3]) :: (a1, tupO [.int row u4, .int col u5]) :: (a2, tupO [.int er u6, .int ec u7]) :: (tl' ++ (tl ++ own)) : Led) → (p.2.cls = .type "list" ∨ p.2.cls = .type "tuple") → p.1 ≠ I := by
    intro p hp hc
    refine News.ne_of_cls N hp hin ?_
    show p.2.cls ≠ oI.cls
    rw [hI2]
    intro e
    rw [e] at hc
    rcases hc with h | h <;> exact absurd (Value.type.inj h) (by decide)
  obtain ⟨r9, tr9, e4⟩ := e4
  obtain ⟨c9, tc9, e5⟩ := e5
  refine xendG (news' := (sa, listOf #[.ref sl, .int j t1, .int y t2] n) :: (sl, listOf vs.toArray n2) :: (ta, listOf (toks ++ [Value.ref a0]).toArray nt) :: (D2, listOf (due ++ us).toArray nd) :: ((a0, tupO [.int 3 u1, .str x u2, .ref a1, .ref a2, .str (Str.ofString "") u3]) :: (a1, tupO [.int row u4, .int col u5]) :: (a2, tupO [.int er u6, .int ec u7]) :: (tl' ++ tl))) F N ?_ ?_
    ⟨j, y, t1, t2, toks ++ [Value.ref a0], due ++ us, nt, nd, D2, _, tks ++ [some (x, (row, col), raw)], r9, c9, tr9, tc9, e1, e2, e3, e4, e5, rfl, j0, j1, y0, y1, ?_, ?_, ?_, ?_, ?_, Nat.ne_of_gt l1, Nat.ne_of_gt l3, Nat.ne_of_gt l2⟩
  · intro p hp
    simp only [List.cons_append, List.append_assoc] at hp
    exact hp
  · intro p hp
    refine offI p ?_ ?_
    · simp only [List.mem_cons, List.mem_append] at hp ⊢
      rcases hp with h | h | h | h | h | h | h | h | h <;> simp [h]
    · simp only [List.mem_cons, List.mem_append] at hp
      rcases hp with h | h | h | h | h | h | h | h | h
      · exact .inl (by rw [h])
      · exact .inl (by rw [h])
      · exact .inl (by rw [h])
      · exact .inl (by rw [h])
      · exact .inr (by rw [h])
      · exact .inr (by rw [h])
      · exact .inr (by rw [h])
      · exact .inr (htl' p h)
      · exact .inr (htl p h)
  · intro p hp
    simp only [List.mem_cons, List.mem_append] at hp
    rcases hp with h | h | h | h | h
    · rw [h]
    · rw [h]
    · rw [h]
    · exact htl' p h
    · exact htl p h
  · refine (htk.mono fun p hp => by simp [hp]).snoc ⟨hTx, a0, a1, a2, u1, u2, u3, u4, u5, rfl, .head _, .tail _ (.head _)⟩
  · rw [List.flatMap_append, List.flatMap_singleton]
    exact (hdi.mono fun p hp => by simp [hp]).append (hdi'.mono fun p hp => by simp [hp])
  · rw [List.length_append, List.length_singleton]; omega
  · rw [List.length_append]; omega
theorem addDue {a b c : Addr × Obj} {D D' : Addr} {due us : List Value} {uz : Array Value} {nd n' : Nat} {r : Led} {Q : Value → Shared → Prop} (F : Fr h₀ L s.heap m) (N : News h₀ L s.heap (a :: b :: c :: (D, listOf due.toArray nd) :: (D', listOf uz n') :: r)) (huz : uz = us.toArray)
    (hz : due.length + us.length ≤ 1000)
    (h : ∀ D2 h', Fr h₀ L h' m → News h₀ L h' (a :: b :: c :: (D2, listOf (due ++ us).toArray 0) :: r) → a.1 < D2 → b.1 < D2 → c.1 < D2 → Q (.ref D2) { s with heap := h' }) :
    wpAny (model prog w) A (binaryOp .Add (.ref D) (.ref D')) Q E s := by
  subst huz
  have h1 := (N _ (.tail _ (.tail _ (.tail _ (.head _))))).1
  have h2 := (N _ (.tail _ (.tail _ (.tail _ (.tail _ (.head _)))))).1
  refine add_lists F N ⟨_, h1, rfl, _, rfl⟩ ⟨_, h2, rfl, _, rfl⟩ (fun h' F' N' => ?_) (by rw [sizeLine_eq]; omega)
  refine h _ h' F' (fun q hq => N' q ?_) (Heap.lt_size (N _ (.head _)).1) (Heap.lt_size (N _ (.tail _ (.head _))).1) (Heap.lt_size (N _ (.tail _ (.tail _ (.head _)))).1)
  simp only [List.mem_cons] at hq ⊢
  rcases hq with h | h | h | h | h
  · exact .inr (.inl h)
  · exact .inr (.inr (.inl h))
  · exact .inr (.inr (.inr (.inl h)))
  · exact .inl h
  · exact .inr (.inr (.inr (.inr (.inr (.inr h)))))
end
end Mine

/- part 15 -/
namespace Mine
open PySem PySem.W PySem.Spec PySem.Calls PyProof.Rows PySem.Builtin PySem.Builtin.Str
theorem begins15 : True := by
  w_top off
  exact trivial
section
local macro_rules | `(tactic| k_all) => `(tactic| first | assumption | (refine' List.forall_mem_cons.mpr ⟨?a, ?b⟩; (case a => first | assumption | exact Ne.symm (by assumption) | k_ne); (case b => k_all)) | (refine' List.forall_mem_append.mpr ⟨?a, ?b⟩; (case a => k_all); (case b => k_all)) | (exact fun _ h => nomatch h))
local macro_rules | `(tactic| walk_at "call ref") => `(tactic| ((with_reducible show wpAny _ _ (call (Value.ref 51) [Value.ref _, Value.int _ _]) _ _ _); (rename Fr _ _ _ _ => F1); (rename News _ _ _ _ => N1); (rename Below _ _ _ _ => B1); (rename Frag.In _ _ => X1); (rename Top _ _ _ _ _ _ => T1); (first | (with_unfolding_all refine' next_spec B1 F1 X1 N1 T1 rfl ?hI ?hlen ?i0 ?i1 ?x0 ?x1 ?m0 ?m1 ?hne ?hne2 ?dd ?uu ?_ ⟨rfl, rfl⟩) | (with_unfolding_all refine' next_spec B1 F1 X1 (rot1 N1) T1 rfl ?hI ?hlen ?i0 ?i1 ?x0 ?x1 ?m0 ?m1 ?hne ?hne2 ?dd ?uu ?_ ⟨rfl, rfl⟩)); (case hI => assumption); (case hlen => omega); (case i0 => omega); (case i1 => omega); (case x0 => omega); (case x1 => omega); (case m0 => omega); (case m1 => omega); (case hne => k_all); (case hne2 => assumption); (case dd => ktr_room); (case uu => ktr_units); clear F1 N1; intro r' j' y' t' t1' t2' h' tk' F' N' j0' j1' y0' y1' r0' r1'; (try dsimp only)))
local macro_rules | `(tactic| walk_at "subscriptTail") => `(tactic| ((with_reducible show wpAny _ _ (subscriptTail _ _ (Value.ref _) (Value.int _ _)) _ _ _); (rename News _ _ _ _ => N1); (first | (k_dflt (refine' item_strs (fun x => x ∈ quotesL ∧ x.length ≤ 3) N1 ?k1 ?k2 ?k3 ?k4 ?k5 ?_ ?k7; (case k1 => k_mem); (case k2 => omega); (case k3 => simp only [List.length_cons, List.length_nil]; omega); (case k4 => exact Nat.le_of_ble_eq_true rfl); (case k5 => (intro v hv; simp only [List.mem_cons, List.not_mem_nil, or_false] at hv; (rcases hv with h | h | h); (focus (subst h; exact ⟨_, _, rfl, .head _, by decide⟩)); (focus (subst h; exact ⟨_, _, rfl, .tail _ (.head _), by decide⟩)); (focus (subst h; exact ⟨_, _, rfl, .tail _ (.tail _ (.head _)), by decide⟩)))); (case k7 => with_unfolding_all rfl))) | (k_dflt (refine' item_strs (fun x => x ∈ marksL ∧ x.length ≤ 2) N1 ?k1 ?k2 ?k3 ?k4 ?k5 ?_ ?k7; (case k1 => k_mem); (case k2 => omega); (case k3 => simp only [List.length_cons, List.length_nil]; omega); (case k4 => exact Nat.le_of_ble_eq_true rfl); (case k5 => (intro v hv; simp only [List.mem_cons, List.not_mem_nil, or_false] at hv; (rcases hv with h | h | h | h | h | h); (focus (subst h; exact ⟨_, _, rfl, .head _, by decide⟩)); (focus (subst h; exact ⟨_, _, rfl, .tail _ (.head _), by decide⟩)); (focus (subst h; exact ⟨_, _, rfl, .tail _ (.tail _ (.head _)), by decide⟩)); (focus (subst h; exact ⟨_, _, rfl, .tail _ (.tail _ (.tail _ (.head _))), by decide⟩)); (focus (subst h; exact ⟨_, _, rfl, .tail _ (.tail _ (.tail _ (.tail _ (.head _)))), by decide⟩)); (focus (subst h; exact ⟨_, _, rfl, .tail _ (.tail _ (.tail _ (.tail _ (.tail _ (.head _))))), by decide⟩)))); (case k7 => with_unfolding_all rfl)))); intro x' t' hx'; obtain ⟨hx1', hx2'⟩ := hx'; (try dsimp only)))

local macro_rules | `(tactic| walk_at "call ref") => `(tactic| ((with_reducible show wpAny _ _ (call (Value.ref 58) [Value.ref _, Value.str _ _]) _ _ _); (rename Fr _ _ _ _ => F1); (rename News _ _ _ _ => N1); (rename Below _ _ _ _ => B1); (rename Frag.In _ _ => X1); (rename Top _ _ _ _ _ _ => T1); (with_unfolding_all refine' body_spec B1 F1 X1 N1 T1 rfl ?hI ?hlen ?i0 ?i1 ?x0 ?x1 ?hq ?hne ?hne2 ?dd ?uu ?_ ⟨rfl, rfl⟩); (case hI => assumption); (case hlen => omega); (case i0 => omega); (case i1 => omega); (case x0 => omega); (case x1 => omega); (case hq => assumption); (case hne => k_all); (case hne2 => assumption); (case dd => ktr_room); (case uu => ktr_units); clear F1 N1; intro b' j' y' t' t1' t2' h' tk' F' N' j0' j1' y0' y1' hbl' hbw'; (have hTx := textOk (by assumption) (by assumption) hbl' hbw'); (have hTl := hTx.len); (try dsimp only)))
local macro_rules | `(tactic| walk_at "call ref") => `(tactic| ((with_reducible show wpAny _ _ (call (Value.ref 65) [Value.str _ _, Value.int _ _, Value.int _ _]) _ _ _); (rename Fr _ _ _ _ => F1); (rename News _ _ _ _ => N1); (rename Below _ _ _ _ => B1); (rename Frag.In _ _ => X1); (rename Top _ _ _ _ _ _ => T1); (with_unfolding_all refine' due_spec B1 F1 X1 N1 T1 rfl ?hx ?hw ?dd ?uu ?_ ⟨rfl, rfl⟩); (case hx => exact TextOk.len (by assumption)); (case hw => exact TextOk.wf (by assumption)); (case dd => ktr_room); (case uu => ktr_units); clear F1 N1; intro D' us' n' tl' h' tk' F' N' htl' hdi' hne'; (have N9 := permDue N'); clear N'; (try dsimp only)))

local macro_rules | `(tactic| walk_at "subscriptTail Name UnaryOp") => `(tactic| ((with_reducible show wpAny _ _ (subscriptTail _ _ (Value.ref _) (Value.int _ _)) _ _ _); (rename News _ _ _ _ => N1); (rename (List.map _ _ = Txt.split _ _) => hlk1); k_dflt (refine' item_strsTneg ?k1 ?k2 ?k3 ?k4 ?_ ?k6; (case k1 => exact ⟨_, (N1 _ (.head _)).1, rfl, _, rfl⟩); (case k2 => decide); (case k3 => (have h9 := len_of_split hlk1; omega)); (case k4 => decide); (case k6 => with_unfolding_all rfl)); intro y' t' hy'; (rename (∀ a ∈ List.map _ _, PySem.Str.length a ≤ _) => hml'); (have hyl' := hml' y' (List.mem_of_getElem? hy')); (have hyl2 := Nat.le_trans hyl' (by assumption)); (try dsimp only)))
local macro_rules | `(tactic| walk_at "call builtin:list.append") => `(tactic| ((with_reducible show wpAny _ _ (call (Value.builtin _) [Value.ref _, _]) _ _ _); (rename Fr _ _ _ _ => F1); (rename News _ _ _ _ => N1); k_dflt (refine' appendTok F1 N1 rfl rfl rfl ?ha ?hb ?hd ?hr ?hz ?_; (case ha => assumption); (case hb => assumption); (case hd => assumption); (case hr => assumption); (case hz => omega)); clear F1 N1; intro h' c' F' N'; (try dsimp only)))
local macro_rules | `(tactic| walk_at "binaryOp Add ref ref") => `(tactic| refine Stop.of ?_)
theorem turn_spec {w : World} {p : Program} {loose : List Str} {mean : ExcName → Option Value} {mg mb : Str → Option Value}
    {dp un : Nat} {gd : Option (List Code)} {a : Addr} {ccd : Value} {outer : List Env} {A₀ : Around} {base h₀ : Heap} {L : Addr} {m : Str → Option Value} {s : Shared} {E : Value → Shared → Prop} {Q : Flow → Shared → Prop}
    {sa sl ta I : Addr} {vs : List Value} {ns : List Int} {n n2 k : Nat} {led own : Led} {oI : Obj}
    (B : Below A₀ base outer h₀) (F : Fr h₀ L s.heap m) (X : (Hd.heap_39 w.params).In h₀) (N : News h₀ L s.heap (led ++ own))
    (T : Top p loose mean mg mb h₀) (hk : k ≤ 2) (hI : IntsAre vs ns) (hlen : ns.length ≤ 64) (hne2 : sl ≠ sa) (hne3 : ta ≠ sa) (hne4 : ta ≠ sl)
    (hJ : LJ sa sl ta vs ns.length n n2 k m led) (hI1 : (I, oI) ∈ own) (hI2 : oI.cls = .type "range_iterator") (hI3 : ∀ p ∈ own, p.1 = I) (hI4 : ∀ p ∈ led, p.1 ≠ I)
    (hd : dp + 4 < recursionLimit) (hu : un + 32 < cLine)
    (hpin : PySem.Challenge.rw_fh0024_01 = PySem.Challenge.rw_fh0024_01 ∧ Hd.heap_39 = Hd.heap_39) :
    wpAny (model PG w) (ktrTop dp un gd lawS (fScope 11) L a ccd [] outer) (execs (forBody lFor) (envOf lawS (fScope 11) L a ccd)) (XPost h₀ L (LJ sa sl ta vs ns.length n n2 (k + 1)) own [I] s Q) E s := by
  revert hpin
  k_fill
  intro _
  obtain ⟨j, y, t1, t2, toks, due, nt, nd, D, tl, tks, row, col, tr, tc, e1, e2, e3, e4, e5, rfl, j0, j1, y0, y1, htl, htk, hdi, hb1, hb2, hD1, hD2, hD3⟩ := hJ
  have hIsa : sa ≠ I := hI4 _ (.head _)
  have hIsl : sl ≠ I := hI4 _ (.tail _ (.head _))
  have hIta : ta ≠ I := hI4 _ (.tail _ (.tail _ (.head _)))
  have hID : D ≠ I := hI4 _ (.tail _ (.tail _ (.tail _ (.head _))))
  have hItl : ∀ p ∈ tl, p.1 ≠ I := fun p hp => hI4 _ (.tail _ (.tail _ (.tail _ (.tail _ hp))))
  simp only [List.cons_append] at N
  have hin : ∀ p ∈ tl, p ∈ ((sa, listOf #[.ref sl, .int j t1, .int y t2] n) :: (sl, listOf vs.toArray n2) :: (ta, listOf toks.toArray nt) :: (D, listOf due.toArray nd) :: (tl ++ own) : Led) := fun p hp => by simp [hp]
  have hT1 := offTup N htl hin (.head _)
  have hT2 := offTup N htl hin (.tail _ (.head _))
  have hT3 := offTup N htl hin (.tail _ (.tail _ (.head _)))
  have hT4 := offTup N htl hin (.tail _ (.tail _ (.tail _ (.head _))))
  clear hin
  have hO1 : ∀ p ∈ own, p.1 ≠ sa := fun p hp => by rw [hI3 p hp]; exact Ne.symm hIsa
  have hO2 : ∀ p ∈ own, p.1 ≠ ta := fun p hp => by rw [hI3 p hp]; exact Ne.symm hIta
  have F2 := frPut (frPut (frPut (frPut (frPut F (x := Str.ofString "state") (v := .ref sa) (by exact e1)) (x := Str.ofString "tokens") (v := .ref ta) (by exact e2)) (x := Str.ofString "due") (v := .ref D) (by exact e3)) (x := Str.ofString "row") (v := .int row tr) (by exact e4)) (x := Str.ofString "column") (v := .int col tc) (by exact e5)
  clear F e1 e2 e3 e4 e5
  with_unfolding_all show wpAny _ (ktrTop dp un gd (Str.ofString "law") (Scope.mk _ _ _ _ _) L a ccd [] outer) (execs (_ :: _ :: _ :: _ :: _ :: _ :: _ :: _ :: []) (envOf (Str.ofString "law") (Scope.mk _ _ _ _ _) L a ccd)) _ _ _
  k_steps
  all_goals (refine Stop.mk ?_; rename TextOk _ _ => hTx; rename Fr _ _ _ _ => F9; rename News _ _ _ _ => N8; rename (List.any _ _ = _) => hr9)
  focus
    rename_i D' _ _
    obtain ⟨tl', us', raw, htl0, hus0, hTx9, hdi9, hus, htl9⟩ := branchB row col hTx hr9
    have N9 := permNil N8
    rw [← htl0] at N9
    clear N8 hr9 hTx htl0
  rotate_left
  focus
    rename_i D' us' n' tl' _ _ htl9 hdi' _
    obtain ⟨raw, hTx9, hdi9, hus⟩ := branchA hTx hr9 hdi'
    have N9 := N8
    clear N8 hr9 hdi' hTx
  all_goals
    k_dflt refine' addDue (us := us') F9 N9 ?hu ?hz ?_
    case hu => first | rfl | (rw [hus0])
    case hz => omega
    intro D2 h' F' N' l1 l2 l3
    clear F9 N9
    dsimp only at l1 l2 l3
    have hU3 : ∀ p ∈ tl', p.1 ≠ ta := offTup N' htl9 (fun p hp => .tail _ (.tail _ (.tail _ (.tail _ (List.mem_append_left _ hp))))) (.tail _ (.tail _ (.head _)))
    have hr9 : ∀ p ∈ tl' ++ (tl ++ own), p.1 ≠ ta := List.forall_mem_append.mpr ⟨hU3, List.forall_mem_append.mpr ⟨hT3, hO2⟩⟩
    have hsa9 : sa ≠ ta := Ne.symm hne3
    have hsl9 : sl ≠ ta := Ne.symm hne4
    have hD9 : D2 ≠ ta := Nat.ne_of_gt l3
    k_steps
    all_goals
      rename Fr _ _ _ _ => F8
      rename News _ _ _ _ => N8
      exact turn_end F8 (News.tail' N8) (by rfl) (by rfl) (by rfl) ⟨_, _, by rfl⟩ ⟨_, _, by rfl⟩ (by assumption) (by assumption) (by assumption) (by assumption) htl htl9 htk hdi hdi9 hTx9 hb1 hb2 hus l1 l2 l3 hI1 hI2
end
end Mine

/- part 16 -/
namespace Mine
open PySem PySem.W PySem.Spec PySem.Calls PyProof.Rows PySem.Builtin PySem.Builtin.Str
theorem begins16 : True := by
  w_top off
  exact trivial
section
variable {prog : Program} {w : World} {A : Around} {E : Value → Shared → Prop} {s : Shared} {env : Env} {h₀ : Heap} {x : Str} {body : List Stmt} {Q : Flow → Shared → Prop}
theorem iterRange2 {r L : Addr} {b₀ : Int} {t₀ u₀ v₀ : Tok} {n : Nat} {m₀ : Str → Option Value} {news : Led} (J : Nat → (Str → Option Value) → Led → Prop)
    (hL : env.locals = L) (hh : A.handled = none) (hr : IsRange s.heap r 0 b₀ 1 t₀ u₀ v₀) (hb : b₀ = (n : Int)) (hn : n ≤ 1000) (F : Fr h₀ L s.heap m₀) (N : News h₀ L s.heap news) (hj : J 0 m₀ news)
    (turn : ∀ i t m₁ news₁ h tk own I oI, i < n → J i m₁ news₁ → (∀ p ∈ news₁, p.1 ≠ I) → (∀ p ∈ own, p.1 = I) → (I, oI) ∈ own → oI.cls = .type "range_iterator" → Fr h₀ L h (fun y => if y = x then some (.int (i : Int) t) else m₁ y) → News h₀ L h (news₁ ++ own) →
      wpAny (model prog w) A (execs body env) (XPost h₀ L (J (i + 1)) own [I] { s with heap := h, toks := tk } Q) E { s with heap := h, toks := tk })
    (done : ∀ m₁ news₁ h tk, J n m₁ news₁ → Fr h₀ L h m₁ → News h₀ L h news₁ → Q .next { s with heap := h, toks := tk }) :
    wpAny (model prog w) A (pyIter (.ref r)) (fun it s₂ => LoopAtV prog w A h₀ env x body Q E it s₂) E s := by
  subst hb hL
  have hsz : Builtin.Range.rangeSize 0 (n : Int) 1 = (n : Int) := by rw [rangeSize_one]; split <;> omega
  refine wpAny_pyIter_range hr (small_one (by decide) (by decide) (by omega) (by omega)) ?_
  have hfr : ∀ p ∈ news, p.1 ≠ s.heap.objs.size := fun p hp => Nat.ne_of_lt (Heap.lt_size (N p hp).1)
  have hnone : h₀.get? s.heap.objs.size = none := next_is_new F
  refine ⟨s.heap.objs.size, [s.heap.objs.size], [s.heap.objs.size], n, _, _, m₀, news, J, rfl, (Walks.range hh _ 0 1 n).bound, ?_, ?_, ?_, ?_, F.push _, fun p hp => ⟨Heap.get?_push_of_some _ (N p hp).1, (N p hp).2⟩, hj, ?_, fun h' tk' m' news' F' N' _ hJ => done m' news' h' tk' hJ F' N'⟩
  · intro hm
    exact absurd F.ns.lt ((List.mem_singleton.mp hm) ▸ Nat.lt_irrefl _)
  · intro b hb
    rw [List.mem_singleton.mp hb]
    exact hnone
  · intro p hp hI
    exact hfr p hp (List.mem_singleton.mp hI)
  · show IsRangeIter _ _ _ _ _
    rw [hsz]
    simpa using Heap.get?_push_size _ rfl
  · rintro i v m₁ news₁ s₁ own ⟨hh', tk', rfl⟩ hin hP hJ hoff hown _ hall st F₁ N₁
    obtain ⟨_, t, rfl⟩ := hP
    have e1 : (0 : Int) + (i : Int) * 1 = (i : Int) := by omega
    rw [e1] at F₁
    have hmem := hall s.heap.objs.size (List.mem_singleton.mpr rfl) hnone _ st
    refine wpAny_mono (turn i t m₁ news₁ hh' tk' own _ _ hin hJ (fun p hp e => hoff p hp (List.mem_singleton.mpr e)) (fun p hp => List.mem_singleton.mp (hown p hp)) hmem rfl F₁ fun p hp => N₁ p (swapApp hp)) (fun f s₂ p => ?_) fun _ _ e => e
    have fin : XEnd h₀ env.locals (J (i + 1)) own [s.heap.objs.size] { s with heap := hh', toks := tk' } s₂ → LoopStepU h₀ env.locals [s.heap.objs.size] own (J (i + 1)) { s with heap := hh', toks := tk' } .next s₂ := by
      rintro ⟨h', tk, m', news', e, F', N', ho, hm⟩
      exact ⟨rfl, h', tk, m', news', e, F', fun p hp => N' p (swapApp hp), ho, hm⟩
    cases f with
    | ret v => exact .ret p
    | brk => exact .brk p
    | next => exact .next (fin p)
    | cont => exact .cont (fin p)
end
end Mine

/- part 17 -/
namespace Mine
open PySem PySem.W PySem.Spec PySem.Calls PyProof.Rows PySem.Builtin PySem.Builtin.Str
theorem begins17 : True := by
  w_top off
  exact trivial
def datOf (e : Due) : Dat := .tuple [.tuple [.int e.1.1, .int e.1.2], .str (msg e.2)]
theorem dueDat {tl : Led} {vs : List Value} {ds : List Due} (h : DueIn tl vs ds) : DatAll tl vs (ds.map datOf) := by
  induction h with
  | nil => exact .nil
  | cons h1 _ ih =>
    obtain ⟨a, b, t1, t2, t3, rfl, h1, h2⟩ := h1
    exact .cons (.tuple h1 (.cons (.tuple h2 (.cons (.int _ _) (.cons (.int _ _) .nil))) (.cons (.str _ _) .nil))) ih
theorem msg_ok {d : Nat} (h : d < 1114112) : PyData.strOk (msg d) = true := by
  have e : ∀ c ∈ (msg d).cps.toList, c < 1114112 := cpsApp (cpsApp (by decide +kernel) (by intro c hc; simp at hc; rw [hc]; exact h)) (by decide +kernel)
  unfold PyData.strOk
  rw [Array.all_eq_true']
  intro c hc
  exact decide_eq_true (e c (Array.mem_toList_iff.mpr hc))
theorem datOk {e : Due} (h : e.2 < 1114112) : kqdOk 8 (datOf e) = true := by
  show (kqdOk 7 (.tuple [.int e.1.1, .int e.1.2]) && (PyData.strOk (msg e.2) && true)) = true
  rw [msg_ok h]
  rfl
theorem dueL_mem : ∀ (l : List Nat) (rc : Int × Int) (e : Due), e ∈ dueL l rc → e.2 ∈ l
  | [], _, e, h => by simp [dueL] at h
  | [_], _, e, h => by simp [dueL] at h
  | c :: d :: r, rc, e, h => by
    unfold dueL at h
    split at h
    · rcases List.mem_append.mp h with h | h
      · split at h
        · cases h
        · rw [List.mem_singleton.mp h]; exact .tail _ (.head _)
      · exact .tail _ (.tail _ (dueL_mem r _ e h))
    · exact .tail _ (dueL_mem (d :: r) _ e h)
theorem toks_asc {tl : Led} {vs : List Value} {ts : List Tk} (h : ToksL tl vs ts) : ∀ e ∈ ts.flatMap dueOf, e.2 < 1114112 := by
  induction h with
  | nil => intro e he; cases he
  | cons h1 _ ih =>
    rename_i v vs t ts _
    intro e he
    rw [List.flatMap_cons] at he
    rcases List.mem_append.mp he with he | he
    · cases t with
      | none => cases he
      | some q =>
        obtain ⟨x, rc, raw⟩ := q
        unfold dueOf at he
        split at he
        · rename_i hq; cases hq
        · rename_i hq
          cases hq
          split at he
          · cases he
          · exact h1.1.asc _ (dueL_mem _ _ _ he)
    · exact ih e he
section
variable {prog : Program} {w : World} {A : Around} {E : Value → Shared → Prop} {s : Shared} {h₀ : Heap} {L a b : Addr} {news tl1 tl2 : Led} {Q : Value → Shared → Prop}
theorem eqDue {ys zs : List Value} {ka kb : Nat} {ds : List Due} (N : News h₀ L s.heap news) (ma : (a, listOf ys.toArray ka) ∈ news) (Da : DueIn tl1 ys ds) (sa : ∀ p ∈ tl1, p ∈ news)
    (mb : (b, listOf zs.toArray kb) ∈ news) (Db : DueIn tl2 zs ds) (sb : ∀ p ∈ tl2, p ∈ news) (hasc : ∀ e ∈ ds, e.2 < 1114112) (hu : A.units + 64 < cLine) (h : Q (.bool true) s) :
    wpAny (model prog w) A (compareOp .Eq (.ref a) (.ref b)) Q E s := by
  have ok : ∀ d ∈ ds.map datOf, kqdOk 8 d = true := by
    intro d hd
    obtain ⟨e, he, rfl⟩ := List.mem_map.mp hd
    exact datOk (hasc e he)
  refine kqd_eq N ma rfl rfl (dueDat Da) sa mb rfl rfl (dueDat Db) sb ok ok hu ?_
  simpa using h
end
section
variable {c : ClaimW} {cl : Str → Option Addr} {mean : ExcName → Option Value} {args : List WData} {s₁ s' : Shared} {L : Addr} {m : Str → Option Value}
theorem goodWG_true (F : Fr s₁.heap L s'.heap m) (hg : AllBare s'.gens) (hn : ∀ cls, c.raises args cls = false) (hp : c.post args (.bool true) args = true) (hos : s'.os = s₁.os) : GoodWG c cl mean args s₁ (.ok (.ret (.bool true))) s' := by
  have g := goodW_bool (c := c) (cl := cl) (mean := mean) (args := args) (s₁ := s₁) (s' := { s' with gens := #[] }) (b := true) F rfl hn hp hos
  exact ⟨g.1, .of_keep g.2.1, g.2.2.1, hg⟩
end
end Mine

/- part 18 -/
namespace Mine
open PySem PySem.W PySem.Spec PySem.Calls PyProof.Rows PySem.Builtin PySem.Builtin.Str
theorem begins18 : True := by
  w_top off
  exact trivial
section
local macro_rules | `(tactic| walk_at "exec For Name Call cons nil") => `(tactic| refine Stop.of ?_)

local macro_rules | `(tactic| k_all) => `(tactic| first | assumption | (refine' List.forall_mem_cons.mpr ⟨?a, ?b⟩; (case a => first | assumption | exact Ne.symm (by assumption) | k_ne); (case b => k_all)) | (refine' List.forall_mem_append.mpr ⟨?a, ?b⟩; (case a => k_all); (case b => k_all)) | (exact fun _ h => nomatch h))
local macro_rules | `(tactic| walk_at "no such node") => `(tactic| skip)
local macro_rules | `(tactic| walk_at "call ref") => `(tactic| ((with_reducible show wpAny _ _ (call (Value.ref 51) [Value.ref _, Value.int _ _]) _ _ _); refine Stop.of ?_))
local macro_rules | `(tactic| walk_at "pyIter ref") => `(tactic| ((with_reducible show wpAny _ _ (pyIter (Value.ref _)) (fun it s₂ => LoopAtV _ _ _ _ _ _ _ _ _ it s₂) _ _); refine Stop.of ?_))
local macro_rules | `(tactic| walk_at "call type:range") => `(tactic| ((rename Fr _ _ _ _ => F'); (rename News _ _ _ _ => N'); (with_unfolding_all refine range1_rows F' N' ?_; intro _ _ _ _ _ _ _ _ _)))
local macro_rules | `(tactic| walk_at "call ref") => `(tactic| ((with_reducible show wpAny _ _ (call (Value.ref 44) [Value.str _ _, Value.ref _, Value.bool _]) _ _ _); refine Stop.of ?_))
local macro_rules | `(tactic| walk_at "call type:list") => `(tactic| refine Stop.of ?_)
local macro_rules | `(tactic| walk_at "compareOp Eq ref ref") => `(tactic| refine Stop.of ?_)
theorem permLaw {g h : Heap} {L : Addr} {a1 a2 a3 a4 a5 a6 a7 a8 : Addr × Obj} (N : News g L h [a1, a2, a3, a4, a5, a6, a7, a8]) : News g L h (a7 :: a8 :: a3 :: a2 :: [a4, a5, a6, a1]) := by
  intro q hq
  refine N q ?_
  simp only [List.mem_cons, List.not_mem_nil, or_false] at hq ⊢
  rcases hq with h | h | h | h | h | h | h | h <;> simp [h]
theorem law_holds : PySem.Challenge.rw_fh0024_01.Holds := Hd (by
  k_fill
  intro w s₀ s₁ mg mb G Y fa o pm cd doc dV kV ho hd hcd hD hmg hg args vals as hpre hlay hrd hwl hlo
  have KX := kIn_of Y
  have X := (Ground.X G).1
  have V := (Ground.X G).2
  refine Ground.open G ?_
  intro T B D TE TW
  clear D
  obtain ⟨_, _, M⟩ := bmod_of_top T
  have TA := at_of_top T
  clear hmg
  wrow_args hpre hlay hrd hwl hlo
  refine enter_call ?_
  w_top on
  have K0 := below_caller (Top.heap T)
  w_call any ho hd hcd hD T F
  clear hd TA
  k_drop
  all_goals (try k_fold)
  k_steps
  refine Stop.mk ?_
  rename Fr _ _ _ _ => F9
  rename News _ _ _ _ => N9
  rename IntsAre _ (List.take 50 _) => hI9
  rename ((List.take 50 _).length = _) => hC9
  have hlen : (List.take 50 _).length ≤ 64 := Nat.le_trans (Nat.le_of_eq hC9) (Nat.le_trans (Nat.min_le_left _ _) (by decide))
  obtain ⟨ns, hI10, hl10⟩ : ∃ ns, IntsAre _ ns ∧ ns.length ≤ 64 := ⟨_, hI9, hlen⟩
  have N10 := permLaw N9
  with_unfolding_all refine' For_invVF F9 ?k1 ?k2 ?_
  case k1 => exact rfl
  case k2 => exact rfl
  clear N9
  k_steps
  refine Stop.mk ?_
  rename Fr _ _ _ _ => F1
  rename News _ _ _ _ => N1
  rename Below _ _ _ _ => B1
  rename_i sl ws _ _ _ sa _ lsa _ tA _ _ tB _ lB tC _ lC ta _ lta D0 _ lD tE _ lE _ _ _ _ _
  have hne2 : sl ≠ sa := Nat.ne_of_lt lsa
  have hne3 : ta ≠ sa := by k_ne
  have hne4 : ta ≠ sl := by k_ne
  have hne5 : D0 ≠ sa := by k_ne
  have hne6 : D0 ≠ ta := by k_ne
  have hne7 : D0 ≠ sl := by k_ne
  with_unfolding_all refine' next_spec B1 F1 KX N1 T rfl ?hI ?hlen ?i0 ?i1 ?x0 ?x1 ?m0 ?m1 ?hne ?hne2 ?dd ?uu ?_ ⟨rfl, rfl⟩
  case hI => exact hI10
  case hlen => omega
  case i0 => omega
  case i1 => omega
  case x0 => omega
  case x1 => omega
  case m0 => omega
  case m1 => omega
  case hne => k_all
  case hne2 => exact hne2
  case dd => ktr_room
  case uu => ktr_units
  clear F1 N1
  intro r₁ j₁ y₁ u1 u2 u3 h1 tk1 F1 N1 hj0 hj1 hy0 hy1 hr0 hr1
  try dsimp only
  k_steps
  refine Stop.mk ?_
  rename IsRange _ _ _ _ _ _ _ _ => hR1
  rename Fr _ _ _ _ => F2
  rename News _ _ _ _ => N2
  obtain ⟨rn, hrn⟩ := Int.eq_ofNat_of_zero_le (show (0 : Int) ≤ 1 + r₁ by omega)
  with_unfolding_all refine' iterRange2 (LJ sa sl ta ws ns.length 0 0) rfl rfl hR1 hrn ?hn F2 N2 ?hj ?turn ?done
  case hn => omega
  case hj => exact ⟨j₁, y₁, u2, u3, [.ref tC], [], 0, 0, D0, _, [none], 1, 4, _, _, by rfl, by rfl, by rfl, by rfl, by rfl, rfl, hj0, hj1, hy0, hy1, by (intro p hp; simp only [List.mem_cons, List.not_mem_nil, or_false] at hp; rcases hp with h | h | h | h <;> (rw [h])), .cons ⟨_, _, _, _, _, _, rfl, .head _⟩ .nil, .nil, Nat.le_refl _, Nat.le_refl _, hne5, hne6, hne7⟩
  case turn =>
    intro i t m₁ news₁ h tk own I oI hi hJ hoff hown hmem hcls F3 N3
    obtain ⟨j, y, v1, v2, toks, due, nt, nd, D, tl, tks, row, col, tr, tc, e1, e2, e3, e4, e5, rest⟩ := hJ
    with_unfolding_all exact turn_spec B1 F3 KX N3 T (by omega) hI10 hl10 hne2 hne3 hne4 ⟨j, y, v1, v2, toks, due, nt, nd, D, tl, tks, row, col, tr, tc, e1, e2, e3, e4, e5, rest⟩ hmem hcls hown hoff (by ktr_room) (by ktr_units) ⟨rfl, rfl⟩
  case done =>
    rintro m₁ news₁ h2 tk2 ⟨j, y, v1, v2, toks, due, nt, nd, D, tl, tks, row, col, tr, tc, e1, e2, e3, e4, e5, rfl, j0, j1, y0, y1, htl, htk, hdi, hb1, hb2, hD1, hD2, hD3⟩ F3 N3
    try dsimp only
    have F4 := frPut (frPut (frPut F3 (x := Str.ofString "state") (v := .ref sa) (by exact e1)) (x := Str.ofString "tokens") (v := .ref ta) (by exact e2)) (x := Str.ofString "due") (v := .ref D) (by exact e3)
    clear F3 F2 N2 e1 e2 e3 e4 e5
    k_steps
    refine Stop.mk ?_
    rename Fr _ _ _ _ => F5
    rename News _ _ _ _ => N5
    have hin : ∀ p ∈ tl, p ∈ ((sa, listOf #[.ref sl, .int j v1, .int y v2] 0) :: (sl, listOf ws.toArray 0) :: (ta, listOf toks.toArray nt) :: (D, listOf due.toArray nd) :: tl : Led) := fun p hp => by simp [hp]
    have hT1 := offTup N5 htl hin (.head _)
    with_unfolding_all refine' next_spec B1 F5 KX N5 T rfl ?hI ?hlen ?i0 ?i1 ?x0 ?x1 ?m0 ?m1 ?hne ?hne2 ?dd ?uu ?_ ⟨rfl, rfl⟩
    case hI => exact hI10
    case hlen => omega
    case i0 => omega
    case i1 => omega
    case x0 => omega
    case x1 => omega
    case m0 => omega
    case m1 => omega
    case hne => exact List.forall_mem_cons.mpr ⟨hne3, List.forall_mem_cons.mpr ⟨hD1, hT1⟩⟩
    case hne2 => exact hne2
    case dd => ktr_room
    case uu => ktr_units
    clear F5 N5 hin hT1
    intro r₂ j₂ y₂ z1 z2 z3 h3 tk3 F6 N6 k0 k1 k2 k3 rr0 rr1
    try dsimp only
    k_steps
    refine Stop.mk ?_
    rename Fr _ _ _ _ => F7
    rename News _ _ _ _ => N7
    have hta := (N7 _ (.tail _ (.tail _ (.head _)))).1
    have htk' := htk.at (fun p hp => (N7 p (.tail _ (.tail _ (.tail _ (.tail _ hp))))).1)
    have hlim := T.nolimit.keeps F7.keep
    rename_i h7
    with_unfolding_all refine' gen_spec F7 KX N7 T ?room hta htk' rfl ?_ ⟨rfl, rfl⟩
    case room => ktr_room
    intro I gs h8 tk8 F8 N8 hI8 hgen hkept hgo
    try dsimp only
    k_steps
    refine Stop.mk ?_
    have hdl : (tks.flatMap dueOf).length ≤ 1000 := by rw [← hdi.length]; omega
    with_unfolding_all refine' callList (g := s₁.gens.size) (gs := gs) (hb := h7) rfl ?hroom hlim ?hds ?hg hkept ?hgs ?hgo ?hQ
    case hroom => ktr_room
    case hg => exact hgen
    case hgs => simp
    case hgo => exact fun s'' c hS hk => hgo _ s'' c rfl hS hk
    case hds => split <;> first | exact Nat.zero_le _ | exact hdl
    case hQ =>
      intro s' ys c a1 a2 a3 a4 a5 a6
      have F9 := F7.keeps a3
      obtain ⟨tl2, ht1, ht2, ht3⟩ := a2
      have hL7 : ∃ o, h7.get? s₁.heap.objs.size = some o := let ⟨o, _, _, e, _⟩ := F7.ns; ⟨o, e⟩
      have hL8 : s₁.heap.objs.size < h8.objs.size := F8.ns.lt
      have N9 : News s₁.heap s₁.heap.objs.size s'.heap ((h8.objs.size, listOf ys.toArray c) :: (sa, listOf #[.ref sl, .int j₂ z2, .int y₂ z3] 0) :: (sl, listOf ws.toArray 0) :: (ta, listOf toks.toArray nt) :: (D, listOf due.toArray nd) :: (tl2 ++ tl)) := by
        intro p hp
        rcases List.mem_cons.mp hp with e | hp
        · rw [e]
          exact ⟨a1, Nat.ne_of_gt hL8, Heap.get?_none_of_le (Nat.le_of_lt hL8)⟩
        · have old : p ∈ ((sa, listOf #[.ref sl, .int j₂ z2, .int y₂ z3] 0) :: (sl, listOf ws.toArray 0) :: (ta, listOf toks.toArray nt) :: (D, listOf due.toArray nd) :: tl : Led) → s'.heap.get? p.1 = some p.2 ∧ p.1 ≠ s₁.heap.objs.size ∧ s₁.heap.get? p.1 = none := fun hq => (N7.grown a3) p hq
          rcases List.mem_cons.mp hp with e | hp
          · exact old (e ▸ .head _)
          rcases List.mem_cons.mp hp with e | hp
          · exact old (e ▸ .tail _ (.head _))
          rcases List.mem_cons.mp hp with e | hp
          · exact old (e ▸ .tail _ (.tail _ (.head _)))
          rcases List.mem_cons.mp hp with e | hp
          · exact old (e ▸ .tail _ (.tail _ (.tail _ (.head _))))
          rcases List.mem_append.mp hp with hp | hp
          · refine ⟨(ht1 p hp).1, fun e => ?_, ?_⟩
            · obtain ⟨o, ho⟩ := hL7
              rw [← e, (ht1 p hp).2] at ho
              cases ho
            · cases hq : s₁.heap.get? p.1 with
              | none => rfl
              | some o =>
                have := F7.keep _ _ hq
                rw [(ht1 p hp).2] at this
                cases this
          · exact old (.tail _ (.tail _ (.tail _ (.tail _ hp))))
      have hbare : AllBare s'.gens := by
        rw [a6]
        show AllBare ((s₁.gens.push gs).set! s₁.gens.size .finished)
        rw [hg]
        intro y hy
        simp at hy
        rw [hy]; rfl
      have hasc := toks_asc htk
      clear F8 N8 F7 N7 hgo hkept hgen hlim htk' hI8 a3 a1 ht1 hL7
      obtain ⟨hp9, gn9, dr9, tk9, os9⟩ := s'
      dsimp only at *
      subst a4 a5
      k_steps
      all_goals (refine Stop.mk ?_; rename Fr _ _ _ _ => F10; rename News _ _ _ _ => N10)
      focus
        rename (r₂ = 5) => hr5
        have hds : (if (r₂ == 5) = true then [] else List.flatMap dueOf tks) = [] := by rw [hr5]; rfl
        rw [hds] at ht3
        with_unfolding_all refine' eqDue (zs := []) (tl2 := []) N10 (.tail _ (.head _)) ht3 ?s1 (.head _) DueIn.nil ?s2 ?s3 ?uu ?_
        case s1 => intro p hp; simp [hp]
        case s2 => exact fun _ h => nomatch h
        case s3 => exact fun _ h => nomatch h
        case uu => ktr_units
        dsimp only
        refine goodWG_true F10 hbare (raisesW_false ?_) ?_ rfl
        · wrow_none_raised
        · wrow_post
      focus
        rename (r₂ ≠ 5) => hr5
        have hds : (if (r₂ == 5) = true then [] else List.flatMap dueOf tks) = List.flatMap dueOf tks := if_neg fun e => hr5 (eq_of_beq e)
        rw [hds] at ht3
        with_unfolding_all refine' eqDue N10 (.head _) ht3 ?s1 (.tail _ (.tail _ (.tail _ (.tail _ (.head _))))) hdi ?s2 hasc ?uu ?_
        case s1 => intro p hp; simp [hp]
        case s2 => intro p hp; simp [hp]
        case uu => ktr_units
        dsimp only
        refine goodWG_true F10 hbare (raisesW_false ?_) ?_ rfl
        · wrow_none_raised
        · wrow_post)
end
end Mine

theorem PySem.Challenge.cw_fh0024_01_holds : PySem.Challenge.rw_fh0024_01.Holds := by
  exact Mine.law_holds
